/-
  '==' and '!=' of two IDs: an array of 32 bytes against itself.
-/
import Derived.Test.Qxb6002389aFmtCase
import Derived.DeepKeys
namespace Go.Proofs.Qxb6002389aFmt.hx
open Go.RowKit Go.Lib

theorem cells5 : Tryf.prog.cellsOf 5 = 1 := by kernel_rfl

theorem eqItems_refl (d : Nat) (cs : Array Value) (w : World) : ∀ (is : List Nat), (∀ i ∈ is, ∃ x, cs[i * 1]? = some (.int .u8 x)) → (Op.eqItems (d + 1) 5 1 cs cs is).run Tryf.prog w = .ok true w
  | [], _ => by simp [Op.eqItems]
  | i :: is, h => by
    obtain ⟨x, hx⟩ := h i (by simp)
    have ih := eqItems_refl d cs w is (fun j hj => h j (by simp [hj]))
    have hp : (part 5 cs (i * 1)).run Tryf.prog w = .ok (.int .u8 x) w := run_part_plain w (by kernel_rfl) hx
    simp only [Op.eqItems, Sem.run_bind, hp, Result.andThen_ok, run_equalIn_int w d 5 .u8 .u8 x x Tryf.underlying5]
    simp [ih]

theorem id_eq_self (l : List UInt8) (hl : l.length = 32) (w : World) : (Op.equalIn 10000 23 (.agg (cellsL l)) (.agg (cellsL l))).run Tryf.prog w = .ok true w := by
  obtain ⟨i, hi⟩ : ∃ i, Tryf.prog.info? 5 = some i := info_of_underlying Tryf.underlying5
  rw [show (10000 : Nat) = 9998 + 1 + 1 from rfl, run_equalIn_array w (9998 + 1) _ _ Tryf.underlying23 hi, cells5]
  refine eqItems_refl 9998 (cellsL l) w _ (fun j hj => ?_)
  exact ⟨_, by rw [Nat.mul_one]; exact cellsL_at l j (by have := List.mem_range.1 hj; omega)⟩

end Go.Proofs.Qxb6002389aFmt.hx
