/-
  fmt.Errorf (16) as ParseID calls it: an error that is not nil comes back; nothing that was there turns.
-/
import Derived.Test.Qxb6002389aFmtFacts
import Derived.WalkKit
import Derived.WalkSpells
namespace Go.Proofs.Qxb6002389aFmt.ft
open Go.RowKit Go.Extern.Stop Go.Stop Go.Extern

attribute [local go_sem] call19 call38 guard act3_100w op3_100w act21_85s op21_85s act45_119w isError45 str45 ptr46 elem46 isError46 ptr44 elem44 isError44

set_option maxHeartbeats 800000 in
/-- (encoding/hex.InvalidByteError).Error. -/
theorem error37 (F : Interp) (c : Int) (w : World) (hF : F.answers w.tape) (h0 : 0 ≤ c) (h1 : c ≤ 255) :
    Calls Tryf.prog 37 #[.int .u8 c] w fun e w' => ∃ t : ByteArray, e = .returned (.string t) ∧ w' = (w.alloc (.cells #[.iface 21 (.int .i32 c)] 20)).drew := by
  have hF' := answers_open hF
  have f1 := fC
  have f2 := fCr
  unfold fmtC at f1 f2
  go_enter Tryf.func37, Tryf.ntmps37
  go_wp2
  go_ret
  exact ⟨_, rfl, rfl⟩

set_option maxHeartbeats 800000 in
theorem errorf_len (F : Interp) (x y : Int) (blk : Nat) (w : World) (hF : F.answers w.tape) (hc0 : w.cell? ⟨blk, 0, none⟩ = some (.iface 3 (.int .i64 x))) (hc1 : w.cell? ⟨blk, 1, none⟩ = some (.iface 3 (.int .i64 y))) :
    Calls Tryf.prog 16 #[.string fmtA, .slice (some ⟨blk, 0, none⟩) 2 2] w fun e w' => ∃ v, e = .returned (.iface 46 v) ∧ Below w.heap.size w w' := by
  have hF' := answers_open hF
  have f1 := fA
  have f2 := fAr
  go_enter Tryf.func16, Tryf.ntmps16
  go_wp2
  apply rows_value nextTurns
  case hr =>
    go_simp
    exact ⟨rfl, rfl⟩
  case h =>
    go_wp2
    go_ret
    exact ⟨_, rfl, ((Below.refl _ w).alloc (Nat.le_refl _) _).drew⟩

set_option maxHeartbeats 800000 in
theorem errorf_bad (F : Interp) (c : Int) (blk : Nat) (w : World) (hF : F.answers w.tape) (h0 : 0 ≤ c) (h1 : c ≤ 255) (hc0 : w.cell? ⟨blk, 0, none⟩ = some (.iface 45 (.int .u8 c))) :
    Calls Tryf.prog 16 #[.string fmtB, .slice (some ⟨blk, 0, none⟩) 1 1] w fun e w' => ∃ v, e = .returned (.iface 44 v) ∧ Below w.heap.size w w' := by
  have hF' := answers_open hF
  have hb : blk < w.heap.size := World.block_lt_of_cell? _ _ hc0
  have f1 := fB
  have f2 := fBr
  go_enter Tryf.func16, Tryf.ntmps16
  go_wp2
  apply rows_call nextTurns
  case hr =>
    go_simp
    exact ⟨⟨rfl, rfl, rfl⟩, rfl⟩
  case hi => exact invokeError45 _ _
  case hc =>
    refine (error37 F c _ (by exact hF) h0 h1).mono fun e w₃ ⟨t, he, hx⟩ => ?_
    subst he; subst hx
    apply rows_value nextReturned
    case hr =>
      go_simp
      exact ⟨rfl, rfl⟩
    case h =>
      go_wp2
      go_ret
      exact ⟨⟨_, rfl⟩, ((((Below.refl _ w).alloc (Nat.le_refl _) _).alloc (by simp) _).drew).drew⟩

end Go.Proofs.Qxb6002389aFmt.ft
