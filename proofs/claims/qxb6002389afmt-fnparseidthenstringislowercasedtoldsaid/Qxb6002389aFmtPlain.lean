/-
  The plain laws on hexadecimal texts: no Go in sight. 'Hx.encode', 'Hx.decode' are the shelf's (Derived/Lib/HexFns, HexFns2).
-/
import Derived.Lib.HexFns2
import Derived.Lib.HexFns
namespace Go.Proofs.Qxb6002389aFmt.hx
open Go.Lib

/-- a .. f made A .. F. -/
def upB (c : UInt8) : UInt8 := if 97 ≤ c.toNat ∧ c.toNat ≤ 102 then UInt8.ofNat (c.toNat - 32) else c
/-- A .. F made a .. f. -/
def lowB (c : UInt8) : UInt8 := if 65 ≤ c.toNat ∧ c.toNat ≤ 70 then UInt8.ofNat (c.toNat + 32) else c

theorem v_digit_fin : ∀ d : Fin 16, Hx.v (Hx.digit d.val) = d.val ∧ Hx.v (upB (Hx.digit d.val)) = d.val := by decide +kernel
theorem v_digit (d : Nat) (h : d < 16) : Hx.v (Hx.digit d) = d := (v_digit_fin ⟨d, h⟩).1
theorem v_up_digit (d : Nat) (h : d < 16) : Hx.v (upB (Hx.digit d)) = d := (v_digit_fin ⟨d, h⟩).2

theorem digit_v_fin : ∀ c : Fin 256, ¬ 15 < Hx.v (UInt8.ofNat c.val) → Hx.digit (Hx.v (UInt8.ofNat c.val)) = lowB (UInt8.ofNat c.val) := by decide +kernel
theorem digit_v (c : UInt8) (h : ¬ 15 < Hx.v c) : Hx.digit (Hx.v c) = lowB c := by
  have := digit_v_fin ⟨c.toNat, UInt8.toNat_lt c⟩
  simp only [UInt8.ofNat_toNat] at this
  exact this h

/-- What was encoded, in either case, is decoded to what it was. -/
theorem decode_encode (u : UInt8 → UInt8) (hu : ∀ d, d < 16 → Hx.v (u (Hx.digit d)) = d) (l : List UInt8) : Hx.decode ((Hx.encode l).map u) = (l, .ok) := by
  induction l with
  | nil => exact Hx.decode_nil
  | cons b t ih =>
    have hb := UInt8.toNat_lt b
    rw [Hx.encode_cons, List.map_cons, List.map_cons, Hx.decode_two, hu _ (by omega), hu _ (by omega), if_neg (by omega), if_neg (by omega), ih]
    have : UInt8.ofNat (b.toNat / 16 * 16 + b.toNat % 16) = b := by
      rw [show b.toNat / 16 * 16 + b.toNat % 16 = b.toNat by omega]
      simp
    rw [this]

theorem decode_encode_id (l : List UInt8) : Hx.decode (Hx.encode l) = (l, .ok) := by
  have := decode_encode id (fun d hd => v_digit d hd) l
  simpa using this

theorem decode_encode_up (l : List UInt8) : Hx.decode ((Hx.encode l).map upB) = (l, .ok) := decode_encode upB v_up_digit l

/-- What was decoded whole is, encoded again, the text in lower case. -/
theorem encode_decode : ∀ (s D : List UInt8), Hx.decode s = (D, .ok) → Hx.encode D = s.map lowB
  | [], D, h => by rw [Hx.decode_nil] at h; cases h; rfl
  | [c], D, h => by rw [Hx.decode_one] at h; split at h <;> cases h
  | p :: q :: t, D, h => by
    rw [Hx.decode_two] at h
    split at h
    · cases h
    · split at h
      · cases h
      · rename_i h1 h2
        have e1 := congrArg Prod.fst h
        have e2 := congrArg Prod.snd h
        simp only at e1 e2
        have ih := encode_decode t (Hx.decode t).1 (by rw [← e2])
        have hn : (UInt8.ofNat (Hx.v p * 16 + Hx.v q)).toNat = Hx.v p * 16 + Hx.v q := by
          rw [UInt8.toNat_ofNat']; omega
        rw [← e1, Hx.encode_cons, hn, show (Hx.v p * 16 + Hx.v q) / 16 = Hx.v p by omega, show (Hx.v p * 16 + Hx.v q) % 16 = Hx.v q by omega, digit_v p h1, digit_v q h2, ih]
        rfl

/-- A text of even length that is decoded whole gives half as many bytes. -/
theorem decode_length : ∀ (s D : List UInt8), Hx.decode s = (D, .ok) → s.length = 2 * D.length := by
  intro s D h
  have := congrArg List.length (encode_decode s D h)
  rw [Hx.encode_length, List.length_map] at this
  exact this.symm

/-- A text of even length is never 'odd'. -/
theorem decode_not_odd : ∀ (s : List UInt8), s.length % 2 = 0 → (Hx.decode s).2 ≠ .odd
  | [], _ => by rw [Hx.decode_nil]; intro h; cases h
  | [c], h => by simp at h
  | p :: q :: t, h => by
    rw [Hx.decode_two]
    have ih := decode_not_odd t (by simp at h; omega)
    split
    · intro h; cases h
    · split
      · intro h; cases h
      · exact ih

end Go.Proofs.Qxb6002389aFmt.hx
