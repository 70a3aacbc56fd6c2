/-
  The walks below 'FnHex4MatchesModel': propB1HexDigitValue (13).
-/
import Derived.Test.Qxb6601608aRows
import Derived.WalkKit
import Derived.ProofKit
import Derived.OpenShut
import Derived.ShutString
import Derived.Below
import Derived.Lib.ConvBytes
namespace Go.Proofs.Qxb6601608a.fnHex4
open Go.ChangeShapes Go.WideShapes Go.ChangeAt Go.RowKit

/-- The value of a hexadecimal digit, or -1. -/
def hexv (c : Int) : Int := if 48 ≤ c ∧ c ≤ 57 then c - 48 else if 97 ≤ c ∧ c ≤ 102 then c - 87 else if 65 ≤ c ∧ c ≤ 70 then c - 55 else -1

def lowB (k : Nat) : Int := if k < 10 then 48 + k else 87 + k
def uppB (k : Nat) : Int := if k < 10 then 48 + k else 55 + k

theorem low_at (k : Nat) (h : k < (ByteArray.mk #[48, 49, 50, 51, 52, 53, 54, 55, 56, 57, 97, 98, 99, 100, 101, 102]).size) :
    (((ByteArray.mk #[48, 49, 50, 51, 52, 53, 54, 55, 56, 57, 97, 98, 99, 100, 101, 102])[k]).toNat : Int) = lowB k := by
  have h' : k < 16 := h
  match k, h' with
  | 0, _ | 1, _ | 2, _ | 3, _ | 4, _ | 5, _ | 6, _ | 7, _ | 8, _ | 9, _ | 10, _ | 11, _ | 12, _ | 13, _ | 14, _ | 15, _ => rfl
  | n + 16, h' => exact absurd h' (by omega)

theorem upp_at (k : Nat) (h : k < (ByteArray.mk #[48, 49, 50, 51, 52, 53, 54, 55, 56, 57, 65, 66, 67, 68, 69, 70]).size) :
    (((ByteArray.mk #[48, 49, 50, 51, 52, 53, 54, 55, 56, 57, 65, 66, 67, 68, 69, 70])[k]).toNat : Int) = uppB k := by
  have h' : k < 16 := h
  match k, h' with
  | 0, _ | 1, _ | 2, _ | 3, _ | 4, _ | 5, _ | 6, _ | 7, _ | 8, _ | 9, _ | 10, _ | 11, _ | 12, _ | 13, _ | 14, _ | 15, _ => rfl
  | n + 16, h' => exact absurd h' (by omega)

theorem hit {c : Int} {k : Nat} (hk : k < 16) (h : lowB k = c ∨ uppB k = c) : (k : Int) = hexv c := by
  unfold hexv; unfold lowB uppB at h; split at h <;> omega

theorem miss {c : Int} {k : Nat} (hk : k < 16) (h : Hid (hexv c < 0 ∨ (k : Int) ≤ hexv c)) (h1 : ¬ lowB k = c) (h2 : ¬ uppB k = c) : Hid (hexv c < 0 ∨ ((k + 1 : Nat) : Int) ≤ hexv c) := by
  unfold Hid hexv at *; unfold lowB at h1; unfold uppB at h2; split at h1 <;> simp_all <;> omega

theorem done {c : Int} {k : Nat} (hk : ¬ k < 16) (h : Hid (hexv c < 0 ∨ (k : Int) ≤ hexv c)) : (-1 : Int) = hexv c := by
  unfold Hid hexv at *; omega

theorem ret_int {k : IntKind} {a b : Int} (h : a = b) : Ending.returned (.int k a) = .returned (.int k b) := by rw [h]

set_option maxHeartbeats 400000 in
theorem digit_calls (c : Int) (_h0 : 0 ≤ c) (_h1 : c ≤ 255) (w : World) :
    Calls Try.prog 13 #[.int .u8 c] w fun e w' => e = .returned (.int .i64 (hexv c)) ∧ w' = w := by
  go_enter Try.func13, Try.ntmps13
  go_wp2
  go_loop [3] (fun i => ∃ k : Nat, k ≤ 16 ∧ i = .int .i64 k ∧ Hid (hexv c < 0 ∨ k ≤ hexv c)) (fun i => 16 - (intOf i).toNat)
  case atStart => exact ⟨0, by omega, rfl, by unfold Hid hexv; omega⟩
  case round =>
    obtain ⟨k, hk, rfl, hv⟩ := hrel
    by_cases hlt : k < 16
    · go_wp2
      · rename_i hh _
        rw [low_at] at hh
        go_ret
        exact ⟨ret_int (hit hlt (.inl hh)), rfl⟩
      · rename_i _ hh _
        rw [low_at, upp_at] at hh
        simp only [beq_iff_eq] at hh
        go_ret
        exact ⟨ret_int (hit hlt hh), rfl⟩
      · go_round
        case rel =>
          rename_i hh
          rw [low_at, upp_at] at hh
          simp only [beq_eq_false_iff_ne] at hh
          exact ⟨k + 1, by omega, by go_num, miss hlt hv hh.1 hh.2⟩
        case measure => simp [intOf]; omega
    · go_wp2
      go_ret
      exact ⟨ret_int (done hlt hv), rfl⟩

/-! ### hex4 (28) -/
/-- What the first k digits come to. -/
def acc (f : Nat → Int) : Nat → Int
  | 0 => 0
  | k + 1 => 16 * acc f k + hexv (f k)
def ok4 (f : Nat → Int) : Bool := decide (0 ≤ hexv (f 0)) && decide (0 ≤ hexv (f 1)) && decide (0 ≤ hexv (f 2)) && decide (0 ≤ hexv (f 3))
def res4 (f : Nat → Int) : Int := if ok4 f then acc f 4 else 0

def byteF (s : ByteArray) (j : Nat) : Int := ((s.data.toList.getD (2 + j) 0).toNat : Int)

theorem conv_ok (s : ByteArray) (h : 6 ≤ s.size) (w : World) : ∃ cap W1, (convert 9 28 (.string (s.extract 2 6))).run Try.prog w = .ok (.slice (some ⟨w.heap.size, 0, none⟩) 4 cap) W1 ∧
    (∀ j, j < 4 → W1.cell? ⟨w.heap.size, j, none⟩ = some (.int .u8 (byteF s j))) ∧ Below w.heap.size w W1 := by
  have hsz : (s.extract 2 6).size = 4 := by simp; omega
  have hr := Lib.run_convert_string_bytes (P := Try.prog) w 9 28 5 (s.extract 2 6) Try.underlying9 Try.underlying28 Try.underlying5
  rw [hsz] at hr
  refine ⟨_, _, hr, fun j hj => ?_, ?_⟩
  · rw [Lib.bytesWorld_cell w 5 _ j (by omega)]
    unfold byteF
    have e : (s.extract 2 6).data.toList.getD j 0 = s.data.toList.getD (2 + j) 0 := by
      simp [List.getD, hj]
    rw [e]
  · exact ⟨rfl, rfl, rfl, by rw [Lib.bytesWorld_size]; omega, fun k hk => Lib.bytesWorld_at_old w 5 _ k hk⟩

set_option maxHeartbeats 400000 in
theorem hex4_short (s : ByteArray) (h : s.size < 6) (w : World) :
    Calls Try.prog 28 #[.string s] w fun e w' => e = .returned (.tuple #[.int .i32 0, .bool false]) ∧ w' = w := by
  go_enter Try.func28, Try.ntmps28
  go_wp2
  go_ret2
  exact ⟨rfl, rfl⟩

set_option maxHeartbeats 400000 in
theorem hex4_no0 (s : ByteArray) (h : 6 ≤ s.size) (hb : ¬ s[0].toNat = 92) (w : World) :
    Calls Try.prog 28 #[.string s] w fun e w' => e = .returned (.tuple #[.int .i32 0, .bool false]) ∧ w' = w := by
  go_enter Try.func28, Try.ntmps28
  go_wp2
  go_ret2
  exact ⟨rfl, rfl⟩

set_option maxHeartbeats 400000 in
theorem hex4_no1 (s : ByteArray) (h : 6 ≤ s.size) (hb0 : s[0].toNat = 92) (hb : ¬ s[1].toNat = 117) (w : World) :
    Calls Try.prog 28 #[.string s] w fun e w' => e = .returned (.tuple #[.int .i32 0, .bool false]) ∧ w' = w := by
  have hb1 : ((s[1].toNat : Int) != 117) = true := by rw [bne_iff_ne]; omega
  clear hb
  go_enter Try.func28, Try.ntmps28
  go_wp2
  go_ret2
  exact ⟨rfl, rfl⟩

theorem byteF_range (s : ByteArray) (j : Nat) : 0 ≤ byteF s j ∧ byteF s j ≤ 255 := by
  unfold byteF
  have := UInt8.toNat_lt (s.data.toList.getD (2 + j) 0)
  omega

theorem hexv_le (c : Int) : -1 ≤ hexv c ∧ hexv c ≤ 15 := by
  unfold hexv; split <;> (try split) <;> (try split) <;> omega

theorem acc_range (f : Nat → Int) (k : Nat) (hk : k < 4) (h : ∀ j, j < k → 0 ≤ hexv (f j)) : 0 ≤ acc f k ∧ acc f k ≤ 4095 := by
  have l0 := hexv_le (f 0)
  have l1 := hexv_le (f 1)
  have l2 := hexv_le (f 2)
  match k, hk, h with
  | 0, _, _ => simp [acc]
  | 1, _, h => have := h 0 (by omega); simp [acc]; omega
  | 2, _, h => have := h 0 (by omega); have := h 1 (by omega); simp [acc]; omega
  | 3, _, h => have := h 0 (by omega); have := h 1 (by omega); have := h 2 (by omega); simp [acc]; omega
  | n + 4, hk, _ => exact absurd hk (by omega)

theorem step4 {f : Nat → Int} {k : Nat} {x d : Int} (hv : Hid (∀ j, j < k → 0 ≤ hexv (f j))) (hk : k < 4) (hx : Hid (f k = x)) (hd : hexv x = d) (h0 : 0 ≤ d) :
    bits .or .i32 (wrap32 (acc f k * 16)) d = acc f (k + 1) ∧ Hid (∀ j, j < k + 1 → 0 ≤ hexv (f j)) := by
  obtain ⟨a0, a1⟩ := acc_range f k hk hv
  have hx' : f k = x := hx
  have e : wrap32 (acc f k * 16) = acc f k * 16 := by unfold wrap32; omega
  have hl := hexv_le x
  constructor
  · rw [e, bits_join .i32 31 (by decide) wraps_i32 4 (acc f k * 16) d (by omega) (by omega) (by omega) h0 (by omega) (by omega)]
    simp only [acc, hx', hd]
    omega
  · intro j hj
    by_cases e : j = k
    · rw [e, hx', hd]; exact h0
    · exact hv j (by omega)

theorem notok {f : Nat → Int} {k : Nat} {x : Int} (hk : k < 4) (hx : Hid (f k = x)) (hd : hexv x < 0) : ok4 f = false := by
  have hx' : f k = x := hx
  rw [← hx'] at hd
  unfold ok4
  match k, hk, hd with
  | 0, _, hd => simp; omega
  | 1, _, hd => simp; omega
  | 2, _, hd => simp; omega
  | 3, _, hd => simp; omega
  | n + 4, hk, _ => exact absurd hk (by omega)

theorem isok {f : Nat → Int} {k : Nat} (hk : ¬ k < 4) (hv : Hid (∀ j, j < k → 0 ≤ hexv (f j))) : ok4 f = true := by
  unfold ok4
  simp [hv.out 0 (by omega), hv.out 1 (by omega), hv.out 2 (by omega), hv.out 3 (by omega)]

theorem ret_no {f : Nat → Int} (h : ok4 f = false) : Ending.returned (.tuple #[.int .i32 0, .bool false]) = .returned (.tuple #[.int .i32 (res4 f), .bool (ok4 f)]) := by
  unfold res4; rw [h]; rfl
theorem ret_yes {f : Nat → Int} (h : ok4 f = true) : Ending.returned (.tuple #[.int .i32 (acc f 4), .bool true]) = .returned (.tuple #[.int .i32 (res4 f), .bool (ok4 f)]) := by
  unfold res4; rw [h]; rfl

set_option maxHeartbeats 1000000 in
theorem hex4_main (s : ByteArray) (h : 6 ≤ s.size) (hb0 : s[0].toNat = 92) (hb1 : s[1].toNat = 117) (w : World) :
    Calls Try.prog 28 #[.string s] w fun e w' => e = .returned (.tuple #[.int .i32 (res4 (byteF s)), .bool (ok4 (byteF s))]) ∧ Below w.heap.size w w' := by
  obtain ⟨cap, W1, hconv, hc, hbel⟩ := conv_ok s h w
  go_enter Try.func28, Try.ntmps28
  go_wp2
  have HC : Hid (∀ j, j < 4 → W1.cell? ⟨w.heap.size, j, none⟩ = some (.int .u8 (byteF s j))) := hc
  clear hc hconv
  go_loop [4, 25] (fun r i => ∃ k : Nat, k ≤ 4 ∧ i = .int .i64 k ∧ r = .int .i32 (acc (byteF s) k) ∧ Hid (∀ j, j < k → 0 ≤ hexv (byteF s j))) (fun _ i => 4 - (intOf i).toNat)
  case atStart => exact ⟨0, by omega, rfl, rfl, fun j hj => absurd hj (Nat.not_lt_zero _)⟩
  case round =>
    obtain ⟨k, hk, rfl, rfl, hv⟩ := hrel
    by_cases hlt : k < 4
    · have hcell := HC.out k hlt
      obtain ⟨x0, x1⟩ := byteF_range s k
      obtain ⟨x, hx⟩ : ∃ x, byteF s k = x := ⟨_, rfl⟩
      rw [hx] at hcell x0 x1
      have Hx : Hid (byteF s k = x) := hx
      clear hx
      by_cases d1 : 48 ≤ x ∧ x ≤ 57
      · obtain ⟨d1, d1'⟩ := d1
        go_wp2
        go_round
        case rel =>
          obtain ⟨e1, e2⟩ := step4 (d := x - 48) hv hlt Hx (by unfold hexv; omega) (by omega)
          exact ⟨k + 1, by omega, by go_num, by rw [e1], e2⟩
        case measure => simp [intOf]; omega
      by_cases d2 : 97 ≤ x ∧ x ≤ 102
      · obtain ⟨d2, d2'⟩ := d2
        have g1 : 48 ≤ x := by omega
        have g2 : ¬ x ≤ 57 := by omega
        clear d1
        go_wp2
        go_round
        case rel =>
          obtain ⟨e1, e2⟩ := step4 (d := x - 97 + 10) hv hlt Hx (by unfold hexv; omega) (by omega)
          exact ⟨k + 1, by omega, by go_num, by rw [e1], e2⟩
        case measure => simp [intOf]; omega
      by_cases d3 : 65 ≤ x ∧ x ≤ 70
      · obtain ⟨d3, d3'⟩ := d3
        have g1 : 48 ≤ x := by omega
        have g2 : ¬ x ≤ 57 := by omega
        have g3 : ¬ 97 ≤ x := by omega
        clear d1 d2
        go_wp2
        go_round
        case rel =>
          obtain ⟨e1, e2⟩ := step4 (d := x - 65 + 10) hv hlt Hx (by unfold hexv; omega) (by omega)
          exact ⟨k + 1, by omega, by go_num, by rw [e1], e2⟩
        case measure => simp [intOf]; omega
      have hno : Hid (ok4 (byteF s) = false) := notok hlt Hx (by unfold hexv; omega)
      by_cases g1 : 48 ≤ x
      · by_cases g3 : 97 ≤ x
        · have g2 : ¬ x ≤ 57 := by omega
          have g4 : ¬ x ≤ 102 := by omega
          have g5 : 65 ≤ x := by omega
          have g6 : ¬ x ≤ 70 := by omega
          clear d1 d2 d3
          go_wp2
          go_ret2
          exact ⟨ret_no hno, hbel⟩
        · have g2 : ¬ x ≤ 57 := by omega
          by_cases g5 : 65 ≤ x
          · have g6 : ¬ x ≤ 70 := by omega
            clear d1 d2 d3
            go_wp2
            go_ret2
            exact ⟨ret_no hno, hbel⟩
          · clear d1 d2 d3
            go_wp2
            go_ret2
            exact ⟨ret_no hno, hbel⟩
      · have g3 : ¬ 97 ≤ x := by omega
        have g5 : ¬ 65 ≤ x := by omega
        clear d1 d2 d3
        go_wp2
        go_ret2
        exact ⟨ret_no hno, hbel⟩
    · have hok : Hid (ok4 (byteF s) = true) := isok hlt hv
      obtain rfl : k = 4 := by omega
      go_wp2
      go_ret2
      exact ⟨ret_yes hok, hbel⟩

end Go.Proofs.Qxb6601608a.fnHex4
