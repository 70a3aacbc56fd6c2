/-
  'Rows.FnHex4MatchesModelSaid': after the seat's shell (proof-skeleton.mjs), its world said by 'Below' (the conversion []byte(s) lays a block that bears a mark, so 'Grown' does not serve).
-/
import Derived.Test.Qxb6601608aHexWalks
namespace Go.Proofs.Qxb6601608a.fnHex4MatchesModel
open Go.ChangeShapes Go.WideShapes Go.ChangeAt Go.RowKit Go.Proofs.Qxb6601608a.fnHex4
open Go.ChangeMaps (open_string shut_string)
set_option linter.unusedVariables false

theorem own : ownKnob Try.prog.godebug = none := by kernel_rfl

/-- ZZHex4 hands on what hex4 answers. -/
theorem zz_of {s : ByteArray} {r : Int} {b : Bool} {R : World → Prop} {w : World} (h : Calls Try.prog 28 #[.string s] w fun e w' => e = .returned (.tuple #[.int .i32 r, .bool b]) ∧ R w') :
    Calls Try.prog 12 #[.string s] w fun e w' => e = .returned (.tuple #[.int .i32 r, .bool b]) ∧ R w' := by
  have H : Hid (Calls Try.prog 28 #[.string s] w fun e w' => e = .returned (.tuple #[.int .i32 r, .bool b]) ∧ R w') := h
  clear h
  go_enter Try.func12, Try.ntmps12
  go_wp2_with (go_at_call 28; refine (H.out).mono ?_; rintro e w' ⟨rfl, hq⟩)
  go_ret2
  exact ⟨rfl, hq⟩

/-- The bound on the length, met. -/
theorem zzb (s : ByteArray) (h : s.size ≤ 1048576) (w : World) : Calls Try.prog 11 #[.string s] w fun e w' => e = .returned (.bool true) ∧ w' = w := by
  go_enter Try.func11, Try.ntmps11
  go_wp2
  go_ret
  exact ⟨rfl, rfl⟩

/-- More than 2^20 bytes: true at once. -/
theorem walk_long (a0 : ByteArray) (w0 : a0.size ≤ maxLen) (h : 1048576 < a0.size) (w : World) :
    Calls Try.prog 3 #[.string a0] w fun e w' => e = .returned (.bool true) ∧ Below w.heap.size w w' := by
  unfold maxLen at w0
  go_enter Try.func3, Try.ntmps3
  go_wp2
  go_ret
  exact ⟨rfl, Below.refl _ _⟩

theorem walk_short (a0 : ByteArray) (h20 : a0.size ≤ 1048576) (h : a0.size < 6) (w : World) :
    Calls Try.prog 3 #[.string a0] w fun e w' => e = .returned (.bool true) ∧ Below w.heap.size w w' := by
  go_enter Try.func3, Try.ntmps3
  go_wp2_with (first | (go_at_call 11; refine (zzb _ h20 _).mono ?_; rintro e w' ⟨rfl, rfl⟩) | (go_at_call 12; refine (zz_of (hex4_short _ h _)).mono ?_; rintro e w' ⟨rfl, rfl⟩))
  go_ret
  exact ⟨rfl, Below.refl _ _⟩

theorem walk_no0 (a0 : ByteArray) (h20 : a0.size ≤ 1048576) (h : 6 ≤ a0.size) (hb : ¬ a0[0].toNat = 92) (w : World) :
    Calls Try.prog 3 #[.string a0] w fun e w' => e = .returned (.bool true) ∧ Below w.heap.size w w' := by
  go_enter Try.func3, Try.ntmps3
  go_wp2_with (first | (go_at_call 11; refine (zzb _ h20 _).mono ?_; rintro e w' ⟨rfl, rfl⟩) | (go_at_call 12; refine (zz_of (hex4_no0 _ h hb _)).mono ?_; rintro e w' ⟨rfl, rfl⟩))
  go_ret
  exact ⟨rfl, Below.refl _ _⟩

theorem walk_no1 (a0 : ByteArray) (h20 : a0.size ≤ 1048576) (h : 6 ≤ a0.size) (hb0 : a0[0].toNat = 92) (hb : ¬ a0[1].toNat = 117) (w : World) :
    Calls Try.prog 3 #[.string a0] w fun e w' => e = .returned (.bool true) ∧ Below w.heap.size w w' := by
  have hb1 : ((a0[1].toNat : Int) != 117) = true := by rw [bne_iff_ne]; omega
  go_enter Try.func3, Try.ntmps3
  go_wp2_with (first | (go_at_call 11; refine (zzb _ h20 _).mono ?_; rintro e w' ⟨rfl, rfl⟩) | (go_at_call 12; refine (zz_of (hex4_no1 _ h hb0 hb _)).mono ?_; rintro e w' ⟨rfl, rfl⟩))
  go_ret
  exact ⟨rfl, Below.refl _ _⟩

/-- The weights that the model multiplies by, and what is still to come. -/
def wt : Nat → Int | 0 => 4096 | 1 => 256 | 2 => 16 | 3 => 1 | _ => 0
def sc : Nat → Int | 0 => 65536 | 1 => 4096 | 2 => 256 | 3 => 16 | _ => 1

theorem byte_at (s : ByteArray) (k : Nat) (h : 2 + k < s.size) : (s[2 + k].toNat : Int) = byteF s k := by
  unfold byteF
  have : s.data.toList.getD (2 + k) 0 = s[2 + k] := by
    rw [List.getD, List.getElem?_eq_getElem (by simpa using h)]
    rfl
  rw [this]

theorem byte_le (s : ByteArray) (k : Nat) (h : k < s.size) : (0 : Int) ≤ s[k].toNat ∧ (s[k].toNat : Int) ≤ 255 := by
  have := UInt8.toNat_lt s[k]
  omega

/-- A round of the model: the numbers. -/
theorem model_step (f : Nat → Int) (k : Nat) (hk : k < 4) (hv : Hid (∀ j, j < k → 0 ≤ hexv (f j))) :
    0 ≤ acc f k * sc k ∧ acc f k * sc k ≤ 65535 ∧ 0 ≤ wt k ∧ wt k ≤ 4096 ∧ wt (k + 1) = wt k / 16 ∧
    (0 ≤ hexv (f k) → 0 ≤ hexv (f k) * wt k ∧ hexv (f k) * wt k ≤ 61440 ∧ acc f k * sc k + hexv (f k) * wt k = acc f (k + 1) * sc (k + 1) ∧ Hid (∀ j, j < k + 1 → 0 ≤ hexv (f j))) := by
  have l0 := hexv_le (f 0)
  have l1 := hexv_le (f 1)
  have l2 := hexv_le (f 2)
  have l3 := hexv_le (f 3)
  have hg : 0 ≤ hexv (f k) → Hid (∀ j, j < k + 1 → 0 ≤ hexv (f j)) := fun h0 j hj => by
    by_cases e : j = k
    · rw [e]; exact h0
    · exact hv j (by omega)
  match k, hk, hv, hg with
  | 0, _, _, hg => simp only [acc, sc, wt]; refine ⟨by omega, by omega, by omega, by omega, by omega, fun h0 => ⟨by omega, by omega, by omega, hg h0⟩⟩
  | 1, _, hv, hg => have := hv.out 0 (by omega); simp only [acc, sc, wt]; refine ⟨by omega, by omega, by omega, by omega, by omega, fun h0 => ⟨by omega, by omega, by omega, hg h0⟩⟩
  | 2, _, hv, hg => have := hv.out 0 (by omega); have := hv.out 1 (by omega); simp only [acc, sc, wt]; refine ⟨by omega, by omega, by omega, by omega, by omega, fun h0 => ⟨by omega, by omega, by omega, hg h0⟩⟩
  | 3, _, hv, hg => have := hv.out 0 (by omega); have := hv.out 1 (by omega); have := hv.out 2 (by omega); simp only [acc, sc, wt]; refine ⟨by omega, by omega, by omega, by omega, by omega, fun h0 => ⟨by omega, by omega, by omega, hg h0⟩⟩
  | n + 4, hk, _, _ => exact absurd hk (by omega)

theorem acc4_range (f : Nat → Int) (h : ok4 f = true) : 0 ≤ acc f 4 ∧ acc f 4 ≤ 65535 := by
  have l0 := hexv_le (f 0)
  have l1 := hexv_le (f 1)
  have l2 := hexv_le (f 2)
  have l3 := hexv_le (f 3)
  unfold ok4 at h
  simp only [Bool.and_eq_true, decide_eq_true_eq] at h
  simp only [acc]
  omega

set_option maxHeartbeats 1000000 in
theorem main_no (a0 : ByteArray) (h20 : a0.size ≤ 1048576) (h : 6 ≤ a0.size) (hb0 : a0[0].toNat = 92) (hb1 : a0[1].toNat = 117) (w : World) (HO : Hid (ok4 (byteF a0) = false))
    (HM : Hid (∀ w : World, Calls Try.prog 12 #[.string a0] w fun e w' => e = .returned (.tuple #[.int .i32 0, .bool false]) ∧ Below w.heap.size w w')) :
    Calls Try.prog 3 #[.string a0] w fun e w' => e = .returned (.bool true) ∧ Below w.heap.size w w' := by
  go_enter Try.func3, Try.ntmps3
  go_wp2_with (first | (go_at_call 11; refine (zzb _ h20 _).mono ?_; rintro e w' ⟨rfl, rfl⟩) | (go_at_call 12; refine (HM.out _).mono ?_; rintro e w1 ⟨rfl, hbel⟩))
  go_loopw [5, 6, 7] (fun want weight i wr => ∃ k : Nat, k ≤ 4 ∧ i = .int .i64 (2 + k) ∧ want = .int .i64 (acc (byteF a0) k * sc k) ∧ weight = .int .i64 (wt k) ∧ wr = w1 ∧ Hid (∀ j, j < k → 0 ≤ hexv (byteF a0 j))) (fun _ _ i _ => 6 - (intOf i).toNat)
  case atStart => exact ⟨0, by omega, rfl, rfl, rfl, rfl, fun j hj => absurd hj (Nat.not_lt_zero _)⟩
  case round =>
    obtain ⟨k, hk, rfl, rfl, rfl, rfl, hv⟩ := hrel
    by_cases hlt : k < 4
    · skip
      obtain ⟨m1, m2, m3, m4, m5, m6⟩ := model_step (byteF a0) k hlt hv
      have hat := byte_at a0 k (by omega)
      have hle := byte_le a0 (2 + k) (by omega)
      have Hat : Hid ((a0[2 + k].toNat : Int) = byteF a0 k) := hat
      clear hat
      obtain ⟨d, hd⟩ : ∃ d, hexv (byteF a0 k) = d := ⟨_, rfl⟩
      obtain ⟨A, hA⟩ : ∃ A, acc (byteF a0) k * sc k = A := ⟨_, rfl⟩
      obtain ⟨V, hV⟩ : ∃ V, wt k = V := ⟨_, rfl⟩
      rw [hd, hA, hV] at m6
      rw [hA] at m1 m2
      rw [hV] at m3 m4 m5
      have Hd : Hid (hexv (byteF a0 k) = d) := hd
      have Hm6 : Hid (0 ≤ d → 0 ≤ d * V ∧ d * V ≤ 61440 ∧ A + d * V = acc (byteF a0) (k + 1) * sc (k + 1) ∧ Hid (∀ j, j < k + 1 → 0 ≤ hexv (byteF a0 j))) := m6
      have Hm5 : Hid (wt (k + 1) = V / 16) := m5
      have hdl := hexv_le (byteF a0 k)
      rw [hd] at hdl
      rw [hA, hV]
      clear m5 m6 hd hA hV
      go_wp2_with fail
      refine (digit_calls _ hle.1 hle.2 _).mono ?_
      rintro e w2 ⟨rfl, rfl⟩
      rw [Hat.out, Hd.out]
      by_cases hneg : d < 0
      · clear Hm6 Hm5
        go_wp2
        go_ret
        exact ⟨rfl, hbel⟩
      · skip
        obtain ⟨n1, n2, n3, n4⟩ := Hm6.out (by omega)
        have Hn3 : Hid (A + d * V = acc (byteF a0) (k + 1) * sc (k + 1)) := n3
        clear n3 Hm6
        go_wp2
        go_roundw
        case rel =>
          exact ⟨k + 1, by omega, by go_num, by rw [← Hn3.out], by rw [Hm5.out], trivial, n4⟩
        case measure => simp [intOf]; omega
    · exact absurd (isok hlt hv) (by rw [HO.out]; decide)

set_option maxHeartbeats 1000000 in
theorem main_yes (a0 : ByteArray) (h20 : a0.size ≤ 1048576) (h : 6 ≤ a0.size) (hb0 : a0[0].toNat = 92) (hb1 : a0[1].toNat = 117) (w : World) (HO : Hid (ok4 (byteF a0) = true)) (r : Int) (HR : Hid (acc (byteF a0) 4 = r))
    (HM : Hid (∀ w : World, Calls Try.prog 12 #[.string a0] w fun e w' => e = .returned (.tuple #[.int .i32 r, .bool true]) ∧ Below w.heap.size w w')) :
    Calls Try.prog 3 #[.string a0] w fun e w' => e = .returned (.bool true) ∧ Below w.heap.size w w' := by
  go_enter Try.func3, Try.ntmps3
  go_wp2_with (first | (go_at_call 11; refine (zzb _ h20 _).mono ?_; rintro e w' ⟨rfl, rfl⟩) | (go_at_call 12; refine (HM.out _).mono ?_; rintro e w1 ⟨rfl, hbel⟩))
  go_loopw [5, 6, 7] (fun want weight i wr => ∃ k : Nat, k ≤ 4 ∧ i = .int .i64 (2 + k) ∧ want = .int .i64 (acc (byteF a0) k * sc k) ∧ weight = .int .i64 (wt k) ∧ wr = w1 ∧ Hid (∀ j, j < k → 0 ≤ hexv (byteF a0 j))) (fun _ _ i _ => 6 - (intOf i).toNat)
  case atStart => exact ⟨0, by omega, rfl, rfl, rfl, rfl, fun j hj => absurd hj (Nat.not_lt_zero _)⟩
  case round =>
    obtain ⟨k, hk, rfl, rfl, rfl, rfl, hv⟩ := hrel
    by_cases hlt : k < 4
    · skip
      obtain ⟨m1, m2, m3, m4, m5, m6⟩ := model_step (byteF a0) k hlt hv
      have hat := byte_at a0 k (by omega)
      have hle := byte_le a0 (2 + k) (by omega)
      have Hat : Hid ((a0[2 + k].toNat : Int) = byteF a0 k) := hat
      clear hat
      obtain ⟨d, hd⟩ : ∃ d, hexv (byteF a0 k) = d := ⟨_, rfl⟩
      obtain ⟨A, hA⟩ : ∃ A, acc (byteF a0) k * sc k = A := ⟨_, rfl⟩
      obtain ⟨V, hV⟩ : ∃ V, wt k = V := ⟨_, rfl⟩
      rw [hd, hA, hV] at m6
      rw [hA] at m1 m2
      rw [hV] at m3 m4 m5
      have Hd : Hid (hexv (byteF a0 k) = d) := hd
      have Hm6 : Hid (0 ≤ d → 0 ≤ d * V ∧ d * V ≤ 61440 ∧ A + d * V = acc (byteF a0) (k + 1) * sc (k + 1) ∧ Hid (∀ j, j < k + 1 → 0 ≤ hexv (byteF a0 j))) := m6
      have Hm5 : Hid (wt (k + 1) = V / 16) := m5
      have hdl := hexv_le (byteF a0 k)
      rw [hd] at hdl
      rw [hA, hV]
      clear m5 m6 hd hA hV
      go_wp2_with fail
      refine (digit_calls _ hle.1 hle.2 _).mono ?_
      rintro e w2 ⟨rfl, rfl⟩
      rw [Hat.out, Hd.out]
      have hneg : ¬ d < 0 := fun hneg => by
        have := notok (f := byteF a0) (x := byteF a0 k) hlt rfl (by rw [Hd.out]; exact hneg)
        rw [HO.out] at this
        cases this
      · skip
        obtain ⟨n1, n2, n3, n4⟩ := Hm6.out (by omega)
        have Hn3 : Hid (A + d * V = acc (byteF a0) (k + 1) * sc (k + 1)) := n3
        clear n3 Hm6
        go_wp2
        go_roundw
        case rel =>
          exact ⟨k + 1, by omega, by go_num, by rw [← Hn3.out], by rw [Hm5.out], trivial, n4⟩
        case measure => simp [intOf]; omega
    · obtain rfl : k = 4 := by omega
      have hr4 := acc4_range _ HO.out
      rw [HR.out] at hr4 ⊢
      have hsc : sc 4 = 1 := rfl
      rw [hsc, Int.mul_one]
      go_wp2
      go_ret
      exact ⟨rfl, hbel⟩

theorem walk (a0 : ByteArray) (w0 : a0.size ≤ maxLen) (w : World) :
    Calls Try.prog 3 #[.string a0] w fun e w' => e = .returned (.bool true) ∧ Below w.heap.size w w' := by
  by_cases h20 : a0.size ≤ 1048576
  · by_cases h6 : a0.size < 6
    · exact walk_short a0 h20 h6 w
    · have h6' : 6 ≤ a0.size := by omega
      by_cases hb0 : a0[0].toNat = 92
      · by_cases hb1 : a0[1].toNat = 117
        · have hm := fun w => zz_of (hex4_main a0 h6' hb0 hb1 w)
          by_cases hok : ok4 (byteF a0) = true
          · have hr : res4 (byteF a0) = acc (byteF a0) 4 := by unfold res4; rw [if_pos hok]
            rw [hr, hok] at hm
            exact main_yes a0 h20 h6' hb0 hb1 w hok _ rfl hm
          · have hok' : ok4 (byteF a0) = false := by simpa using hok
            have hr : res4 (byteF a0) = 0 := by unfold res4; rw [if_neg hok]
            rw [hr, hok'] at hm
            exact main_no a0 h20 h6' hb0 hb1 w hok' hm
        · exact walk_no1 a0 h20 h6' hb0 hb1 w
      · exact walk_no0 a0 h20 h6' hb0 w
  · exact walk_long a0 w0 (by omega) w

/-! ### THE ROW's STEP -/
set_option maxRecDepth 100000 in
theorem lifted (os : Os) (started : os.Started) (H : Type) (enc : TypeId × Value → H) :
    ReturnsInHanded {} Try.checked os 3 .any (Rows.fnHex4MatchesModelSpec.pre6 enc Try.prog Try.f3 Rows.fnHex4MatchesModelRow.domain false) (Rows.fnHex4MatchesModelSpec.post enc Try.prog Try.f3 false true false false) := by
  refine returnsInHanded_of_change (C := Try.checked) own started (by kernel_rfl) Try.func3
    (ChangeSpec.witness6 (enc := enc) (C := Try.checked) false ⟨#[], #[.string ByteArray.empty], []⟩ 8 (by kernel_rfl) (by kernel_rfl) (by kernel_rfl) (by kernel_rfl)) ?_
  intro W base args ds gs before hval0 hW hcnd _
  have hval : ∀ (j : Nat) t v, Try.f3.params[j]? = some t → args[j]? = some v → Value.okWide Try.prog W .any base t v := hval0
  have hW' := hW
  obtain ⟨p, q, hA0, hV, rfl, hfz, hnd⟩ := hW
  have hA : DataW.TrodAll enc Try.prog W 0 (fun _ => true) true Try.f3.params.toList args.toList ds p := hA0
  rw [Try.params3] at hA hval
  obtain ⟨v0, vs0, d0, ds0, p0, q0, hargs, rfl, rfl, h0, r0⟩ := trodAll_cons hA
  obtain ⟨rfl, rfl, rfl⟩ := trodAll_nil r0
  obtain rfl : args = #[v0] := by cases args; simp_all
  obtain ⟨rfl, rfl⟩ := trodVars_none hV
  obtain ⟨a0, rfl, rfl, rfl, w0⟩ := open_string Try.underlying9 (hval 0 9 v0 rfl rfl) h0
  clear hA0 hval0
  simp only [List.append_nil] at hW'
  refine (walk a0 w0 W).mono fun e W' ⟨he, bel⟩ => ?_
  subst he
  exact ⟨_, rfl, _, _, _, [], [], [], hW', trodAll_mk1 (shut_bool Try.underlying4 _), trodAll_mk1 (shut_string Try.underlying9 w0), rfl, bel.frame _, fun h => by cases h⟩

/-! ### The row's closed facts, each a lemma of its own. The three that read the dump's head (mayEnter, liftsFinal, make) are drawn for any program from its head's first word behind the main word, and the head is read as numbers: the kernel's own decoding of the long literal outgrows its memory. -/
theorem and_mk {a b : Bool} (ha : a = true) (hb : b = true) : (a && b) = true := by rw [ha, hb]; rfl

theorem strip_cut (rest : List (List Char)) : stripLifts liftWords (['c', 'u', 't'] :: rest) = ([], ['c', 'u', 't'] :: rest) := by
  simp [stripLifts, liftWords]
theorem make_cut {P : Program} {rest : List (List Char)} (h : behindMainWord (wordsSigns P.initOrder.toList) = ['c', 'u', 't'] :: rest) : P.make = some .cut := by
  simp [Program.make, h]
theorem lifted_cut {P : Program} {rest : List (List Char)} (h : behindMainWord (wordsSigns P.initOrder.toList) = ['c', 'u', 't'] :: rest) : P.liftsFinal = false := by
  simp [Program.liftsFinal, Program.headLifts, h, strip_cut]
theorem enter_cut {P : Program} {rest : List (List Char)} (h : behindMainWord (wordsSigns P.initOrder.toList) = ['c', 'u', 't'] :: rest) (d : P.doorFits [] = true) (l : P.laysLater = false) (b : P.bearsReflect = false) : P.mayEnter = true := by
  simp [Program.mayEnter, h, strip_cut, d, l, b]

def headNums : List Nat := [104, 97, 114, 110, 101, 115, 115, 32, 101, 55, 53, 49, 50, 102, 51, 51, 48, 53, 97, 102, 100, 56, 52, 102, 50, 97, 99, 97, 99, 100, 99, 97, 100, 99, 99, 49, 55, 56, 53, 102, 53, 54, 53, 57, 52, 50, 102, 98, 55, 53, 97, 54, 100, 99, 50, 97, 49, 53, 101, 49, 48, 50, 100, 97, 101, 98, 50, 98, 48, 50, 102, 99, 32, 99, 117, 116, 32, 97, 116, 32, 101, 120, 97, 109, 112, 108, 101, 46, 99, 111, 109, 47, 108, 105, 98, 118, 97, 114, 47, 108, 105, 98, 118, 97, 114, 47, 122, 122, 108, 97, 119, 115, 95, 105, 110, 116, 101, 114, 110, 97, 108, 95, 112, 114, 111, 112, 101, 114, 116, 105, 101, 115, 95, 98, 49, 46, 70, 110, 72, 101, 120, 52, 77, 97, 116, 99, 104, 101, 115, 77, 111, 100, 101, 108, 32, 101, 120, 97, 109, 112, 108, 101, 46, 99, 111, 109, 47, 108, 105, 98, 118, 97, 114, 47, 108, 105, 98, 118, 97, 114, 47, 122, 122, 108, 97, 119, 115, 95, 105, 110, 116, 101, 114, 110, 97, 108, 95, 112, 114, 111, 112, 101, 114, 116, 105, 101, 115, 95, 98, 49, 46, 70, 110, 72, 101, 120, 52, 69, 110, 99, 111, 100, 101, 82, 111, 117, 110, 100, 84, 114, 105, 112, 32, 101, 120, 97, 109, 112, 108, 101, 46, 99, 111, 109, 47, 108, 105, 98, 118, 97, 114, 47, 108, 105, 98, 118, 97, 114, 47, 122, 122, 108, 97, 119, 115, 95, 105, 110, 116, 101, 114, 110, 97, 108, 95, 112, 114, 111, 112, 101, 114, 116, 105, 101, 115, 95, 98, 49, 46, 70, 110, 72, 101, 120, 52, 82, 101, 97, 100, 115, 79, 110, 108, 121, 73, 116, 115, 83, 105, 120, 66, 121, 116, 101, 115, 32, 101, 120, 97, 109, 112, 108, 101, 46, 99, 111, 109, 47, 108, 105, 98, 118, 97, 114, 47, 108, 105, 98, 118, 97, 114, 47, 122, 122, 108, 97, 119, 115, 95, 105, 110, 116, 101, 114, 110, 97, 108, 95, 112, 114, 111, 112, 101, 114, 116, 105, 101, 115, 95, 98, 49, 46, 70, 110, 78, 101, 120, 116, 76, 105, 110, 101, 77, 97, 116, 99, 104, 101, 115, 77, 111, 100, 101, 108, 32, 101, 120, 97, 109, 112, 108, 101, 46, 99, 111, 109, 47, 108, 105, 98, 118, 97, 114, 47, 108, 105, 98, 118, 97, 114, 47, 122, 122, 108, 97, 119, 115, 95, 105, 110, 116, 101, 114, 110, 97, 108, 95, 112, 114, 111, 112, 101, 114, 116, 105, 101, 115, 95, 98, 49, 46, 70, 110, 78, 101, 120, 116, 76, 105, 110, 101, 76, 97, 110, 100, 115, 79, 110, 67, 111, 110, 116, 101, 110, 116, 65, 110, 100, 73, 115, 73, 100, 101, 109, 112, 111, 116, 101, 110, 116, 32, 101, 120, 97, 109, 112, 108, 101, 46, 99, 111, 109, 47, 108, 105, 98, 118, 97, 114, 47, 108, 105, 98, 118, 97, 114, 47, 122, 122, 108, 97, 119, 115, 95, 105, 110, 116, 101, 114, 110, 97, 108, 95, 112, 114, 111, 112, 101, 114, 116, 105, 101, 115, 95, 98, 49, 46, 70, 110, 76, 111, 103, 105, 99, 97, 108, 76, 105, 110, 101, 77, 97, 116, 99, 104, 101, 115, 77, 111, 100, 101, 108, 32, 101, 120, 97, 109, 112, 108, 101, 46, 99, 111, 109, 47, 108, 105, 98, 118, 97, 114, 47, 108, 105, 98, 118, 97, 114, 47, 122, 122, 108, 97, 119, 115, 95, 105, 110, 116, 101, 114, 110, 97, 108, 95, 112, 114, 111, 112, 101, 114, 116, 105, 101, 115, 95, 98, 49, 46, 70, 110, 76, 111, 103, 105, 99, 97, 108, 76, 105, 110, 101, 80, 105, 101, 99, 101, 115, 67, 111, 109, 101, 70, 114, 111, 109, 84, 104, 101, 84, 101, 120, 116, 32, 101, 120, 97, 109, 112, 108, 101, 46, 99, 111, 109, 47, 108, 105, 98, 118, 97, 114, 47, 108, 105, 98, 118, 97, 114, 47, 122, 122, 108, 97, 119, 115, 95, 105, 110, 116, 101, 114, 110, 97, 108, 95, 112, 114, 111, 112, 101, 114, 116, 105, 101, 115, 95, 98, 49, 46, 70, 110, 83, 99, 97, 110, 79, 102, 84, 101, 120, 116, 65, 100, 118, 97, 110, 99, 101, 115, 84, 111, 73, 116, 115, 69, 110, 100]
set_option maxRecDepth 100000 in
theorem head_eq : Try.pinned.checked.prog.initOrder = String.ofList (headNums.map Char.ofNat) := by kernel_rfl
theorem head_words : (behindMainWord (wordsSigns (headNums.map Char.ofNat))).head? = some ['c', 'u', 't'] := by kernel_rfl
theorem cut_of {s : String} {l : List Char} (hs : s = String.ofList l) (hw : (behindMainWord (wordsSigns l)).head? = some ['c', 'u', 't']) : ∃ rest, behindMainWord (wordsSigns s.toList) = ['c', 'u', 't'] :: rest := by
  rw [hs, String.toList_ofList]
  cases h : behindMainWord (wordsSigns l) with
  | nil => rw [h] at hw; cases hw
  | cons c r => rw [h] at hw; cases hw; exact ⟨r, rfl⟩
theorem head_cut : ∃ rest, behindMainWord (wordsSigns Try.pinned.checked.prog.initOrder.toList) = ['c', 'u', 't'] :: rest := cut_of head_eq head_words
theorem fact_doors : Try.pinned.checked.prog.doorFits [] = true := by kernel_rfl
theorem fact_lays : Try.pinned.checked.prog.laysLater = false := by kernel_rfl
theorem fact_bears : Try.pinned.checked.prog.bearsReflect = false := by kernel_rfl
theorem fact_enter : Try.pinned.checked.prog.mayEnter = true := by
  obtain ⟨rest, h⟩ := head_cut
  exact enter_cut h fact_doors fact_lays fact_bears
theorem fact_lifted : (Rows.fnHex4MatchesModelRow.lifted == Try.pinned.checked.prog.liftsFinal) = true := by
  obtain ⟨rest, h⟩ := head_cut
  rw [lifted_cut h]
  rfl
theorem fact_make : (Try.pinned.checked.prog.make == some Rows.fnHex4MatchesModelRow.make) = true := by
  obtain ⟨rest, h⟩ := head_cut
  rw [make_cut h]
  rfl

set_option maxRecDepth 100000 in
theorem closed : joinedFacts Try.pinned.checked.prog 3 Try.f3 Rows.fnHex4MatchesModelSpec Rows.fnHex4MatchesModelRow = true := by
  unfold joinedFacts
  repeat' (with_reducible refine and_mk ?_ ?_)
  all_goals (first | (with_reducible exact fact_enter) | (with_reducible exact fact_lifted) | (with_reducible exact fact_make) | (as_aux_lemma => kernel_rfl))


theorem instOf : Try.f3.isInstance Try.pinned.checked.prog Rows.fnHex4MatchesModelRow.origin Rows.fnHex4MatchesModelRow.targs := of_decide_eq_true (by kernel_rfl)
theorem wrapOf : Try.f3.isWrapper Try.pinned.checked.prog Rows.fnHex4MatchesModelRow.wrapper Rows.fnHex4MatchesModelRow.mainSum := by
  unfold Func.isWrapper; first | (rw [if_pos (by decide +kernel)]; kernel_rfl) | (rw [if_neg (by decide +kernel)]; exact ⟨rfl, rfl⟩)

theorem over : Rows.fnHex4MatchesModelRow.holds Try.pinned (OpenSpec.ofChange Rows.fnHex4MatchesModelSpec) :=
  OpenClaim.holds_of_wide 3 Try.f3 rfl rfl rfl rfl rfl rfl rfl ⟨rfl, rfl, rfl, rfl, rfl⟩ rfl rfl rfl rfl rfl (by kernel_rfl) Try.func3 closed instOf wrapOf
    (fun os started H enc _ => lifted os started H enc)

/-- THE STATEMENT -/
theorem proved : Rows.FnHex4MatchesModelSaid :=
  over
end Go.Proofs.Qxb6601608a.fnHex4MatchesModel
