/-
  'Rows.FnVerdictStringReadsBackSaid': the plain laws on a verdict's text, the law's walk, the row's step (after the seat's shell).
-/
import Derived.Test.Qxb6002360aVerdictWalks
import Derived.Lib.Strings
namespace Go.Proofs.Qxb6002360a.fnVerdictStringReadsBack
open Go.ChangeShapes Go.WideShapes Go.ChangeAt Go.RowKit Go.Proofs.Qxb6002360a.fnVerdict
open Go.ChangeMaps (open_string shut_string)
set_option linter.unusedVariables false

theorem own : ownKnob Try.prog.godebug = none := by kernel_rfl

/-! ### The plain laws: no Go in sight -/
theorem ba_ext {a b : ByteArray} (h : a.data.toList = b.data.toList) : a = b := by
  cases a; cases b; simp at h; rw [h]

/-- What stands behind the word. -/
def tail (s : ByteArray) : ByteArray := ⟨#[32, 40]⟩ ++ s ++ ⟨#[41]⟩

theorem tail_list (s : ByteArray) : (tail s).data.toList = 32 :: 40 :: (s.data.toList ++ [41]) := by simp [tail]
theorem tail_size (s : ByteArray) : (tail s).size = s.size + 3 := by
  rw [Lib.size_eq, tail_list, Lib.size_eq]; simp

theorem vtext_list (h : Bool) (s : ByteArray) (h0 : ¬ s.size = 0) : (vtext h s).data.toList = (word h).data.toList ++ (tail s).data.toList := by
  unfold vtext; rw [if_neg h0]; simp [tail]

theorem tail_at {s : ByteArray} {i : Nat} (h : i < (tail s).size) (b : UInt8) (hb : (tail s).data.toList[i]? = some b) : (tail s)[i].toNat = b.toNat := by
  have : (tail s)[i] = b := by
    have e : (tail s).data.toList[i]? = some ((tail s)[i]) := by
      rw [List.getElem?_eq_getElem (by simpa using h)]; rfl
    rw [e] at hb
    exact Option.some.inj hb
  rw [this]

theorem tail_mid (s : ByteArray) : (tail s).extract 2 ((tail s).size - 1) = s := by
  apply ba_ext
  rw [Lib.extract_data, tail_list, tail_size, Lib.size_eq]
  generalize s.data.toList = L
  simp

theorem read_calls (h : Bool) (s : ByteArray) (hs : s.size ≤ 1048576) (w : World) :
    Calls Try.prog 17 #[.string (vtext h s)] w fun e w' => e = .returned (.tuple #[.bool h, .string s, .bool true]) ∧ w'.Alike w := by
  by_cases h0 : s.size = 0
  · have hv : vtext h s = word h := by unfold vtext; rw [if_pos h0]
    have hs0 : s = ⟨#[]⟩ := by
      apply ba_ext
      exact List.eq_nil_of_length_eq_zero (by rw [Array.length_toList]; exact h0)
    rw [hv, hs0]
    exact read_word h w
  · have hl := vtext_list h s h0
    have hz := tail_size s
    have hvz : (vtext h s).size = (word h).size + (tail s).size := by
      rw [Lib.size_eq, hl, List.length_append, ← Lib.size_eq, ← Lib.size_eq]
    have r0 := tail_at (s := s) (i := 0) (by omega) 32 (by rw [tail_list]; rfl)
    have r1 := tail_at (s := s) (i := 1) (by omega) 40 (by rw [tail_list]; rfl)
    have rl := tail_at (s := s) (i := (tail s).size - 1) (by omega) 41 (by
      rw [tail_list, hz, Lib.size_eq]
      generalize s.data.toList = L
      simp)
    cases h
    · refine read_no _ (tail s) s (by omega) (by omega) ?_ ?_ ?_ (by omega) r0 r1 rl (tail_mid s) w
      · rw [ByteArray.toList_eq, Lib.extract_data, hl, tail_list]; rfl
      · apply ba_ext; rw [Lib.extract_data, hl]; rfl
      · apply ba_ext
        rw [Lib.extract_data, hl, hvz, Lib.size_eq (tail s)]
        generalize (tail s).data.toList = L
        show List.take (2 + L.length - 2) L = L
        rw [Nat.add_sub_cancel_left, List.take_length]
    · refine read_yes _ (tail s) s (by omega) (by omega) ?_ ?_ (by omega) r0 r1 rl (tail_mid s) w
      · apply ba_ext; rw [Lib.extract_data, hl]; rfl
      · apply ba_ext
        rw [Lib.extract_data, hl, hvz, Lib.size_eq (tail s)]
        generalize (tail s).data.toList = L
        show List.take (3 + L.length - 3) L = L
        rw [Nat.add_sub_cancel_left, List.take_length]

/-- Two verdicts of one text are one. -/
theorem vtext_inj {h1 h2 : Bool} {s1 s2 : ByteArray} (h : vtext h1 s1 = vtext h2 s2) : h1 = h2 ∧ s1 = s2 := by
  have hd : (vtext h1 s1).data.toList = (vtext h2 s2).data.toList := by rw [h]
  have key : ∀ (b : Bool) (s : ByteArray), ∃ r, (vtext b s).data.toList = (word b).data.toList ++ r ∧ ((s.size = 0 ∧ r = []) ∨ (¬ s.size = 0 ∧ r = (tail s).data.toList)) := by
    intro b s
    by_cases h0 : s.size = 0
    · exact ⟨[], by unfold vtext; rw [if_pos h0]; simp, .inl ⟨h0, rfl⟩⟩
    · exact ⟨_, vtext_list b s h0, .inr ⟨h0, rfl⟩⟩
  obtain ⟨r1, e1, k1⟩ := key h1 s1
  obtain ⟨r2, e2, k2⟩ := key h2 s2
  rw [e1, e2] at hd
  have hb : h1 = h2 := by
    cases h1 <;> cases h2 <;> simp [word] at hd ⊢
  subst hb
  have hr : r1 = r2 := List.append_cancel_left hd
  subst hr
  refine ⟨rfl, ?_⟩
  have hnil : ∀ s : ByteArray, s.size = 0 → s.data.toList = [] := fun s hs => List.eq_nil_of_length_eq_zero (by rw [Array.length_toList]; exact hs)
  rcases k1 with ⟨z1, q1⟩ | ⟨z1, q1⟩ <;> rcases k2 with ⟨z2, q2⟩ | ⟨z2, q2⟩
  · exact ba_ext (by rw [hnil _ z1, hnil _ z2])
  · rw [q1, tail_list] at q2; simp at q2
  · rw [q1, tail_list] at q2; simp at q2
  · rw [q1, tail_list, tail_list] at q2; simp at q2; exact ba_ext (by rw [q2])

theorem grown_alike {W w1 w' : World} (h : Grown W w1) (ha : w'.Alike w1) : Grown W w' :=
  ⟨h.1.alike ha, fun a => by rw [← h.2.1 a]; simp [World.frozen?, ha.1], by rw [ha.1]; exact h.2.2⟩

theorem toList_ne {a b : ByteArray} (h : ¬ a = b) : (a.toList == b.toList) = false := by
  rw [beq_eq_false_iff_ne]
  intro e
  rw [ByteArray.toList_eq, ByteArray.toList_eq] at e
  exact h (ba_ext e)

/-! ### The walks -/
theorem zzb_yes (h1 h2 : Bool) (s1 s2 : ByteArray) (hs : s1.size + s2.size ≤ 1048576) (w : World) :
    Calls Try.prog 15 #[.bool h1, .string s1, .bool h2, .string s2] w fun e w' => e = .returned (.bool true) ∧ w' = w := by
  go_enter Try.func15, Try.ntmps15
  go_wp2
  go_ret
  exact ⟨rfl, rfl⟩

theorem zzb_no (h1 h2 : Bool) (s1 s2 : ByteArray) (m1 : s1.size ≤ maxLen) (m2 : s2.size ≤ maxLen) (hs : ¬ s1.size + s2.size ≤ 1048576) (w : World) :
    Calls Try.prog 15 #[.bool h1, .string s1, .bool h2, .string s2] w fun e w' => e = .returned (.bool false) ∧ w' = w := by
  unfold maxLen at m1 m2
  by_cases c1 : s1.size ≤ 1048576
  · by_cases c2 : s2.size ≤ 1048576
    · go_enter Try.func15, Try.ntmps15
      go_wp2
      go_ret
      exact ⟨rfl, rfl⟩
    · go_enter Try.func15, Try.ntmps15
      go_wp2
      go_ret
      exact ⟨rfl, rfl⟩
  · go_enter Try.func15, Try.ntmps15
    go_wp2
    go_ret
    exact ⟨rfl, rfl⟩

theorem walk_long (a0 : Bool) (a1 : ByteArray) (a2 : Bool) (a3 : ByteArray) (w1 : a1.size ≤ maxLen) (w3 : a3.size ≤ maxLen) (hs : ¬ a1.size + a3.size ≤ 1048576) (w : World) :
    Calls Try.prog 8 #[.bool a0, .string a1, .bool a2, .string a3] w fun e w' => e = .returned (.bool true) ∧ Grown w w' := by
  go_enter Try.func8, Try.ntmps8
  go_wp2_with (go_at_call 15; refine (zzb_no _ _ _ _ w1 w3 hs _).mono ?_; rintro e w' ⟨rfl, rfl⟩)
  go_ret
  exact ⟨rfl, Grown.refl _⟩

set_option maxHeartbeats 400000 in
theorem walk_same (a0 : Bool) (a1 : ByteArray) (hs : a1.size + a1.size ≤ 1048576) (w : World) :
    Calls Try.prog 8 #[.bool a0, .string a1, .bool a0, .string a1] w fun e w' => e = .returned (.bool true) ∧ Grown w w' := by
  have hs1 : a1.size ≤ 1048576 := by omega
  go_enter Try.func8, Try.ntmps8
  go_wp2_with (first | (go_at_call 15; refine (zzb_yes _ _ _ _ hs _).mono ?_; rintro e w' ⟨rfl, rfl⟩) | (go_at_call 16; refine (string_calls _ _ hs1 _).mono ?_; rintro e w' ⟨rfl, rfl⟩) | (go_at_call 17; refine (read_calls _ _ hs1 _).mono ?_; rintro e w' ⟨rfl, hal⟩))
  go_ret
  exact ⟨rfl, grown_alike (by repeat (first | exact Grown.refl _ | apply Grown.drew | apply Grown.alloc)) hal⟩

set_option maxHeartbeats 400000 in
theorem walk_diffS (a0 : Bool) (a1 a3 : ByteArray) (hs : a1.size + a3.size ≤ 1048576) (hd : (a1.toList == a3.toList) = false) (w : World) :
    Calls Try.prog 8 #[.bool a0, .string a1, .bool a0, .string a3] w fun e w' => e = .returned (.bool true) ∧ Grown w w' := by
  have hs1 : a1.size ≤ 1048576 := by omega
  have hs3 : a3.size ≤ 1048576 := by omega
  have ht : ((vtext a0 a1).toList == (vtext a0 a3).toList) = false := toList_ne (fun e => by
    obtain ⟨e1, e2⟩ := vtext_inj e
    rw [e2] at hd; simp at hd)
  go_enter Try.func8, Try.ntmps8
  go_wp2_with fail
  refine (zzb_yes a0 a0 a1 a3 hs _).mono ?_
  rintro e w' ⟨rfl, rfl⟩
  go_wp2_with fail
  refine (string_calls a0 a1 hs1 _).mono ?_
  rintro e w' ⟨rfl, rfl⟩
  go_wp2_with fail
  refine (string_calls a0 a3 hs3 _).mono ?_
  rintro e w' ⟨rfl, rfl⟩
  go_wp2_with fail
  refine (read_calls a0 a1 hs1 _).mono ?_
  rintro e w' ⟨rfl, hal⟩
  go_wp2_with fail
  go_ret
  exact ⟨rfl, grown_alike (by repeat (first | exact Grown.refl _ | apply Grown.drew | apply Grown.alloc)) hal⟩

set_option maxHeartbeats 400000 in
theorem walk_yn (a1 a3 : ByteArray) (hs : a1.size + a3.size ≤ 1048576) (w : World) :
    Calls Try.prog 8 #[.bool true, .string a1, .bool false, .string a3] w fun e w' => e = .returned (.bool true) ∧ Grown w w' := by
  have hs1 : a1.size ≤ 1048576 := by omega
  have hs3 : a3.size ≤ 1048576 := by omega
  have ht : ((vtext true a1).toList == (vtext false a3).toList) = false := toList_ne (fun e => by
    obtain ⟨e1, e2⟩ := vtext_inj e
    cases e1)
  go_enter Try.func8, Try.ntmps8
  go_wp2_with fail
  refine (zzb_yes true false a1 a3 hs _).mono ?_
  rintro e w' ⟨rfl, rfl⟩
  go_wp2_with fail
  refine (string_calls true a1 hs1 _).mono ?_
  rintro e w' ⟨rfl, rfl⟩
  go_wp2_with fail
  refine (string_calls false a3 hs3 _).mono ?_
  rintro e w' ⟨rfl, rfl⟩
  go_wp2_with fail
  refine (read_calls true a1 hs1 _).mono ?_
  rintro e w' ⟨rfl, hal⟩
  go_wp2_with fail
  go_ret
  exact ⟨rfl, grown_alike (by repeat (first | exact Grown.refl _ | apply Grown.drew | apply Grown.alloc)) hal⟩

set_option maxHeartbeats 400000 in
theorem walk_ny (a1 a3 : ByteArray) (hs : a1.size + a3.size ≤ 1048576) (w : World) :
    Calls Try.prog 8 #[.bool false, .string a1, .bool true, .string a3] w fun e w' => e = .returned (.bool true) ∧ Grown w w' := by
  have hs1 : a1.size ≤ 1048576 := by omega
  have hs3 : a3.size ≤ 1048576 := by omega
  have ht : ((vtext false a1).toList == (vtext true a3).toList) = false := toList_ne (fun e => by
    obtain ⟨e1, e2⟩ := vtext_inj e
    cases e1)
  go_enter Try.func8, Try.ntmps8
  go_wp2_with fail
  refine (zzb_yes false true a1 a3 hs _).mono ?_
  rintro e w' ⟨rfl, rfl⟩
  go_wp2_with fail
  refine (string_calls false a1 hs1 _).mono ?_
  rintro e w' ⟨rfl, rfl⟩
  go_wp2_with fail
  refine (string_calls true a3 hs3 _).mono ?_
  rintro e w' ⟨rfl, rfl⟩
  go_wp2_with fail
  refine (read_calls false a1 hs1 _).mono ?_
  rintro e w' ⟨rfl, hal⟩
  go_wp2_with fail
  go_ret
  exact ⟨rfl, grown_alike (by repeat (first | exact Grown.refl _ | apply Grown.drew | apply Grown.alloc)) hal⟩

theorem walk (a0 : Bool) (a1 : ByteArray) (a2 : Bool) (a3 : ByteArray) (w1 : a1.size ≤ maxLen) (w3 : a3.size ≤ maxLen) (w : World) :
    Calls Try.prog 8 #[.bool a0, .string a1, .bool a2, .string a3] w fun e w' => e = .returned (.bool true) ∧ Grown w w' := by
  by_cases hs : a1.size + a3.size ≤ 1048576
  · by_cases e0 : a0 = a2
    · subst e0
      cases hd : (a1.toList == a3.toList) with
      | false => exact walk_diffS a0 a1 a3 hs hd w
      | true =>
        rw [beq_iff_eq, ByteArray.toList_eq, ByteArray.toList_eq] at hd
        have e3 := ba_ext hd
        subst e3
        exact walk_same a0 a1 hs w
    · cases a0 <;> cases a2
      · exact absurd rfl e0
      · exact walk_ny a1 a3 hs w
      · exact walk_yn a1 a3 hs w
      · exact absurd rfl e0
  · exact walk_long a0 a1 a2 a3 w1 w3 hs w

/-! ### THE ROW's STEP: the shell's own -/
set_option maxRecDepth 100000 in
theorem lifted (os : Os) (started : os.Started) (H : Type) (enc : TypeId × Value → H) :
    ReturnsInHanded {} Try.checked os 8 .any (Rows.fnVerdictStringReadsBackSpec.pre6 enc Try.prog Try.f8 Rows.fnVerdictStringReadsBackRow.domain false) (Rows.fnVerdictStringReadsBackSpec.post enc Try.prog Try.f8 false true false false) := by
  refine returnsInHanded_of_change (C := Try.checked) own started (by kernel_rfl) Try.func8
    (ChangeSpec.witness6 (enc := enc) (C := Try.checked) false ⟨#[], #[.bool false, .string ByteArray.empty, .bool false, .string ByteArray.empty], []⟩ 8 (by kernel_rfl) (by kernel_rfl) (by kernel_rfl) (by kernel_rfl)) ?_
  intro W base args ds gs before hval0 hW hcnd _
  have hval : ∀ (j : Nat) t v, Try.f8.params[j]? = some t → args[j]? = some v → Value.okWide Try.prog W .any base t v := hval0
  have hW' := hW
  obtain ⟨p, q, hA0, hV, rfl, hfz, hnd⟩ := hW
  have hA : DataW.TrodAll enc Try.prog W 0 (fun _ => true) true Try.f8.params.toList args.toList ds p := hA0
  rw [Try.params8] at hA hval
  obtain ⟨v0, vs0, d0, ds0, p0, q0, hargs, rfl, rfl, h0, r0⟩ := trodAll_cons hA
  obtain ⟨v1, vs1, d1, ds1, p1, q1, rfl, rfl, rfl, h1, r1⟩ := trodAll_cons r0
  obtain ⟨v2, vs2, d2, ds2, p2, q2, rfl, rfl, rfl, h2, r2⟩ := trodAll_cons r1
  obtain ⟨v3, vs3, d3, ds3, p3, q3, rfl, rfl, rfl, h3, r3⟩ := trodAll_cons r2
  obtain ⟨rfl, rfl, rfl⟩ := trodAll_nil r3
  obtain rfl : args = #[v0, v1, v2, v3] := by cases args; simp_all
  obtain ⟨rfl, rfl⟩ := trodVars_none hV
  obtain ⟨a0, rfl, rfl, rfl⟩ := open_bool Try.underlying4 (hval 0 4 v0 rfl rfl) h0
  obtain ⟨a1, rfl, rfl, rfl, w1⟩ := open_string Try.underlying9 (hval 1 9 v1 rfl rfl) h1
  obtain ⟨a2, rfl, rfl, rfl⟩ := open_bool Try.underlying4 (hval 2 4 v2 rfl rfl) h2
  obtain ⟨a3, rfl, rfl, rfl, w3⟩ := open_string Try.underlying9 (hval 3 9 v3 rfl rfl) h3
  clear hA0 hval0
  simp only [List.append_nil] at hW'
  refine (walk a0 a1 a2 a3 w1 w3 W).mono fun e W' ⟨he, hg⟩ => ?_
  subst he
  exact ⟨_, rfl, post_of_same (pa := []) (pv := []) hW' (fun _ _ _ => (trodAll_cons_mk (shut_bool Try.underlying4 _) trodAll_mk0)) (fun sp _ => (trodAll_cons_mk (shut_bool Try.underlying4 _) (trodAll_cons_mk (shut_string Try.underlying9 w1) (trodAll_cons_mk (shut_bool Try.underlying4 _) (trodAll_cons_mk (shut_string Try.underlying9 w3) trodAll_mk0))))) (fun _ _ => rfl) rfl
    (hg.frame _) hg.2.1 (ok_one (by kernel_rfl) rfl (okWide_bool_mk Try.underlying4 _))⟩

/-! ### The row's closed facts, each a lemma of its own. The three that read the dump's head (mayEnter, liftsFinal, make) are drawn for any program from its head's first word behind the main word, and the head is read as numbers: the kernel's own decoding of the long literal outgrows its memory. -/
theorem and_mk {a b : Bool} (ha : a = true) (hb : b = true) : (a && b) = true := by rw [ha, hb]; rfl

theorem strip_cut (rest : List (List Char)) : stripLifts liftWords (['c', 'u', 't'] :: rest) = ([], ['c', 'u', 't'] :: rest) := by
  simp [stripLifts, liftWords]
theorem make_cut {P : Program} {rest : List (List Char)} (h : behindMainWord (wordsSigns P.initOrder.toList) = ['c', 'u', 't'] :: rest) : P.make = some .cut := by
  simp [Program.make, h]
theorem lifted_cut {P : Program} {rest : List (List Char)} (h : behindMainWord (wordsSigns P.initOrder.toList) = ['c', 'u', 't'] :: rest) : P.liftsFinal = false := by
  simp [Program.liftsFinal, Program.headLifts, h, strip_cut]
theorem enter_cut {P : Program} {rest : List (List Char)} (h : behindMainWord (wordsSigns P.initOrder.toList) = ['c', 'u', 't'] :: rest) (d : P.doorFits [] = true) (l : P.laysLater = false) (b : P.bearsReflect = false) : P.mayEnter = true := by
  simp [Program.mayEnter, h, strip_cut, d, l, b]

def headNums : List Nat := [104, 97, 114, 110, 101, 115, 115, 32, 102, 51, 49, 101, 54, 101, 97, 51, 53, 56, 48, 49, 100, 49, 100, 48, 102, 51, 97, 101, 51, 102, 48, 56, 51, 55, 100, 50, 100, 56, 50, 52, 102, 50, 52, 101, 48, 50, 48, 100, 57, 57, 48, 48, 55, 56, 100, 56, 98, 97, 52, 99, 55, 99, 99, 101, 100, 52, 53, 54, 97, 56, 57, 55, 32, 99, 117, 116, 32, 97, 116, 32, 101, 120, 97, 109, 112, 108, 101, 46, 99, 111, 109, 47, 116, 121, 112, 101, 102, 105, 116, 47, 116, 121, 112, 101, 102, 105, 116, 47, 122, 122, 108, 97, 119, 115, 95, 114, 111, 111, 116, 95, 102, 49, 46, 70, 110, 82, 111, 117, 110, 100, 85, 112, 73, 115, 76, 101, 97, 115, 116, 77, 117, 108, 116, 105, 112, 108, 101, 65, 116, 79, 114, 65, 98, 111, 118, 101, 32, 101, 120, 97, 109, 112, 108, 101, 46, 99, 111, 109, 47, 116, 121, 112, 101, 102, 105, 116, 47, 116, 121, 112, 101, 102, 105, 116, 47, 122, 122, 108, 97, 119, 115, 95, 114, 111, 111, 116, 95, 102, 49, 46, 70, 110, 82, 111, 117, 110, 100, 85, 112, 77, 111, 110, 111, 116, 111, 110, 101, 65, 110, 100, 65, 98, 115, 111, 114, 98, 115, 32, 101, 120, 97, 109, 112, 108, 101, 46, 99, 111, 109, 47, 116, 121, 112, 101, 102, 105, 116, 47, 116, 121, 112, 101, 102, 105, 116, 47, 122, 122, 108, 97, 119, 115, 95, 114, 111, 111, 116, 95, 102, 49, 46, 70, 110, 65, 114, 114, 97, 121, 76, 97, 121, 111, 117, 116, 73, 115, 67, 97, 112, 112, 101, 100, 80, 114, 111, 100, 117, 99, 116, 32, 101, 120, 97, 109, 112, 108, 101, 46, 99, 111, 109, 47, 116, 121, 112, 101, 102, 105, 116, 47, 116, 121, 112, 101, 102, 105, 116, 47, 122, 122, 108, 97, 119, 115, 95, 114, 111, 111, 116, 95, 102, 49, 46, 70, 110, 65, 114, 114, 97, 121, 76, 97, 121, 111, 117, 116, 65, 100, 100, 115, 85, 112, 84, 111, 84, 104, 101, 67, 97, 112, 32, 101, 120, 97, 109, 112, 108, 101, 46, 99, 111, 109, 47, 116, 121, 112, 101, 102, 105, 116, 47, 116, 121, 112, 101, 102, 105, 116, 47, 122, 122, 108, 97, 119, 115, 95, 114, 111, 111, 116, 95, 102, 49, 46, 70, 110, 83, 97, 109, 101, 75, 105, 110, 100, 73, 115, 65, 110, 69, 113, 117, 105, 118, 97, 108, 101, 110, 99, 101, 78, 97, 109, 101, 100, 66, 121, 75, 105, 110, 100, 78, 97, 109, 101, 32, 101, 120, 97, 109, 112, 108, 101, 46, 99, 111, 109, 47, 116, 121, 112, 101, 102, 105, 116, 47, 116, 121, 112, 101, 102, 105, 116, 47, 122, 122, 108, 97, 119, 115, 95, 114, 111, 111, 116, 95, 102, 49, 46, 70, 110, 86, 101, 114, 100, 105, 99, 116, 83, 116, 114, 105, 110, 103, 82, 101, 97, 100, 115, 66, 97, 99, 107]
set_option maxRecDepth 100000 in
theorem head_eq : Try.pinned.checked.prog.initOrder = String.ofList (headNums.map Char.ofNat) := by kernel_rfl
theorem head_words : (behindMainWord (wordsSigns (headNums.map Char.ofNat))).head? = some ['c', 'u', 't'] := by kernel_rfl
theorem cut_of {s : String} {l : List Char} (hs : s = String.ofList l) (hw : (behindMainWord (wordsSigns l)).head? = some ['c', 'u', 't']) : ∃ rest, behindMainWord (wordsSigns s.toList) = ['c', 'u', 't'] :: rest := by
  rw [hs, String.toList_ofList]
  cases h : behindMainWord (wordsSigns l) with
  | nil => rw [h] at hw; cases hw
  | cons c r => rw [h] at hw; cases hw; exact ⟨r, rfl⟩
theorem head_cut : ∃ rest, behindMainWord (wordsSigns Try.pinned.checked.prog.initOrder.toList) = ['c', 'u', 't'] :: rest := cut_of head_eq head_words
theorem fact_doors : Try.pinned.checked.prog.doorFits [] = true := by kernel_rfl
theorem fact_lays : Try.pinned.checked.prog.laysLater = false := by kernel_rfl
theorem fact_bears : Try.pinned.checked.prog.bearsReflect = false := by kernel_rfl
theorem fact_enter : Try.pinned.checked.prog.mayEnter = true := by
  obtain ⟨rest, h⟩ := head_cut
  exact enter_cut h fact_doors fact_lays fact_bears
theorem fact_lifted : (Rows.fnVerdictStringReadsBackRow.lifted == Try.pinned.checked.prog.liftsFinal) = true := by
  obtain ⟨rest, h⟩ := head_cut
  rw [lifted_cut h]
  rfl
theorem fact_make : (Try.pinned.checked.prog.make == some Rows.fnVerdictStringReadsBackRow.make) = true := by
  obtain ⟨rest, h⟩ := head_cut
  rw [make_cut h]
  rfl

set_option maxRecDepth 100000 in
theorem closed : joinedFacts Try.pinned.checked.prog 8 Try.f8 Rows.fnVerdictStringReadsBackSpec Rows.fnVerdictStringReadsBackRow = true := by
  unfold joinedFacts
  repeat' (with_reducible refine and_mk ?_ ?_)
  all_goals (first | (with_reducible exact fact_enter) | (with_reducible exact fact_lifted) | (with_reducible exact fact_make) | (as_aux_lemma => kernel_rfl))


theorem instOf : Try.f8.isInstance Try.pinned.checked.prog Rows.fnVerdictStringReadsBackRow.origin Rows.fnVerdictStringReadsBackRow.targs := of_decide_eq_true (by kernel_rfl)
theorem wrapOf : Try.f8.isWrapper Try.pinned.checked.prog Rows.fnVerdictStringReadsBackRow.wrapper Rows.fnVerdictStringReadsBackRow.mainSum := by
  unfold Func.isWrapper; first | (rw [if_pos (by decide +kernel)]; kernel_rfl) | (rw [if_neg (by decide +kernel)]; exact ⟨rfl, rfl⟩)

theorem over : Rows.fnVerdictStringReadsBackRow.holds Try.pinned (OpenSpec.ofChange Rows.fnVerdictStringReadsBackSpec) :=
  OpenClaim.holds_of_wide 8 Try.f8 rfl rfl rfl rfl rfl rfl rfl ⟨rfl, rfl, rfl, rfl, rfl⟩ rfl rfl rfl rfl rfl (by kernel_rfl) Try.func8 closed instOf wrapOf
    (fun os started H enc _ => lifted os started H enc)

/-- THE STATEMENT -/
theorem proved : Rows.FnVerdictStringReadsBackSaid :=
  over
end Go.Proofs.Qxb6002360a.fnVerdictStringReadsBack
