/-
  'Rows.FnSortByIndexIsIdempotentSaid': the row's step (the seat's shell).
-/
import Derived.Test.Qxb6600066aIdemWalk
import Derived.OpenShut
import Derived.ShutString
import Derived.ChangeOld
import Derived.Below
namespace Go.Proofs.Qxb6600066a.fnSortByIndexIsIdempotent
open Go.ChangeShapes Go.WideShapes Go.ChangeAt Go.RowKit Go.Proofs.Qxb6600066a.srt
set_option linter.unusedVariables false

theorem own : ownKnob Try.prog.godebug = none := by kernel_rfl
theorem laidOut : laidOutB Try.prog = true := by kernel_rfl

/-! ### THE ROW's STEP: the shell's own -/
set_option maxRecDepth 100000 in
theorem lifted (os : Os) (started : os.Started) (H : Type) (enc : TypeId × Value → H) :
    ReturnsInHanded {} Try.checked os 7 .any (Rows.fnSortByIndexIsIdempotentSpec.pre6 enc Try.prog Try.f7 Rows.fnSortByIndexIsIdempotentRow.domain false) (Rows.fnSortByIndexIsIdempotentSpec.post enc Try.prog Try.f7 false true false false) := by
  refine returnsInHanded_of_change (C := Try.checked) own started (by kernel_rfl) Try.func7
    (ChangeSpec.witness6 (enc := enc) (C := Try.checked) false ⟨#[], #[.slice none 0 0, .slice none 0 0, .slice none 0 0], []⟩ 8 (by kernel_rfl) (by kernel_rfl) (by kernel_rfl) (by kernel_rfl)) ?_
  intro W base args ds gs before hval0 hW hcnd _
  have hval : ∀ (j : Nat) t v, Try.f7.params[j]? = some t → args[j]? = some v → Value.okWide Try.prog W .any base t v := hval0
  have hW' := hW
  obtain ⟨p, q, hA0, hV, rfl, hfz, hnd⟩ := hW
  have hA : DataW.TrodAll enc Try.prog W 0 (fun _ => true) true Try.f7.params.toList args.toList ds p := hA0
  rw [Try.params7] at hA hval
  obtain ⟨v0, vs0, d0, ds0, p0, q0, hargs, rfl, rfl, h0, r0⟩ := trodAll_cons hA
  obtain ⟨v1, vs1, d1, ds1, p1, q1, rfl, rfl, rfl, h1, r1⟩ := trodAll_cons r0
  obtain ⟨v2, vs2, d2, ds2, p2, q2, rfl, rfl, rfl, h2, r2⟩ := trodAll_cons r1
  obtain ⟨rfl, rfl, rfl⟩ := trodAll_nil r2
  obtain rfl : args = #[v0, v1, v2] := by cases args; simp_all
  obtain ⟨rfl, rfl⟩ := trodVars_none hV
  obtain ⟨a0, len0, cap0, rfl⟩ := okWide_slice Try.underlying26 (hval 0 26 v0 rfl rfl)
  have k0 := h0
  have lt0 : ∀ x ∈ p0, x.block < W.heap.size := by obtain ⟨m, hm⟩ := k0; exact DataW.trod_lt m _ _ _ hm
  obtain ⟨z0, w0⟩ : ∃ zs, IsRow .i64 W a0 len0 cap0 zs := by
    obtain ⟨fuel, hf⟩ := h0
    rcases open_ints Try.underlying26 Try.underlying3 (by kernel_rfl) hf with ⟨hcs, _⟩ | ⟨x, l, c, zs, hcs, _, hl, hm, hz, _, hcell, hwz⟩
    · simp [Value.cells] at hcs
      obtain ⟨rfl, rfl, rfl⟩ := hcs
      exact ⟨[], .inl ⟨rfl, rfl, rfl, rfl⟩⟩
    · simp [Value.cells] at hcs
      obtain ⟨rfl, rfl, rfl⟩ := hcs
      exact ⟨zs, .inr ⟨_, rfl, hl, hm, by simpa using hz, hcell, hwz⟩⟩
  obtain ⟨a1, len1, cap1, rfl⟩ := okWide_slice Try.underlying22 (hval 1 22 v1 rfl rfl)
  have k1 := h1
  have lt1 : ∀ x ∈ p1, x.block < W.heap.size := by obtain ⟨m, hm⟩ := k1; exact DataW.trod_lt m _ _ _ hm
  obtain ⟨z1, w1⟩ : ∃ zs, IsRow .u8 W a1 len1 cap1 zs := by
    obtain ⟨fuel, hf⟩ := h1
    rcases open_ints Try.underlying22 Try.underlying5 (by kernel_rfl) hf with ⟨hcs, _⟩ | ⟨x, l, c, zs, hcs, _, hl, hm, hz, _, hcell, hwz⟩
    · simp [Value.cells] at hcs
      obtain ⟨rfl, rfl, rfl⟩ := hcs
      exact ⟨[], .inl ⟨rfl, rfl, rfl, rfl⟩⟩
    · simp [Value.cells] at hcs
      obtain ⟨rfl, rfl, rfl⟩ := hcs
      exact ⟨zs, .inr ⟨_, rfl, hl, hm, by simpa using hz, hcell, hwz⟩⟩
  obtain ⟨a2, len2, cap2, rfl⟩ := okWide_slice Try.underlying29 (hval 2 29 v2 rfl rfl)
  have k2 := h2
  have lt2 : ∀ x ∈ p2, x.block < W.heap.size := by obtain ⟨m, hm⟩ := k2; exact DataW.trod_lt m _ _ _ hm
  obtain ⟨z2, w2⟩ : ∃ zs, IsRow .u64 W a2 len2 cap2 zs := by
    obtain ⟨fuel, hf⟩ := h2
    rcases open_ints Try.underlying29 Try.underlying30 (by kernel_rfl) hf with ⟨hcs, _⟩ | ⟨x, l, c, zs, hcs, _, hl, hm, hz, _, hcell, hwz⟩
    · simp [Value.cells] at hcs
      obtain ⟨rfl, rfl, rfl⟩ := hcs
      exact ⟨[], .inl ⟨rfl, rfl, rfl, rfl⟩⟩
    · simp [Value.cells] at hcs
      obtain ⟨rfl, rfl, rfl⟩ := hcs
      exact ⟨zs, .inr ⟨_, rfl, hl, hm, by simpa using hz, hcell, hwz⟩⟩
  clear hA0 hval0
  refine (walk a0 len0 cap0 z0 a1 len1 cap1 z1 a2 len2 cap2 z2 W w0 w1 w2).mono fun e W' ⟨he, bel⟩ => ?_
  subst he
  exact ⟨_, rfl, _, _, _, [], _, [], hW', trodAll_mk1 (shut_bool Try.underlying4 _), (trodAll_cons_mk (Below.trod laidOut (by kernel_rfl) (of_decide_eq_true (by kernel_rfl)) k0 bel lt0) (trodAll_cons_mk (Below.trod laidOut (by kernel_rfl) (of_decide_eq_true (by kernel_rfl)) k1 bel lt1) (trodAll_cons_mk (Below.trod laidOut (by kernel_rfl) (of_decide_eq_true (by kernel_rfl)) k2 bel lt2) trodAll_mk0))), rfl, bel.frame _, fun h => by cases h⟩

/-! ### The row's closed facts, each a lemma of its own. The three that read the dump's head (mayEnter, liftsFinal, make) are drawn for any program from its head's first word behind the main word, and the head is read as numbers: the kernel's own decoding of the long literal outgrows its memory. -/
theorem and_mk {a b : Bool} (ha : a = true) (hb : b = true) : (a && b) = true := by rw [ha, hb]; rfl

theorem strip_cut (rest : List (List Char)) : stripLifts liftWords (['c', 'u', 't'] :: rest) = ([], ['c', 'u', 't'] :: rest) := by
  simp [stripLifts, liftWords]
theorem make_cut {P : Program} {rest : List (List Char)} (h : behindMainWord (wordsSigns P.initOrder.toList) = ['c', 'u', 't'] :: rest) : P.make = some .cut := by
  simp [Program.make, h]
theorem lifted_cut {P : Program} {rest : List (List Char)} (h : behindMainWord (wordsSigns P.initOrder.toList) = ['c', 'u', 't'] :: rest) : P.liftsFinal = false := by
  simp [Program.liftsFinal, Program.headLifts, h, strip_cut]
theorem enter_cut {P : Program} {rest : List (List Char)} (h : behindMainWord (wordsSigns P.initOrder.toList) = ['c', 'u', 't'] :: rest) (d : P.doorFits [] = true) (l : P.laysLater = false) (b : P.bearsReflect = false) : P.mayEnter = true := by
  simp [Program.mayEnter, h, strip_cut, d, l, b]

def headNums : List Nat := [104, 97, 114, 110, 101, 115, 115, 32, 53, 101, 50, 56, 49, 98, 53, 52, 51, 50, 54, 53, 57, 54, 55, 53, 51, 99, 56, 54, 48, 100, 49, 53, 49, 55, 55, 97, 53, 99, 54, 52, 99, 48, 101, 54, 49, 57, 49, 51, 53, 51, 57, 51, 53, 98, 54, 101, 101, 49, 48, 55, 57, 97, 50, 97, 101, 100, 56, 51, 49, 101, 53, 102, 32, 99, 117, 116, 32, 97, 116, 32, 101, 120, 97, 109, 112, 108, 101, 46, 99, 111, 109, 47, 116, 105, 100, 101, 119, 97, 116, 99, 104, 47, 116, 105, 100, 101, 119, 97, 116, 99, 104, 47, 122, 122, 108, 97, 119, 115, 95, 105, 110, 116, 101, 114, 110, 97, 108, 95, 107, 117, 98, 101, 112, 114, 111, 116, 111, 95, 98, 49, 46, 70, 110, 67, 104, 101, 99, 107, 78, 117, 109, 98, 101, 114, 65, 103, 114, 101, 101, 115, 87, 105, 116, 104, 74, 83, 79, 78, 65, 117, 116, 111, 109, 97, 116, 111, 110, 32, 101, 120, 97, 109, 112, 108, 101, 46, 99, 111, 109, 47, 116, 105, 100, 101, 119, 97, 116, 99, 104, 47, 116, 105, 100, 101, 119, 97, 116, 99, 104, 47, 122, 122, 108, 97, 119, 115, 95, 105, 110, 116, 101, 114, 110, 97, 108, 95, 107, 117, 98, 101, 112, 114, 111, 116, 111, 95, 98, 49, 46, 70, 110, 67, 104, 101, 99, 107, 78, 117, 109, 98, 101, 114, 73, 103, 110, 111, 114, 101, 115, 87, 104, 97, 116, 80, 114, 101, 99, 101, 100, 101, 115, 73, 116, 32, 101, 120, 97, 109, 112, 108, 101, 46, 99, 111, 109, 47, 116, 105, 100, 101, 119, 97, 116, 99, 104, 47, 116, 105, 100, 101, 119, 97, 116, 99, 104, 47, 122, 122, 108, 97, 119, 115, 95, 105, 110, 116, 101, 114, 110, 97, 108, 95, 107, 117, 98, 101, 112, 114, 111, 116, 111, 95, 98, 49, 46, 70, 110, 67, 104, 101, 99, 107, 78, 117, 109, 98, 101, 114, 83, 112, 97, 110, 83, 116, 97, 110, 100, 115, 65, 108, 111, 110, 101, 32, 101, 120, 97, 109, 112, 108, 101, 46, 99, 111, 109, 47, 116, 105, 100, 101, 119, 97, 116, 99, 104, 47, 116, 105, 100, 101, 119, 97, 116, 99, 104, 47, 122, 122, 108, 97, 119, 115, 95, 105, 110, 116, 101, 114, 110, 97, 108, 95, 107, 117, 98, 101, 112, 114, 111, 116, 111, 95, 98, 49, 46, 70, 110, 83, 111, 114, 116, 66, 121, 73, 110, 100, 101, 120, 80, 108, 97, 99, 101, 115, 69, 97, 99, 104, 70, 105, 101, 108, 100, 65, 116, 73, 116, 115, 83, 116, 97, 98, 108, 101, 82, 97, 110, 107, 32, 101, 120, 97, 109, 112, 108, 101, 46, 99, 111, 109, 47, 116, 105, 100, 101, 119, 97, 116, 99, 104, 47, 116, 105, 100, 101, 119, 97, 116, 99, 104, 47, 122, 122, 108, 97, 119, 115, 95, 105, 110, 116, 101, 114, 110, 97, 108, 95, 107, 117, 98, 101, 112, 114, 111, 116, 111, 95, 98, 49, 46, 70, 110, 83, 111, 114, 116, 66, 121, 73, 110, 100, 101, 120, 73, 115, 73, 100, 101, 109, 112, 111, 116, 101, 110, 116, 32, 101, 120, 97, 109, 112, 108, 101, 46, 99, 111, 109, 47, 116, 105, 100, 101, 119, 97, 116, 99, 104, 47, 116, 105, 100, 101, 119, 97, 116, 99, 104, 47, 122, 122, 108, 97, 119, 115, 95, 105, 110, 116, 101, 114, 110, 97, 108, 95, 107, 117, 98, 101, 112, 114, 111, 116, 111, 95, 98, 49, 46, 70, 110, 87, 105, 114, 101, 84, 121, 112, 101, 115, 72, 97, 110, 103, 79, 110, 84, 121, 112, 101, 82, 101, 112, 101, 97, 116, 101, 100, 65, 110, 100, 77, 97, 112, 65, 108, 111, 110, 101, 32, 101, 120, 97, 109, 112, 108, 101, 46, 99, 111, 109, 47, 116, 105, 100, 101, 119, 97, 116, 99, 104, 47, 116, 105, 100, 101, 119, 97, 116, 99, 104, 47, 122, 122, 108, 97, 119, 115, 95, 105, 110, 116, 101, 114, 110, 97, 108, 95, 107, 117, 98, 101, 112, 114, 111, 116, 111, 95, 98, 49, 46, 70, 110, 87, 105, 114, 101, 84, 121, 112, 101, 115, 82, 101, 112, 101, 97, 116, 105, 110, 103, 79, 110, 108, 121, 65, 100, 100, 115, 66, 121, 116, 101, 115, 32, 101, 120, 97, 109, 112, 108, 101, 46, 99, 111, 109, 47, 116, 105, 100, 101, 119, 97, 116, 99, 104, 47, 116, 105, 100, 101, 119, 97, 116, 99, 104, 47, 122, 122, 108, 97, 119, 115, 95, 105, 110, 116, 101, 114, 110, 97, 108, 95, 107, 117, 98, 101, 112, 114, 111, 116, 111, 95, 98, 49, 46, 70, 110, 87, 105, 114, 101, 84, 121, 112, 101, 115, 73, 115, 65, 83, 109, 97, 108, 108, 78, 111, 110, 69, 109, 112, 116, 121, 83, 101, 116]
set_option maxRecDepth 100000 in
theorem head_eq : Try.pinned.checked.prog.initOrder = String.ofList (headNums.map Char.ofNat) := by kernel_rfl
theorem head_words : (behindMainWord (wordsSigns (headNums.map Char.ofNat))).head? = some ['c', 'u', 't'] := by kernel_rfl
theorem cut_of {s : String} {l : List Char} (hs : s = String.ofList l) (hw : (behindMainWord (wordsSigns l)).head? = some ['c', 'u', 't']) : ∃ rest, behindMainWord (wordsSigns s.toList) = ['c', 'u', 't'] :: rest := by
  rw [hs, String.toList_ofList]
  cases h : behindMainWord (wordsSigns l) with
  | nil => rw [h] at hw; cases hw
  | cons c r => rw [h] at hw; cases hw; exact ⟨r, rfl⟩
theorem head_cut : ∃ rest, behindMainWord (wordsSigns Try.pinned.checked.prog.initOrder.toList) = ['c', 'u', 't'] :: rest := cut_of head_eq head_words
theorem fact_doors : Try.pinned.checked.prog.doorFits [] = true := by kernel_rfl
theorem fact_lays : Try.pinned.checked.prog.laysLater = false := by kernel_rfl
theorem fact_bears : Try.pinned.checked.prog.bearsReflect = false := by kernel_rfl
theorem fact_enter : Try.pinned.checked.prog.mayEnter = true := by
  obtain ⟨rest, h⟩ := head_cut
  exact enter_cut h fact_doors fact_lays fact_bears
theorem fact_lifted : (Rows.fnSortByIndexIsIdempotentRow.lifted == Try.pinned.checked.prog.liftsFinal) = true := by
  obtain ⟨rest, h⟩ := head_cut
  rw [lifted_cut h]
  rfl
theorem fact_make : (Try.pinned.checked.prog.make == some Rows.fnSortByIndexIsIdempotentRow.make) = true := by
  obtain ⟨rest, h⟩ := head_cut
  rw [make_cut h]
  rfl

set_option maxRecDepth 100000 in
theorem closed : joinedFacts Try.pinned.checked.prog 7 Try.f7 Rows.fnSortByIndexIsIdempotentSpec Rows.fnSortByIndexIsIdempotentRow = true := by
  unfold joinedFacts
  repeat' (with_reducible refine and_mk ?_ ?_)
  all_goals (first | (with_reducible exact fact_enter) | (with_reducible exact fact_lifted) | (with_reducible exact fact_make) | (as_aux_lemma => kernel_rfl))


theorem instOf : Try.f7.isInstance Try.pinned.checked.prog Rows.fnSortByIndexIsIdempotentRow.origin Rows.fnSortByIndexIsIdempotentRow.targs := of_decide_eq_true (by kernel_rfl)
theorem wrapOf : Try.f7.isWrapper Try.pinned.checked.prog Rows.fnSortByIndexIsIdempotentRow.wrapper Rows.fnSortByIndexIsIdempotentRow.mainSum := by
  unfold Func.isWrapper; first | (rw [if_pos (by decide +kernel)]; kernel_rfl) | (rw [if_neg (by decide +kernel)]; exact ⟨rfl, rfl⟩)

theorem over : Rows.fnSortByIndexIsIdempotentRow.holds Try.pinned (OpenSpec.ofChange Rows.fnSortByIndexIsIdempotentSpec) :=
  OpenClaim.holds_of_wide 7 Try.f7 rfl rfl rfl rfl rfl rfl rfl ⟨rfl, rfl, rfl, rfl, rfl⟩ rfl rfl rfl rfl rfl (by kernel_rfl) Try.func7 closed instOf wrapOf
    (fun os started H enc _ => lifted os started H enc)

/-- THE STATEMENT -/
theorem proved : Rows.FnSortByIndexIsIdempotentSaid := over
end Go.Proofs.Qxb6600066a.fnSortByIndexIsIdempotent
