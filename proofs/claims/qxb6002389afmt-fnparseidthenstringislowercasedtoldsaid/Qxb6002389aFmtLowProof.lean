/-
  'Rows.FnParseIDThenStringIsLowercasedToldSaid': the row's step and the card (told and tied): after the guide's PortSeven, GuardTold.
-/
import Derived.Test.Qxb6002389aFmtLowWalk
import Derived.Test.Qxb6002389aFmtCards
import Derived.Test.Qxb6002389aFmtTie
import Derived.ProofKit
import Derived.OpenShut
import Derived.ShutString
import Derived.Below
import Derived.Carry
import Derived.ChangeOld
import Derived.Stop.JoinedTold
import Derived.Stop.LaidErr
import Derived.SevenTiedAt
namespace Go.Proofs.Qxb6002389aFmt.low
open Go.ChangeShapes Go.WideShapes Go.ChangeAt Go.RowKit Go.Proofs.Qxb6002389aFmt.hx
open Go.ChangeMaps (open_string shut_string)

theorem own : ownKnob Tryf.prog.godebug = none := by kernel_rfl
theorem laidOut : laidOutB Tryf.prog = true := by kernel_rfl

/-- The variable of the library's that the row lists lies in block 0: it holds something. -/
theorem errLength_cell {W : World} {d : DataW Unit} {n : String} (hn : Tryf.prog.globalNamed n = some 0) (ht : (Tryf.prog.globals[0]?).map (·.type) = some 26) (h : laidMet Tryf.prog [(n, d)] W) : ∃ ev, W.cell? ⟨0, 0, none⟩ = some ev := by
  obtain ⟨ps, ⟨g0, t0, cs0, f0, p0, q0, hg0, ht0, hv0, hd0, _, e0⟩, _, hrows⟩ := h
  obtain rfl := Option.some.inj (hn.symm.trans hg0)
  obtain rfl := Option.some.inj (ht.symm.trans ht0)
  have hc := World.var?_cell hg0 hv0 0
  rw [hc]
  obtain ⟨l0⟩ := cs0
  cases l0 with
  | nil =>
    cases f0 with
    | zero => simp [DataW.trod] at hd0
    | succ m => simp [DataW.trod, Tryf.underlying26] at hd0
  | cons v r => exact ⟨v, rfl⟩

/-- One start that fits: the library's variable as its initialiser lays it. -/
theorem start {H : Type} (os : Os) (enc : TypeId × Value → H) (F : Stop.Interp) :
    ∃ (w : World) (tape : Tape) (i : Input), w.os = os ∧ (w.forCall tape i).Shaped Tryf.checked.prog ∧ i.vars = [] ∧ Input.okWide Tryf.checked.prog (w.forCall tape i) .any w.heap.size 5 i ∧
      (OpenSpec.ofChange Rows.fnParseIDThenStringIsLowercasedSpec).preRow enc Tryf.checked.prog Tryf.f5 Rows.fnParseIDThenStringIsLowercasedRow.domain false Rows.fnParseIDThenStringIsLowercasedRow.laid (w.forCall tape i).memory i.args ∧
      ({ modest := false } : Assume).holds Tryf.checked.prog (lone (Frame.enter Tryf.checked.prog 5 i.args .normal) [] (w.forCall tape i)) ∧ F.answers tape :=
  OpenSpec.witness_stopped_at (enc := enc) (C := Tryf.checked) (s := OpenSpec.ofChange Rows.fnParseIDThenStringIsLowercasedSpec) false
    { (World.holding Tryf.prog os ⟨#[.cells #[.string ⟨#[101, 110, 99, 111, 100, 105, 110, 103, 47, 104, 101, 120, 58, 32, 111, 100, 100, 32, 108, 101, 110, 103, 116, 104, 32, 104, 101, 120, 32, 115, 116, 114, 105, 110, 103]⟩] 48], #[], []⟩) with
      heap := (World.holding Tryf.prog os ⟨#[.cells #[.string ⟨#[101, 110, 99, 111, 100, 105, 110, 103, 47, 104, 101, 120, 58, 32, 111, 100, 100, 32, 108, 101, 110, 103, 116, 104, 32, 104, 101, 120, 32, 115, 116, 114, 105, 110, 103]⟩] 48], #[], []⟩).heap.modify 0 fun
        | .cells _ t frozen => .cells #[.iface 46 (.pointer (some ⟨(World.holding Tryf.prog default ⟨#[], #[], []⟩).heap.size, 0, none⟩))] t frozen
        | o => o }
    #[.string ⟨#[]⟩] rfl (by kernel_rfl) (by kernel_rfl) (by kernel_rfl)
    (OpenSpec.preRow_of_B (laid := Rows.fnParseIDThenStringIsLowercasedRow.laid) rfl 8 (by kernel_rfl) (by kernel_rfl) (show laidMet Tryf.prog Rows.fnParseIDThenStringIsLowercasedRow.laid _ from laidMet_of_run (ps := [.cell 0 0, .cell (World.holding Tryf.prog default ⟨#[], #[], []⟩).heap.size 0]) 8 (by kernel_rfl) (by kernel_rfl) (by kernel_rfl))) F

set_option maxRecDepth 100000 in
theorem lifted (os : Os) (started : os.Started) (H : Type) (enc : TypeId × Value → H) :
    ReturnsInTold none {} Tryf.checked os 5 .any Input.okWide ((OpenSpec.ofChange Rows.fnParseIDThenStringIsLowercasedSpec).preRow enc Tryf.prog Tryf.f5 Rows.fnParseIDThenStringIsLowercasedRow.domain false Rows.fnParseIDThenStringIsLowercasedRow.laid)
      (fun F => ((OpenSpec.ofChange Rows.fnParseIDThenStringIsLowercasedSpec).at F).post enc Tryf.prog Tryf.f5 false true false false) (aloneAtReturn Tryf.prog) nothingAlways := by
  refine returnsInTold_of_row (C := Tryf.checked) (s := OpenSpec.ofChange Rows.fnParseIDThenStringIsLowercasedSpec) (by kernel_rfl) own started (by kernel_rfl) Tryf.func5 (start os enc) ?_
  intro F W base args ds gs before _ hF hval0 hW _ _ _ hL _
  have hval : ∀ (j : Nat) t v, Tryf.f5.params[j]? = some t → args[j]? = some v → Value.okWide Tryf.prog W .any base t v := hval0
  have hW' := hW
  obtain ⟨p, q, hA0, hV0, rfl, _, _⟩ := hW
  have hA : DataW.TrodAll enc Tryf.prog W 0 (fun _ => true) true Tryf.f5.params.toList args.toList ds p := hA0
  rw [Tryf.params5] at hA hval
  obtain ⟨v0, d0, rfl, rfl, h0⟩ := trodAll_one hA
  obtain ⟨rfl, rfl⟩ := trodVars_none hV0
  obtain ⟨s, rfl, rfl, rfl, ws⟩ := open_string Tryf.underlying9 (hval 0 9 v0 rfl rfl) h0
  clear hA0 hV0 hval0
  obtain ⟨ev, hE⟩ := errLength_cell (by kernel_rfl) (by kernel_rfl) hL
  refine (low_walk F.told s ws ev W hE hF).mono fun e W' ⟨he, bel⟩ => ?_
  subst he
  exact ⟨_, rfl, _, _, _, [], [], [], hW', trodAll_mk1 (shut_bool Tryf.underlying4 _), trodAll_mk1 (shut_string Tryf.underlying9 ws), rfl, bel.frame _, fun h => by cases h⟩

theorem stops : Tryf.pinned.checked.prog.stops = Rows.fnParseIDThenStringIsLowercasedRow.stops := by kernel_rfl
theorem stopKnobs : Tryf.pinned.checked.prog.stopKnobs = [] := by kernel_rfl
theorem quiet (os : Os) : Stop.quiet Tryf.pinned.checked.prog os := by
  intro k hk
  rw [stopKnobs] at hk
  cases hk

/-- THE STATEMENT -/
theorem proved : Rows.FnParseIDThenStringIsLowercasedToldSaid :=
  Claim7.holds_of_told_tied_any_at .later 5 Tryf.f5 _ _ [] _ _ _ _ _ (by kernel_rfl) rfl rfl rfl laidOut (by kernel_rfl) rfl ⟨rfl, rfl, rfl, rfl, rfl, rfl, rfl⟩ rfl rfl (by kernel_rfl) (by kernel_rfl) Tryf.func5 (by kernel_rfl)
    (of_decide_eq_true (by kernel_rfl)) (of_decide_eq_true (by kernel_rfl)) stops.symm rfl stopKnobs.symm (by kernel_rfl)
    (by kernel_rfl) (by kernel_rfl) (by kernel_rfl) (by kernel_rfl) (by kernel_rfl) (by kernel_rfl) (by kernel_rfl) (by kernel_rfl) (by kernel_rfl) rfl (by kernel_rfl) rfl rfl
    rfl rfl
    rfl (by kernel_rfl) (by kernel_rfl) (by kernel_rfl) (by decide) (by kernel_rfl) fnParseIDThenStringIsLowercased_row_tie
    (OpenClaim.moreEntering_of (by kernel_rfl) (by kernel_rfl) (by kernel_rfl) (by kernel_rfl) (by kernel_rfl) (by kernel_rfl) (by kernel_rfl) (by kernel_rfl) (by kernel_rfl) (by kernel_rfl))
    ⟨_, WideRow.started_initial, quiet _⟩
    (fun os started _ H enc _ => lifted os started H enc)
end Go.Proofs.Qxb6002389aFmt.low
