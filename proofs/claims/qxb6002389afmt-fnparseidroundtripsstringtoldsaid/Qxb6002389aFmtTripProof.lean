/-
  'Rows.FnParseIDRoundTripsStringToldSaid': the row's step and the card (told and tied): after the guide's PortSeven, GuardTold.
-/
import Derived.Test.Qxb6002389aFmtTripWalk
import Derived.Test.Qxb6002389aFmtCards
import Derived.Test.Qxb6002389aFmtTie
import Derived.ProofKit
import Derived.OpenShut
import Derived.Below
import Derived.Carry
import Derived.ChangeOld
import Derived.Stop.JoinedTold
import Derived.Stop.LaidErr
import Derived.SevenTiedAt
namespace Go.Proofs.Qxb6002389aFmt.trip
open Go.ChangeShapes Go.WideShapes Go.ChangeAt Go.RowKit Go.Proofs.Qxb6002389aFmt.hx

theorem own : ownKnob Tryf.prog.godebug = none := by kernel_rfl
theorem laidOut : laidOutB Tryf.prog = true := by kernel_rfl
theorem cells22 : Tryf.prog.cellsOf 22 = 32 := by kernel_rfl

/-- The variable of the library's that the row lists lies in block 0: it holds something. -/
theorem errLength_cell {W : World} {d : DataW Unit} {n : String} (hn : Tryf.prog.globalNamed n = some 0) (ht : (Tryf.prog.globals[0]?).map (·.type) = some 26) (h : laidMet Tryf.prog [(n, d)] W) : ∃ ev, W.cell? ⟨0, 0, none⟩ = some ev := by
  obtain ⟨ps, ⟨g0, t0, cs0, f0, p0, q0, hg0, ht0, hv0, hd0, _, e0⟩, _, hrows⟩ := h
  obtain rfl := Option.some.inj (hn.symm.trans hg0)
  obtain rfl := Option.some.inj (ht.symm.trans ht0)
  have hc := World.var?_cell hg0 hv0 0
  rw [hc]
  obtain ⟨l0⟩ := cs0
  cases l0 with
  | nil =>
    cases f0 with
    | zero => simp [DataW.trod] at hd0
    | succ m => simp [DataW.trod, Tryf.underlying26] at hd0
  | cons v r => exact ⟨v, rfl⟩

/-- The byte in a cell. -/
def byteOfV : Value → UInt8
  | .int _ n => UInt8.ofNat n.toNat
  | _ => 0

theorem cells_bytes (cs : Array Value) (hs : cs.size = 32) (h : ∀ i, i < 32 → ∃ n : Int, 0 ≤ n ∧ n < 256 ∧ cs[i]? = some (.int .u8 n)) : ∃ l : List UInt8, l.length = 32 ∧ cs = cellsL l := by
  refine ⟨cs.toList.map byteOfV, by simpa using hs, ?_⟩
  apply Array.ext_getElem?
  intro i
  by_cases hi : i < 32
  · obtain ⟨n, h0, h1, hc⟩ := h i hi
    rw [hc]
    unfold cellsL
    rw [List.getElem?_toArray, List.getElem?_map, List.getElem?_map, Array.getElem?_toList, hc]
    simp only [Option.map_some, byteOfV]
    rw [UInt8.toNat_ofNat']
    congr 2
    omega
  · rw [Array.getElem?_eq_none (by omega), Array.getElem?_eq_none (by rw [cellsL_size, List.length_map, Array.length_toList]; omega)]

theorem open_id {H : Type} {enc : TypeId × Value → H} {W : World} {base b0 : Nat} {sp : Nat → Bool} {held : Bool} {v : Value} {d : DataW H} {p : List MemPlace} (hv : Value.okWide Tryf.prog W .any b0 22 v)
    (h : DataW.Trod enc Tryf.prog W base sp held 22 v d p) : ∃ l : List UInt8, l.length = 32 ∧ v = .agg (cellsL l) := by
  obtain ⟨cs, rfl, hsz, _⟩ : ∃ cs, v = .agg cs ∧ cs.size = Tryf.prog.cellsOf 22 ∧ Row.okWide Tryf.prog W .any b0 22 cs := by
    simpa [Value.okWide, Tryf.underlying22] using hv
  rw [cells22] at hsz
  obtain ⟨fuel, hf⟩ := h
  obtain ⟨xs, m, _, _, _, hxs, hel⟩ := DataW.trod_array Tryf.underlying22 hf
  obtain ⟨l, hl, hc⟩ := cells_bytes cs hsz (fun i hi => by
    have h1 := hel i hi
    rw [cells5, Nat.mul_one] at h1
    have hlt : i < xs.length := by omega
    rw [List.getElem?_eq_getElem hlt] at h1
    obtain ⟨n, e0, _, w0⟩ := DataW.trod_int Tryf.underlying5 h1
    have hb := bounds_u8 w0
    refine ⟨n, by omega, by omega, ?_⟩
    have hd : (cs.toList.drop i).take 1 = [cs[i]] := by
      have hi' : i < cs.toList.length := by rw [Array.length_toList]; omega
      rw [List.drop_eq_getElem_cons hi']
      simp
    have e1 : (cs.toList.drop i).take 1 = [.int .u8 n] := by simpa [Value.cells] using e0
    rw [hd] at e1
    rw [Array.getElem?_eq_getElem (by omega)]
    simpa using e1)
  exact ⟨l, hl, by rw [hc]⟩

/-- One start that fits: the library's variable as its initialiser lays it. -/
theorem start {H : Type} (os : Os) (enc : TypeId × Value → H) (F : Stop.Interp) :
    ∃ (w : World) (tape : Tape) (i : Input), w.os = os ∧ (w.forCall tape i).Shaped Tryf.checked.prog ∧ i.vars = [] ∧ Input.okWide Tryf.checked.prog (w.forCall tape i) .any w.heap.size 3 i ∧
      (OpenSpec.ofChange Rows.fnParseIDRoundTripsStringSpec).preRow enc Tryf.checked.prog Tryf.f3 Rows.fnParseIDRoundTripsStringRow.domain false Rows.fnParseIDRoundTripsStringRow.laid (w.forCall tape i).memory i.args ∧
      ({ modest := false } : Assume).holds Tryf.checked.prog (lone (Frame.enter Tryf.checked.prog 3 i.args .normal) [] (w.forCall tape i)) ∧ F.answers tape :=
  OpenSpec.witness_stopped_at (enc := enc) (C := Tryf.checked) (s := OpenSpec.ofChange Rows.fnParseIDRoundTripsStringSpec) false
    { (World.holding Tryf.prog os ⟨#[.cells #[.string ⟨#[101, 110, 99, 111, 100, 105, 110, 103, 47, 104, 101, 120, 58, 32, 111, 100, 100, 32, 108, 101, 110, 103, 116, 104, 32, 104, 101, 120, 32, 115, 116, 114, 105, 110, 103]⟩] 48], #[], []⟩) with
      heap := (World.holding Tryf.prog os ⟨#[.cells #[.string ⟨#[101, 110, 99, 111, 100, 105, 110, 103, 47, 104, 101, 120, 58, 32, 111, 100, 100, 32, 108, 101, 110, 103, 116, 104, 32, 104, 101, 120, 32, 115, 116, 114, 105, 110, 103]⟩] 48], #[], []⟩).heap.modify 0 fun
        | .cells _ t frozen => .cells #[.iface 46 (.pointer (some ⟨(World.holding Tryf.prog default ⟨#[], #[], []⟩).heap.size, 0, none⟩))] t frozen
        | o => o }
    #[.agg zeros] rfl (by kernel_rfl) (by kernel_rfl) (by kernel_rfl)
    (OpenSpec.preRow_of_B (laid := Rows.fnParseIDRoundTripsStringRow.laid) rfl 8 (by kernel_rfl) (by kernel_rfl) (show laidMet Tryf.prog Rows.fnParseIDRoundTripsStringRow.laid _ from laidMet_of_run (ps := [.cell 0 0, .cell (World.holding Tryf.prog default ⟨#[], #[], []⟩).heap.size 0]) 8 (by kernel_rfl) (by kernel_rfl) (by kernel_rfl))) F

set_option maxRecDepth 100000 in
theorem lifted (os : Os) (started : os.Started) (H : Type) (enc : TypeId × Value → H) :
    ReturnsInTold none {} Tryf.checked os 3 .any Input.okWide ((OpenSpec.ofChange Rows.fnParseIDRoundTripsStringSpec).preRow enc Tryf.prog Tryf.f3 Rows.fnParseIDRoundTripsStringRow.domain false Rows.fnParseIDRoundTripsStringRow.laid)
      (fun F => ((OpenSpec.ofChange Rows.fnParseIDRoundTripsStringSpec).at F).post enc Tryf.prog Tryf.f3 false true false false) (aloneAtReturn Tryf.prog) nothingAlways := by
  refine returnsInTold_of_row (C := Tryf.checked) (s := OpenSpec.ofChange Rows.fnParseIDRoundTripsStringSpec) (by kernel_rfl) own started (by kernel_rfl) Tryf.func3 (start os enc) ?_
  intro F W base args ds gs before _ hF hval0 hW _ _ _ hL _
  have hval : ∀ (j : Nat) t v, Tryf.f3.params[j]? = some t → args[j]? = some v → Value.okWide Tryf.prog W .any base t v := hval0
  have hW' := hW
  obtain ⟨p, q, hA0, hV0, rfl, _, _⟩ := hW
  have hA : DataW.TrodAll enc Tryf.prog W 0 (fun _ => true) true Tryf.f3.params.toList args.toList ds p := hA0
  rw [Tryf.params3] at hA hval
  obtain ⟨v0, d0, rfl, rfl, h0⟩ := trodAll_one hA
  obtain ⟨rfl, rfl⟩ := trodVars_none hV0
  have k0 := h0
  have lt0 : ∀ x ∈ p, x.block < W.heap.size := by obtain ⟨m, hm⟩ := k0; exact DataW.trod_lt m _ _ _ hm
  obtain ⟨l, hl, rfl⟩ := open_id (hval 0 22 v0 rfl rfl) h0
  clear hA0 hV0 hval0
  obtain ⟨ev, hE⟩ := errLength_cell (by kernel_rfl) (by kernel_rfl) hL
  refine (trip_walk l hl ev W hE).mono fun e W' ⟨he, bel⟩ => ?_
  subst he
  exact ⟨_, rfl, _, _, _, [], _, [], hW', trodAll_mk1 (shut_bool Tryf.underlying4 _), trodAll_mk1 (Below.trod laidOut (by kernel_rfl) (of_decide_eq_true (by kernel_rfl)) k0 bel lt0), rfl, bel.frame _, fun h => by cases h⟩

theorem stops : Tryf.pinned.checked.prog.stops = Rows.fnParseIDRoundTripsStringRow.stops := by kernel_rfl
theorem stopKnobs : Tryf.pinned.checked.prog.stopKnobs = [] := by kernel_rfl
theorem quiet (os : Os) : Stop.quiet Tryf.pinned.checked.prog os := by
  intro k hk
  rw [stopKnobs] at hk
  cases hk

/-- THE STATEMENT -/
theorem proved : Rows.FnParseIDRoundTripsStringToldSaid :=
  Claim7.holds_of_told_tied_any_at .later 3 Tryf.f3 _ _ [] _ _ _ _ _ (by kernel_rfl) rfl rfl rfl laidOut (by kernel_rfl) rfl ⟨rfl, rfl, rfl, rfl, rfl, rfl, rfl⟩ rfl rfl (by kernel_rfl) (by kernel_rfl) Tryf.func3 (by kernel_rfl)
    (of_decide_eq_true (by kernel_rfl)) (of_decide_eq_true (by kernel_rfl)) stops.symm rfl stopKnobs.symm (by kernel_rfl)
    (by kernel_rfl) (by kernel_rfl) (by kernel_rfl) (by kernel_rfl) (by kernel_rfl) (by kernel_rfl) (by kernel_rfl) (by kernel_rfl) (by kernel_rfl) rfl (by kernel_rfl) rfl rfl
    rfl rfl
    rfl (by kernel_rfl) (by kernel_rfl) (by kernel_rfl) (by decide) (by kernel_rfl) fnParseIDRoundTripsString_row_tie
    (OpenClaim.moreEntering_of (by kernel_rfl) (by kernel_rfl) (by kernel_rfl) (by kernel_rfl) (by kernel_rfl) (by kernel_rfl) (by kernel_rfl) (by kernel_rfl) (by kernel_rfl) (by kernel_rfl))
    ⟨_, WideRow.started_initial, quiet _⟩
    (fun os started _ H enc _ => lifted os started H enc)
end Go.Proofs.Qxb6002389aFmt.trip
