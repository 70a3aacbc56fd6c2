/-
  The walk of ParseID (7) at a text of 64 digits.
-/
import Derived.Test.Qxb6002389aFmtCase
import Derived.Deep.WholeRow
import Derived.Laws.ResultCell
namespace Go.Proofs.Qxb6002389aFmt.hx
open Go.RowKit Go.Lib

/-- The zero ID's cells. -/
def zeros : Array Value := #[.int .u8 0, .int .u8 0, .int .u8 0, .int .u8 0, .int .u8 0, .int .u8 0, .int .u8 0, .int .u8 0, .int .u8 0, .int .u8 0, .int .u8 0, .int .u8 0, .int .u8 0, .int .u8 0, .int .u8 0, .int .u8 0, .int .u8 0, .int .u8 0, .int .u8 0, .int .u8 0, .int .u8 0, .int .u8 0, .int .u8 0, .int .u8 0, .int .u8 0, .int .u8 0, .int .u8 0, .int .u8 0, .int .u8 0, .int .u8 0, .int .u8 0, .int .u8 0]
theorem zeros_size : zeros.size = 32 := rfl
theorem zeros_eq : zeros = Array.replicate 32 (.int .u8 0) := rfl
theorem zeros_at (i : Nat) (h : i < zeros.size) : zeros[i]? = some (.int .u8 0) := by
  have h' : i < 32 := h
  rw [zeros_eq, Array.getElem?_replicate, if_pos h']

theorem oneCell_cellsL (l : List UInt8) : (cellsL l).all (·.oneCell') = true := by
  unfold cellsL
  simp [Value.oneCell']

/-- The two results of ParseID. -/
theorem res7 {tmps : Array Value} {w : World} {g : Nat} {cs : Array Value} {e : Value} (hp : tmps.getD 2 undef = .pointer (some ⟨g, 0, none⟩)) (hg : w.heap[g]? = some (.cells cs 23 (0, 0))) (hs : cs.size = 32) (he : tmps.getD 3 undef = e) :
    (results Tryf.f7 tmps).run Tryf.prog w = .ok (.tuple #[.agg cs, e]) w := by
  have hi : (Tryf.prog.info? 23).map (·.size) = some cs.size := by rw [hs]; kernel_rfl
  rw [results_cell_tmp (p := 2) (u := 3) (ty := 23) (by kernel_rfl), hp, he]
  have := run_loadVar_row (P := Tryf.prog) w g 23 23 cs (0, 0) _ hg Tryf.underlying23 rfl hi
  simp [asAddr, this]

theorem below_setRow {B : Nat} {a w : World} (h : Below B a w) {g : Nat} (hg : B ≤ g) (cs : Array Value) : Below B a (w.setRow g cs) :=
  h.trans ⟨rfl, rfl, rfl, by simp, fun k hk => setRow_other w g k cs (by omega)⟩

/-- A row that holds what 'Decode' wrote of 32 bytes is their cells. -/
theorem row_cells {w : World} {b : Nat} {D : List UInt8} (hD : D.length = 32) (h : w.rowIs b 23 32 (Hx.rowP (fun _ => .int .u8 0) 0 D)) : w.heap[b]? = some (.cells (cellsL D) 23 (0, 0)) := by
  obtain ⟨c, hb, hn, hc⟩ := h
  have : c = cellsL D := by
    apply Array.ext_getElem?
    intro i
    by_cases hi : i < 32
    · rw [hc i hi, cellsL_at D i (by omega)]
      unfold Hx.rowP numsL
      rw [if_pos ⟨by omega, by omega⟩, Nat.sub_zero, List.getD_eq_getElem?_getD, List.getElem?_map, List.getElem?_eq_getElem (by omega)]
      rfl
    · rw [Array.getElem?_eq_none (by omega), Array.getElem?_eq_none (by rw [cellsL_size]; omega)]
  rw [hb, this]

/-- Behind ParseID's first two variables: the result's block and id's, both zero. -/
theorem two_zeros (w : World) : Below w.heap.size w ((w.alloc (.cells zeros 23)).alloc (.cells zeros 23)) ∧ ((w.alloc (.cells zeros 23)).alloc (.cells zeros 23)).heap.size = w.heap.size + 1 + 1 ∧
    ((w.alloc (.cells zeros 23)).alloc (.cells zeros 23)).heap[w.heap.size]? = some (.cells zeros 23 (0, 0)) ∧ ((w.alloc (.cells zeros 23)).alloc (.cells zeros 23)).rowIs (w.heap.size + 1) 23 32 (fun _ => .int .u8 0) := by
  refine ⟨((Below.refl _ w).alloc (Nat.le_refl _) _).alloc (by simp) _, by simp, heap_alloc2_old w _ _, ?_⟩
  exact ⟨zeros, heap_alloc2_new w _ _, rfl, fun i hi => zeros_at i hi⟩

/-- Decode, called by ParseID: what it answers, and what lies behind it. -/
theorem dec (s : ByteArray) (h64 : s.size = 64) (D : List UInt8) (out : Hx.Out) (hD : Hx.decode s.data.toList = (D, out)) (ev : Value) (w W1 : World) (hE : w.cell? ⟨0, 0, none⟩ = some ev)
    (t1 : Below w.heap.size w W1) (t2 : W1.heap.size = w.heap.size + 1 + 1) (t3 : W1.heap[w.heap.size]? = some (.cells zeros 23 (0, 0))) (t4 : W1.rowIs (w.heap.size + 1) 23 32 (fun _ => .int .u8 0)) (cap : Nat) :
    Calls Tryf.prog 17 #[.slice (some ⟨w.heap.size + 1, 0, none⟩) 32 32, .slice (some ⟨W1.heap.size, 0, none⟩) 64 cap] (W1.alloc (.cells (bytesRow s cap) 5 ((bytesRow s cap).size, (bytesRow s cap).size + 1))).drew
      fun e w2 => e = .returned (.tuple #[.int .i64 (D.length : Int), Hx.errVal 45 ev out]) ∧ w2.rowIs (w.heap.size + 1) 23 32 (Hx.rowP (fun _ => .int .u8 0) 0 D) ∧
        w2.heap[w.heap.size]? = some (.cells zeros 23 (0, 0)) ∧ Below w.heap.size w w2 ∧ w.heap.size + 3 ≤ w2.heap.size := by
  have hgl : 0 < w.heap.size := World.block_lt_of_cell? w ⟨0, 0, none⟩ hE
  have hB : ∀ o, Below w.heap.size w (W1.alloc o).drew := fun o => ((t1.alloc (by omega) o)).drew
  have hc := Tryf.hex_Decode_tag 23 (w.heap.size + 1) 0 32 32 32 (fun _ => .int .u8 0) W1.heap.size 0 64 cap (Hx.numsOf s) (W1.alloc (.cells (bytesRow s cap) 5 ((bytesRow s cap).size, (bytesRow s cap).size + 1))).drew ev
    (by rw [Hx.numsOf_length, h64]) (fun i _ => Hx.numsOf_range s i)
    (fun i hi => by
      show (W1.alloc _).cell? _ = _
      have hi' : i < s.data.size := by show i < s.size; omega
      rw [Nat.zero_add, World.cell?_alloc_mark, bytesRow_at s _ i hi', Hx.numsOf_at s i hi'])
    ((t4.alloc _).drew) (by omega) (by omega) (by omega) (by omega) (((hB _).cell (p := ⟨0, 0, none⟩) hgl).trans hE) (by show (0 : Nat) ≠ _; omega)
  rw [Hx.bytesOf_numsOf, hD] at hc
  refine hc.mono ?_
  rintro e w2 ⟨rfl, hrow', hgrow⟩
  refine ⟨rfl, hrow', ?_, (hB _).grown hgrow (by show w.heap.size ≤ (W1.alloc _).heap.size; simp; omega) (fun k hk => by cases hk; omega), ?_⟩
  · rw [hgrow.block w.heap.size (by show w.heap.size < (W1.alloc _).heap.size; simp; omega) (by simp)]
    show (W1.alloc _).heap[w.heap.size]? = _
    rw [RowKit.Below.heap_alloc W1 _ _ (by omega)]
    exact t3
  · have : (W1.alloc (.cells (bytesRow s cap) 5 ((bytesRow s cap).size, (bytesRow s cap).size + 1))).heap.size ≤ w2.heap.size := hgrow.size
    simp at this
    omega

set_option maxHeartbeats 1000000 in
theorem parse_ok (s : ByteArray) (h64 : s.size = 64) (D : List UInt8) (hD : Hid (Hx.decode s.data.toList = (D, .ok))) (ev : Value) (w : World) (hE : w.cell? ⟨0, 0, none⟩ = some ev) :
    Calls Tryf.prog 7 #[.string s] w fun e w' => e = .returned (.tuple #[.agg (cellsL D), .nilIface]) ∧ Below w.heap.size w w' := by
  have hDl : D.length = 32 := by
    have := decode_length _ _ hD.out
    have h2 : s.data.toList.length = s.size := by simp
    omega
  have H64 : Hid (s.size = 64) := h64
  have hcv := fun w => run_bytes_of_string (P := Tryf.prog) w 9 36 5 s Tryf.underlying9 Tryf.underlying36 Tryf.underlying5
  rw [h64] at hcv
  go_enter Tryf.func7, Tryf.ntmps7
  go_wp2_with fail
  change Calls Tryf.prog 15 #[Value.int IntKind.i64 32] ((w.alloc (.cells zeros 23)).alloc (.cells zeros 23)) _
  obtain ⟨t1, t2, t3, t4⟩ := two_zeros w
  generalize (w.alloc (.cells zeros 23)).alloc (.cells zeros 23) = W1 at *
  refine (Tryf.hex_EncodedLen 32 (by omega) (by omega) _).mono ?_
  rintro e w' ⟨rfl, rfl⟩
  have Ht2 : Hid (w'.heap.size = w.heap.size + 1 + 1) := t2
  have Ht3 : Hid (w'.heap[w.heap.size]? = some (.cells zeros 23 (0, 0))) := t3
  clear t2 t3
  go_wp2_with fail
  refine (dec s H64.out D .ok hD.out ev w w' hE t1 Ht2.out Ht3.out t4 _).mono ?_
  rintro e w2 ⟨rfl, hrow, hz, hb2, hs2⟩
  simp only [Hx.errVal]
  have Hc : Hid (w2.heap[w.heap.size + 1]? = some (.cells (cellsL D) 23 (0, 0))) := row_cells hDl hrow
  have Hz : Hid (w2.heap[w.heap.size]? = some (.cells zeros 23 (0, 0))) := hz
  have hi : (Tryf.prog.info? 23).map (·.size) = some (cellsL D).size := by rw [cellsL_size, hDl]; kernel_rfl
  have Hi : Hid ((Tryf.prog.info? 23).map (·.size) = some (cellsL D).size) := hi
  have HDl : Hid (D.length = 32) := hDl
  clear hrow hz t4 t1 hcv h64 hDl hi hE
  go_wp2_with (first
    | (refine wpList_load_row rfl 23 _ rfl (w.heap.size + 1) rfl 23 (cellsL D) (0, 0) _ Hc.out Tryf.underlying23 rfl Hi.out ?_)
    | (refine wpList_store_row rfl 23 _ _ rfl w.heap.size (cellsL D) rfl rfl 23 zeros Hz.out Hi.out (by rw [cellsL_size, HDl.out]; rfl) (oneCell_cellsL D) ?_))
  refine bodyPost_ret (v := .tuple #[.agg (cellsL D), .nilIface]) (res7 rfl (setRow_heap w2 _ _ _ _ _ Hz.out) (by rw [cellsL_size, HDl.out]) rfl) rfl ⟨rfl, below_setRow hb2 (Nat.le_refl _) _⟩

end Go.Proofs.Qxb6002389aFmt.hx
