/-
  The walk of FnParseIDRoundTripsString (3).
-/
import Derived.Test.Qxb6002389aFmtParse
import Derived.Test.Qxb6002389aFmtEq
namespace Go.Proofs.Qxb6002389aFmt.hx
open Go.RowKit Go.Lib

theorem below_alloc_set (w : World) (c c' : Array Value) (t : TypeId) : Below w.heap.size w ((w.alloc (.cells c t)).setRow w.heap.size c') :=
  below_setRow ((Below.refl _ w).alloc (Nat.le_refl _) _) (Nat.le_refl _) _

theorem first_world (w : World) (A : Array Value) : Below w.heap.size w (((w.alloc (.cells A 22)).alloc (.cells zeros 23)).setRow (w.heap.size + 1) A) ∧
    (((w.alloc (.cells A 22)).alloc (.cells zeros 23)).setRow (w.heap.size + 1) A).heap.size = w.heap.size + 1 + 1 ∧
    (((w.alloc (.cells A 22)).alloc (.cells zeros 23)).setRow (w.heap.size + 1) A).heap[w.heap.size + 1]? = some (.cells A 23 (0, 0)) :=
  ⟨below_setRow (((Below.refl _ w).alloc (Nat.le_refl _) _).alloc (by simp) _) (by omega) _, by simp, setRow_heap _ _ _ _ _ _ (heap_alloc2_new _ _ _)⟩

theorem enc_size (l : List UInt8) (hl : l.length = 32) : (⟨(Hx.encode l).toArray⟩ : ByteArray).size = 64 := by
  show (Hx.encode l).toArray.size = 64
  rw [List.size_toArray, Hx.encode_length, hl]

set_option maxHeartbeats 1000000 in
theorem trip_walk (l : List UInt8) (hl : l.length = 32) (ev : Value) (w : World) (hE : w.cell? ⟨0, 0, none⟩ = some ev) :
    Calls Tryf.prog 3 #[.agg (cellsL l)] w fun e w' => e = .returned (.bool true) ∧ Below w.heap.size w w' := by
  have hgl : 0 < w.heap.size := World.block_lt_of_cell? w ⟨0, 0, none⟩ hE
  have HE : Hid (w.cell? ⟨0, 0, none⟩ = some ev) := hE
  have HL : Hid (l.length = 32) := hl
  have hi22 : (Tryf.prog.info? 22).map (·.size) = some (cellsL l).size := by rw [cellsL_size, hl]; kernel_rfl
  have hi23 : (Tryf.prog.info? 23).map (·.size) = some (cellsL l).size := by rw [cellsL_size, hl]; kernel_rfl
  have H22 : Hid ((Tryf.prog.info? 22).map (·.size) = some (cellsL l).size) := hi22
  have H23 : Hid ((Tryf.prog.info? 23).map (·.size) = some (cellsL l).size) := hi23
  have HZ : Hid (zeros.size = (cellsL l).size) := by rw [cellsL_size, hl]; rfl
  have heq := id_eq_self l hl
  clear hi22 hi23 hl hE
  go_enter Tryf.func3, Tryf.ntmps3
  go_wp2_with (first
    | (refine wpList_load_row rfl 22 _ rfl w.heap.size rfl 22 (cellsL l) (0, 0) _ (heap_alloc_last _ _) Tryf.underlying22 rfl H22.out ?_)
    | (refine wpList_store_row rfl 23 _ _ rfl (w.heap.size + 1) (cellsL l) rfl rfl 23 zeros (heap_alloc2_new _ _ _) H23.out HZ.out (oneCell_cellsL l) ?_)
    | (refine wpList_load_row rfl 23 _ rfl (w.heap.size + 1) rfl 23 (cellsL l) (0, 0) _ (setRow_heap _ _ _ _ _ _ (heap_alloc2_new _ _ _)) Tryf.underlying23 rfl H23.out ?_))
  change Calls Tryf.prog 6 #[Value.agg (cellsL l)] (((w.alloc (.cells (cellsL l) 22)).alloc (.cells zeros 23)).setRow (w.heap.size + 1) (cellsL l)) _
  obtain ⟨f1, f2, f3⟩ := first_world w (cellsL l)
  generalize ((w.alloc (.cells (cellsL l) 22)).alloc (.cells zeros 23)).setRow (w.heap.size + 1) (cellsL l) = W at *
  have F3 : Hid (W.heap[w.heap.size + 1]? = some (.cells (cellsL l) 23 (0, 0))) := f3
  have F2 : Hid (W.heap.size = w.heap.size + 1 + 1) := f2
  clear f2 f3
  refine (string_calls l HL.out W).mono ?_
  rintro e w2 ⟨rfl, b2⟩
  obtain ⟨t, ht⟩ : ∃ t : ByteArray, t = ⟨(Hx.encode l).toArray⟩ := ⟨_, rfl⟩
  rw [← ht]
  have ht64 : t.size = 64 := by rw [ht]; exact enc_size l HL.out
  have hdt : Hx.decode t.data.toList = (l, .ok) := by rw [ht]; exact decode_encode_id l
  have hdu : Hx.decode (⟨(t.data.toList.map upB).toArray⟩ : ByteArray).data.toList = (l, .ok) := by rw [ht]; exact decode_encode_up l
  have hdu64 : (⟨(t.data.toList.map upB).toArray⟩ : ByteArray).size = 64 := by
    show (t.data.toList.map upB).toArray.size = 64
    rw [List.size_toArray, List.length_map]
    simpa using ht64
  have HT64 : Hid (t.size = 64) := ht64
  have HDT : Hid (Hx.decode t.data.toList = (l, .ok)) := hdt
  have HDU : Hid (Hx.decode (⟨(t.data.toList.map upB).toArray⟩ : ByteArray).data.toList = (l, .ok)) := hdu
  have HDU64 : Hid ((⟨(t.data.toList.map upB).toArray⟩ : ByteArray).size = 64) := hdu64
  clear ht ht64 hdt hdu hdu64
  have B2 : Below w.heap.size w w2 := f1.trans (b2.mono (by have := F2.out; omega))
  have s2 : w.heap.size + 2 ≤ w2.heap.size := by have := F2.out; have := b2.size; omega
  have F3' : Hid (w2.heap[w.heap.size + 1]? = some (.cells (cellsL l) 23 (0, 0))) := (b2.block _ (by have := F2.out; omega)).trans F3.out
  clear F3 F2 f1 b2
  go_wp2_with fail
  refine (parse_ok t HT64.out l HDT.out ev w2 ((B2.cell (p := ⟨0, 0, none⟩) hgl).trans HE.out)).mono ?_
  rintro e w3 ⟨rfl, b3⟩
  have B3 : Below w.heap.size w w3 := B2.trans (b3.mono (by omega))
  have s3 : w.heap.size + 2 ≤ w3.heap.size := by have := b3.size; omega
  have F3 : Hid (w3.heap[w.heap.size + 1]? = some (.cells (cellsL l) 23 (0, 0))) := (b3.block _ (by omega)).trans F3'.out
  clear F3' B2 b3 s2
  have G3 : Hid (((w3.alloc (.cells zeros 23)).setRow w3.heap.size (cellsL l)).heap[w.heap.size + 1]? = some (.cells (cellsL l) 23 (0, 0))) := by
    unfold Hid
    rw [setRow_other _ _ _ _ (by omega), RowKit.Below.heap_alloc _ _ _ (by omega)]
    exact F3.out
  have ne3 : ¬ w.heap.size + 1 = w3.heap.size := by omega
  go_wp2_with (first
    | (refine wpList_store_row rfl 23 _ _ rfl w3.heap.size (cellsL l) rfl rfl 23 zeros (heap_alloc_last _ _) H23.out HZ.out (oneCell_cellsL l) ?_)
    | (refine wpList_load_row rfl 23 _ rfl w3.heap.size rfl 23 (cellsL l) (0, 0) _ (setRow_heap _ _ _ _ _ _ (heap_alloc_last _ _)) Tryf.underlying23 rfl H23.out ?_)
    | (refine wpList_load_row rfl 23 _ rfl (w.heap.size + 1) rfl 23 (cellsL l) (0, 0) _ G3.out Tryf.underlying23 rfl H23.out ?_))
  change Calls Tryf.prog 8 #[Value.string t] ((w3.alloc (.cells zeros 23)).setRow w3.heap.size (cellsL l)) _
  have b4 := below_alloc_set w3 zeros (cellsL l) 23
  have z4 : ((w3.alloc (.cells zeros 23)).setRow w3.heap.size (cellsL l)).heap.size = w3.heap.size + 1 := by simp
  generalize (w3.alloc (.cells zeros 23)).setRow w3.heap.size (cellsL l) = W4 at *
  have B4 : Below w.heap.size w W4 := B3.trans (b4.mono (by omega))
  have s4 : w.heap.size + 2 ≤ W4.heap.size := by omega
  clear b4 z4 B3 s3 F3 ne3
  refine (upper_calls t (by have := HT64.out; omega) W4).mono ?_
  rintro e w5 ⟨rfl, b5⟩
  have B5 : Below w.heap.size w w5 := B4.trans (b5.mono (by omega))
  have s5 : w.heap.size + 2 ≤ w5.heap.size := by have := b5.size; omega
  have F5 : Hid (w5.heap[w.heap.size + 1]? = some (.cells (cellsL l) 23 (0, 0))) := (b5.block _ (by omega)).trans G3.out
  clear G3 B4 b5 s4
  go_wp2_with fail
  refine (parse_ok ⟨(t.data.toList.map upB).toArray⟩ HDU64.out l HDU.out ev w5 ((B5.cell (p := ⟨0, 0, none⟩) hgl).trans HE.out)).mono ?_
  rintro e w6 ⟨rfl, b6⟩
  have B6 : Below w.heap.size w w6 := B5.trans (b6.mono (by omega))
  have s6 : w.heap.size + 2 ≤ w6.heap.size := by have := b6.size; omega
  have F6 : Hid (w6.heap[w.heap.size + 1]? = some (.cells (cellsL l) 23 (0, 0))) := (b6.block _ (by omega)).trans F5.out
  clear F5 B5 b6 s5
  have G6 : Hid (((w6.alloc (.cells zeros 23)).setRow w6.heap.size (cellsL l)).heap[w.heap.size + 1]? = some (.cells (cellsL l) 23 (0, 0))) := by
    unfold Hid
    rw [setRow_other _ _ _ _ (by omega), RowKit.Below.heap_alloc _ _ _ (by omega)]
    exact F6.out
  go_wp2_with (first
    | (refine wpList_store_row rfl 23 _ _ rfl w6.heap.size (cellsL l) rfl rfl 23 zeros (heap_alloc_last _ _) H23.out HZ.out (oneCell_cellsL l) ?_)
    | (refine wpList_load_row rfl 23 _ rfl w6.heap.size rfl 23 (cellsL l) (0, 0) _ (setRow_heap _ _ _ _ _ _ (heap_alloc_last _ _)) Tryf.underlying23 rfl H23.out ?_)
    | (refine wpList_load_row rfl 23 _ rfl (w.heap.size + 1) rfl 23 (cellsL l) (0, 0) _ G6.out Tryf.underlying23 rfl H23.out ?_))
  go_ret
  exact ⟨rfl, B6.trans ((below_alloc_set w6 zeros (cellsL l) 23).mono (by omega))⟩

end Go.Proofs.Qxb6002389aFmt.hx
