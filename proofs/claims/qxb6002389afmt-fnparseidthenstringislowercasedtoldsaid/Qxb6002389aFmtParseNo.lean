/-
  The walk of ParseID (7) where it refuses: another length than 64; a byte that is no digit.
-/
import Derived.Test.Qxb6002389aFmtParse
import Derived.Test.Qxb6002389aFmtErrs
namespace Go.Proofs.Qxb6002389aFmt.hx
open Go.RowKit Go.Lib
open Go.Proofs.Qxb6002389aFmt.ft (fmtA fmtB errorf_len errorf_bad)

theorem oneCell_zeros : zeros.all (·.oneCell') = true := by decide +kernel

set_option maxHeartbeats 1000000 in
theorem parse_len (F : Stop.Interp) (s : ByteArray) (_hs : s.size ≤ 1048576) (h64 : ¬ s.size = 64) (w : World) (hF : F.answers w.tape) :
    Calls Tryf.prog 7 #[.string s] w fun e w' => ∃ t v, e = .returned (.tuple #[.agg zeros, .iface t v]) ∧ Below w.heap.size w w' := by
  have hne : ((s.size : Int) != 64) = true := by rw [bne_iff_ne]; omega
  have HF : Hid (F.answers w.tape) := hF
  clear h64 hF
  go_enter Tryf.func7, Tryf.ntmps7
  go_wp2_with fail
  change Calls Tryf.prog 15 #[Value.int IntKind.i64 32] ((w.alloc (.cells zeros 23)).alloc (.cells zeros 23)) _
  obtain ⟨t1, t2, t3, t4⟩ := two_zeros w
  generalize (w.alloc (.cells zeros 23)).alloc (.cells zeros 23) = W1 at *
  refine (Tryf.hex_EncodedLen 32 (by omega) (by omega) _).mono ?_
  rintro e w' ⟨rfl, rfl⟩
  have Ht2 : Hid (w'.heap.size = w.heap.size + 1 + 1) := t2
  have Ht3 : Hid (w'.heap[w.heap.size]? = some (.cells zeros 23 (0, 0))) := t3
  clear t2 t3 t4
  go_wp2_with fail
  refine (Tryf.hex_EncodedLen 32 (by omega) (by omega) _).mono ?_
  rintro e w2 ⟨rfl, rfl⟩
  go_wp2_with fail
  change Calls Tryf.prog 16 #[Value.string fmtA, Value.slice (some ⟨w2.heap.size, 0, none⟩) 2 2] (w2.alloc (.cells #[.iface 3 (.int .i64 s.size), .iface 3 (.int .i64 64)] 20)) _
  have hF2 : F.answers (w2.alloc (.cells #[.iface 3 (.int .i64 s.size), .iface 3 (.int .i64 64)] 20)).tape := by
    show F.answers w2.tape
    rw [t1.tape]; exact HF.out
  have b3 : Below w.heap.size w (w2.alloc (.cells #[.iface 3 (.int .i64 s.size), .iface 3 (.int .i64 64)] 20)) := t1.alloc (by have := Ht2.out; omega) _
  have z3 : (w2.alloc (.cells #[.iface 3 (.int .i64 s.size), .iface 3 (.int .i64 64)] 20)).heap[w.heap.size]? = some (.cells zeros 23 (0, 0)) := by
    rw [RowKit.Below.heap_alloc _ _ _ (by have := Ht2.out; omega)]; exact Ht3.out
  have s3 : w.heap.size + 3 = (w2.alloc (.cells #[.iface 3 (.int .i64 s.size), .iface 3 (.int .i64 64)] 20)).heap.size := by have := Ht2.out; simp; omega
  refine (errorf_len F (s.size : Int) 64 w2.heap.size _ hF2 (by go_simp) (by go_simp)).mono ?_
  rintro e w3 ⟨v, rfl, b4⟩
  have B3 : Below w.heap.size w w3 := b3.trans (b4.mono (by omega))
  have Z3 : Hid (w3.heap[w.heap.size]? = some (.cells zeros 23 (0, 0))) := (b4.block _ (by omega)).trans z3
  clear b3 z3 s3 b4 hF2 t1 Ht2 Ht3 HF
  have hi : (Tryf.prog.info? 23).map (·.size) = some zeros.size := by kernel_rfl
  have Hi : Hid ((Tryf.prog.info? 23).map (·.size) = some zeros.size) := hi
  clear hi
  go_wp2_with (refine wpList_store_row rfl 23 _ _ rfl w.heap.size zeros rfl rfl 23 zeros Z3.out Hi.out rfl oneCell_zeros ?_)
  refine bodyPost_ret (v := .tuple #[.agg zeros, .iface 46 v]) (res7 rfl (setRow_heap w3 _ _ _ _ _ Z3.out) rfl rfl) rfl ⟨46, v, rfl, below_setRow B3 (Nat.le_refl _) _⟩

set_option maxHeartbeats 1000000 in
theorem parse_bad (F : Stop.Interp) (s : ByteArray) (h64 : s.size = 64) (D : List UInt8) (c : UInt8) (hD : Hid (Hx.decode s.data.toList = (D, .bad c))) (ev : Value) (w : World) (hE : w.cell? ⟨0, 0, none⟩ = some ev) (hF : F.answers w.tape) :
    Calls Tryf.prog 7 #[.string s] w fun e w' => ∃ t v, e = .returned (.tuple #[.agg zeros, .iface t v]) ∧ Below w.heap.size w w' := by
  have H64 : Hid (s.size = 64) := h64
  have HF : Hid (F.answers w.tape) := hF
  have hcv := fun w => run_bytes_of_string (P := Tryf.prog) w 9 36 5 s Tryf.underlying9 Tryf.underlying36 Tryf.underlying5
  rw [h64] at hcv
  clear hF
  go_enter Tryf.func7, Tryf.ntmps7
  go_wp2_with fail
  change Calls Tryf.prog 15 #[Value.int IntKind.i64 32] ((w.alloc (.cells zeros 23)).alloc (.cells zeros 23)) _
  obtain ⟨t1, t2, t3, t4⟩ := two_zeros w
  generalize (w.alloc (.cells zeros 23)).alloc (.cells zeros 23) = W1 at *
  refine (Tryf.hex_EncodedLen 32 (by omega) (by omega) _).mono ?_
  rintro e w' ⟨rfl, rfl⟩
  have Ht2 : Hid (w'.heap.size = w.heap.size + 1 + 1) := t2
  have Ht3 : Hid (w'.heap[w.heap.size]? = some (.cells zeros 23 (0, 0))) := t3
  clear t2 t3
  go_wp2_with fail
  refine (dec s H64.out D (.bad c) hD.out ev w w' hE t1 Ht2.out Ht3.out t4 _).mono ?_
  rintro e w2 ⟨rfl, hrow, hz, hb2, hs2⟩
  simp only [Hx.errVal]
  have Hz : Hid (w2.heap[w.heap.size]? = some (.cells zeros 23 (0, 0))) := hz
  clear hrow hz t4 t1 hcv h64 hE Ht2 Ht3
  go_wp2_with fail
  change Calls Tryf.prog 16 #[Value.string fmtB, Value.slice (some ⟨w2.heap.size, 0, none⟩) 1 1] (w2.alloc (.cells #[.iface 45 (.int .u8 (c.toNat : Int))] 20)) _
  have hF2 : F.answers (w2.alloc (.cells #[.iface 45 (.int .u8 (c.toNat : Int))] 20)).tape := by
    show F.answers w2.tape
    rw [hb2.tape]; exact HF.out
  have b3 : Below w.heap.size w (w2.alloc (.cells #[.iface 45 (.int .u8 (c.toNat : Int))] 20)) := hb2.alloc (by omega) _
  have z3 : (w2.alloc (.cells #[.iface 45 (.int .u8 (c.toNat : Int))] 20)).heap[w.heap.size]? = some (.cells zeros 23 (0, 0)) := by
    rw [RowKit.Below.heap_alloc _ _ _ (by omega)]; exact Hz.out
  have s3 : w.heap.size + 3 ≤ (w2.alloc (.cells #[.iface 45 (.int .u8 (c.toNat : Int))] 20)).heap.size := by simp; omega
  refine (errorf_bad F (c.toNat : Int) w2.heap.size _ hF2 (by omega) (by have := UInt8.toNat_lt c; omega) (by go_simp)).mono ?_
  rintro e w3 ⟨v, rfl, b4⟩
  have B3 : Below w.heap.size w w3 := b3.trans (b4.mono (by omega))
  have Z3 : Hid (w3.heap[w.heap.size]? = some (.cells zeros 23 (0, 0))) := (b4.block _ (by omega)).trans z3
  clear b3 z3 s3 b4 hF2 HF hb2 hs2 Hz
  have hi : (Tryf.prog.info? 23).map (·.size) = some zeros.size := by kernel_rfl
  have Hi : Hid ((Tryf.prog.info? 23).map (·.size) = some zeros.size) := hi
  clear hi
  go_wp2_with (refine wpList_store_row rfl 23 _ _ rfl w.heap.size zeros rfl rfl 23 zeros Z3.out Hi.out rfl oneCell_zeros ?_)
  refine bodyPost_ret (v := .tuple #[.agg zeros, .iface 44 v]) (res7 rfl (setRow_heap w3 _ _ _ _ _ Z3.out) rfl rfl) rfl ⟨44, v, rfl, below_setRow B3 (Nat.le_refl _) _⟩

end Go.Proofs.Qxb6002389aFmt.hx
