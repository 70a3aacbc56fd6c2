/-
  The walk of FnParseIDThenStringIsLowercased (5).
-/
import Derived.Test.Qxb6002389aFmtParseNo
namespace Go.Proofs.Qxb6002389aFmt.hx
open Go.RowKit Go.Lib

theorem zzb (s : ByteArray) (h : s.size ≤ 1048576) (w : World) : Calls Tryf.prog 12 #[.string s] w fun e w' => e = .returned (.bool true) ∧ w' = w := by
  go_enter Tryf.func12, Tryf.ntmps12
  go_wp2
  go_ret
  exact ⟨rfl, rfl⟩

theorem fn5_long (s : ByteArray) (w0 : s.size ≤ maxLen) (h : 1048576 < s.size) (w : World) :
    Calls Tryf.prog 5 #[.string s] w fun e w' => e = .returned (.bool true) ∧ Below w.heap.size w w' := by
  unfold maxLen at w0
  go_enter Tryf.func5, Tryf.ntmps5
  go_wp2
  go_ret
  exact ⟨rfl, Below.refl _ _⟩

/-- Behind 'id, err := ..': a variable of ID's type, filled. -/
theorem below_alloc_set' (w : World) (c c' : Array Value) (t : TypeId) : Below w.heap.size w ((w.alloc (.cells c t)).setRow w.heap.size c') :=
  below_setRow ((Below.refl _ w).alloc (Nat.le_refl _) _) (Nat.le_refl _) _

set_option maxHeartbeats 1000000 in
/-- ParseID refuses: true. -/
theorem fn5_no (s : ByteArray) (h : s.size ≤ 1048576) (w : World) (hP : Hid (∀ w', w' = w → Calls Tryf.prog 7 #[.string s] w' fun e w2 => ∃ t v, e = .returned (.tuple #[.agg zeros, .iface t v]) ∧ Below w.heap.size w w2)) :
    Calls Tryf.prog 5 #[.string s] w fun e w' => e = .returned (.bool true) ∧ Below w.heap.size w w' := by
  have hi : (Tryf.prog.info? 23).map (·.size) = some zeros.size := by kernel_rfl
  have Hi : Hid ((Tryf.prog.info? 23).map (·.size) = some zeros.size) := hi
  clear hi
  go_enter Tryf.func5, Tryf.ntmps5
  go_wp2_with fail
  refine (zzb s h w).mono ?_
  rintro e w' ⟨rfl, rfl⟩
  go_wp2_with fail
  refine (hP.out _ rfl).mono ?_
  rintro e w2 ⟨t, v, rfl, b2⟩
  go_wp2_with (refine wpList_store_row rfl 23 _ _ rfl w2.heap.size zeros rfl rfl 23 zeros (heap_alloc_last _ _) Hi.out rfl oneCell_zeros ?_)
  go_ret
  exact ⟨rfl, b2.trans ((below_alloc_set' w2 zeros zeros 23).mono b2.size)⟩

set_option maxHeartbeats 1000000 in
theorem fn5_yes (s : ByteArray) (h64 : s.size = 64) (D : List UInt8) (hD : Hid (Hx.decode s.data.toList = (D, .ok))) (ev : Value) (w : World) (hE : w.cell? ⟨0, 0, none⟩ = some ev) :
    Calls Tryf.prog 5 #[.string s] w fun e w' => e = .returned (.bool true) ∧ Below w.heap.size w w' := by
  have hDl : D.length = 32 := by
    have := decode_length _ _ hD.out
    have h2 : s.data.toList.length = s.size := by simp
    omega
  have hlow := encode_decode _ _ hD.out
  have HL : Hid (D.length = 32) := hDl
  have hi23 : (Tryf.prog.info? 23).map (·.size) = some (cellsL D).size := by rw [cellsL_size, hDl]; kernel_rfl
  have H23 : Hid ((Tryf.prog.info? 23).map (·.size) = some (cellsL D).size) := hi23
  have HZ : Hid (zeros.size = (cellsL D).size) := by rw [cellsL_size, hDl]; rfl
  have hs : s.size ≤ 1048576 := by omega
  have HE : Hid (w.cell? ⟨0, 0, none⟩ = some ev) := hE
  have H64 : Hid (s.size = 64) := h64
  have HLOW : Hid (Hx.encode D = s.data.toList.map lowB) := hlow
  clear hi23 hDl h64 hE hlow
  go_enter Tryf.func5, Tryf.ntmps5
  go_wp2_with fail
  refine (zzb s hs w).mono ?_
  rintro e w' ⟨rfl, rfl⟩
  go_wp2_with fail
  refine (parse_ok s H64.out D hD.out ev _ HE.out).mono ?_
  rintro e w2 ⟨rfl, b2⟩
  go_wp2_with (first
    | (refine wpList_store_row rfl 23 _ _ rfl w2.heap.size (cellsL D) rfl rfl 23 zeros (heap_alloc_last _ _) H23.out HZ.out (oneCell_cellsL D) ?_)
    | (refine wpList_load_row rfl 23 _ rfl w2.heap.size rfl 23 (cellsL D) (0, 0) _ (setRow_heap _ _ _ _ _ _ (heap_alloc_last _ _)) Tryf.underlying23 rfl H23.out ?_))
  change Calls Tryf.prog 6 #[Value.agg (cellsL D)] ((w2.alloc (.cells zeros 23)).setRow w2.heap.size (cellsL D)) _
  have b3 := below_alloc_set' w2 zeros (cellsL D) 23
  generalize (w2.alloc (.cells zeros 23)).setRow w2.heap.size (cellsL D) = W3 at *
  have B3 := b2.trans (b3.mono b2.size)
  clear b3 b2
  refine (string_calls D HL.out W3).mono ?_
  rintro e w4 ⟨rfl, b4⟩
  have B4 := B3.trans (b4.mono B3.size)
  clear B3 b4
  go_wp2_with fail
  refine (lower_calls s hs w4).mono ?_
  rintro e w5 ⟨rfl, b5⟩
  have B5 := B4.trans (b5.mono B4.size)
  clear B4 b5
  rw [HLOW.out]
  go_wp2
  go_ret
  exact ⟨rfl, B5⟩

theorem low_walk (F : Stop.Interp) (s : ByteArray) (w0 : s.size ≤ maxLen) (ev : Value) (w : World) (hE : w.cell? ⟨0, 0, none⟩ = some ev) (hF : F.answers w.tape) :
    Calls Tryf.prog 5 #[.string s] w fun e w' => e = .returned (.bool true) ∧ Below w.heap.size w w' := by
  by_cases hs : s.size ≤ 1048576
  · by_cases h64 : s.size = 64
    · cases hD : Hx.decode s.data.toList with
      | mk D out =>
        cases out with
        | ok => exact fn5_yes s h64 D hD ev w hE
        | bad c => exact fn5_no s hs w (fun w' e => by subst e; exact parse_bad F s h64 D c hD ev w' hE hF)
        | odd =>
          have h2 : s.data.toList.length = s.size := by simp
          exact absurd (by rw [hD]) (decode_not_odd s.data.toList (by omega))
    · exact fn5_no s hs w (fun w' e => by subst e; exact parse_len F s hs h64 w' hF)
  · exact fn5_long s w0 (by omega) w

end Go.Proofs.Qxb6002389aFmt.hx
