/-
  The walks of ID.String (6), zzUpper (8), zzLower (13).
-/
import Derived.Test.Qxb6002389aFmtRows
import Derived.Test.Qxb6002389aFmtShelf
import Derived.Test.Qxb6002389aFmtPlain
import Derived.WalkKit
import Derived.Deep.OwnRows
import Derived.Lib.Bytes
namespace Go.Proofs.Qxb6002389aFmt.hx
open Go.RowKit Go.Lib

/-- Bytes as cells. -/
def cellsL (l : List UInt8) : Array Value := (l.map fun b => Value.int .u8 (b.toNat : Int)).toArray
def numsL (l : List UInt8) : List Int := l.map fun b => (b.toNat : Int)
theorem cellsL_size (l : List UInt8) : (cellsL l).size = l.length := by simp [cellsL]
theorem numsL_length (l : List UInt8) : (numsL l).length = l.length := by simp [numsL]
theorem numsL_range (l : List UInt8) (i : Nat) : 0 ≤ (numsL l).getD i 0 ∧ (numsL l).getD i 0 < 256 := by
  unfold numsL
  rw [List.getD_eq_getElem?_getD, List.getElem?_map]
  cases l[i]? with
  | none => simp
  | some b => have := UInt8.toNat_lt b; simp; omega
theorem cellsL_at (l : List UInt8) (i : Nat) (h : i < l.length) : (cellsL l)[i]? = some (.int .u8 ((numsL l).getD i 0)) := by
  unfold cellsL numsL
  rw [List.getElem?_toArray, List.getElem?_map, List.getD_eq_getElem?_getD, List.getElem?_map, List.getElem?_eq_getElem h]
  rfl
theorem bytesOf_numsL (l : List UInt8) : Lib.bytesOf (numsL l) = l := by
  unfold Lib.bytesOf numsL
  rw [List.map_map]
  conv => rhs; rw [← List.map_id l]
  apply List.map_congr_left
  intro b _
  simp

set_option maxHeartbeats 400000 in
theorem string_calls (l : List UInt8) (hl : l.length = 32) (w : World) :
    Calls Tryf.prog 6 #[.agg (cellsL l)] w fun e w' => e = .returned (.string ⟨(Hx.encode l).toArray⟩) ∧ Below w.heap.size w w' := by
  have hc := Tryf.hex_EncodeToString w.heap.size 0 32 32 (numsL l) (w.alloc (.cells (cellsL l) 23)) (by rw [numsL_length, hl]) (fun i _ => numsL_range l i)
    (fun i hi => by rw [Nat.zero_add, World.cell?_alloc_at (cellsL l) 23 w.heap.size i rfl]; exact cellsL_at l i (by omega)) (by simp) (by omega)
  rw [bytesOf_numsL] at hc
  have H := hc
  clear hc
  go_enter Tryf.func6, Tryf.ntmps6
  go_wp2_with fail
  refine H.mono ?_
  rintro e w' ⟨rfl, hb⟩
  clear H
  go_wp2
  go_ret
  exact ⟨rfl, ((Below.refl _ w).alloc (Nat.le_refl _) _).trans (hb.mono (by simp))⟩

/-- What 'string(b)' gives when the row holds the bytes l. -/
theorem back (w : World) (b : Nat) (l : List UInt8) (n : Nat) (hn : l.length = n) (hc : ∀ j, j < n → w.cell? ⟨b, j, none⟩ = some (.int .u8 ((l[j]?.getD 0).toNat : Int))) :
    (convert 36 9 (.slice (some ⟨b, 0, none⟩) n n)).run Tryf.prog w = .ok (.string ⟨l.toArray⟩) w := by
  subst hn
  refine run_convert_bytes_back w 36 9 5 ⟨b, 0, none⟩ l.length l Tryf.underlying36 Tryf.underlying5 Tryf.underlying9 (fun j hj => ?_)
  have : (⟨b, 0, none⟩ : Addr).add j = ⟨b, j, none⟩ := by unfold Addr.add; split <;> simp_all
  rw [this, hc j hj, List.getElem?_eq_getElem hj]
  rfl

/-- The row of a text turned letter by letter, its first k letters done. -/
def caseRow (u : UInt8 → UInt8) (s : ByteArray) (k : Nat) : Nat → Value := fun j => if j < k then .int .u8 ((u (s.data.toList[j]?.getD 0)).toNat : Int) else .int .u8 0

theorem caseRow_step (u : UInt8 → UInt8) (s : ByteArray) (k : Nat) (c : UInt8) (hc : s.data.toList[k]? = some c) (j : Nat) :
    (if j = k then Value.int .u8 ((u c).toNat : Int) else caseRow u s k j) = caseRow u s (k + 1) j := by
  unfold caseRow
  by_cases h : j = k
  · subst h; rw [if_pos rfl, if_pos (by omega), hc]; rfl
  · rw [if_neg h]
    by_cases h2 : j < k
    · rw [if_pos h2, if_pos (by omega)]
    · rw [if_neg h2, if_neg (by omega)]

theorem at_eq (s : ByteArray) (k : Nat) (h : k < s.size) : s.data.toList[k]? = some s[k] := by
  rw [List.getElem?_eq_getElem (by simpa using h)]; rfl

theorem up_yes (c : UInt8) (h1 : 97 ≤ (c.toNat : Int)) (h2 : (c.toNat : Int) ≤ 102) : ((upB c).toNat : Int) = (c.toNat : Int) - 97 + 65 := by
  unfold upB; rw [if_pos (by omega), UInt8.toNat_ofNat']; omega
theorem up_no (c : UInt8) (h : ¬ (97 ≤ c.toNat ∧ c.toNat ≤ 102)) : upB c = c := by
  unfold upB; rw [if_neg h]

set_option maxHeartbeats 1000000 in
theorem upper_calls (s : ByteArray) (hs : s.size ≤ 1048576) (w : World) :
    Calls Tryf.prog 8 #[.string s] w fun e w' => e = .returned (.string ⟨(s.data.toList.map upB).toArray⟩) ∧ Below w.heap.size w w' := by
  have hmk : ∀ w : World, (Instr.makeSlice 36 (.int .i64 (s.size : Int)) (.int .i64 (s.size : Int))).run Tryf.prog w = .ok (.slice (some ⟨w.heap.size, 0, none⟩) s.size s.size) (w.alloc (.cells (madeCells #[.int .u8 0] s.size) 5)) := fun w =>
    run_make_row' (P := Tryf.prog) 36 5 (.int .u8 0) 1 Tryf.underlying36 (by kernel_rfl) rfl .i64 .i64 s.size (by omega) (by omega) w
  have hrow0 := World.rowIs_made w (.int .u8 0) s.size 5
  go_enter Tryf.func8, Tryf.ntmps8
  go_wp2
  clear hmk
  go_loopw [4] (fun i wr => ∃ k : Nat, k ≤ s.size ∧ i = .int .i64 k ∧ Hid (wr.rowIs w.heap.size 5 s.size (caseRow upB s k)) ∧ Hid (Below w.heap.size w wr)) (fun i _ => s.size - (RowKit.intOf i).toNat)
  case atStart => exact ⟨0, Nat.zero_le _, rfl, hrow0.congr (fun j _ => by unfold caseRow; rw [if_neg (by omega)]), (Below.refl _ w).alloc (Nat.le_refl _) _⟩
  case round =>
    obtain ⟨k, hk, rfl, hrw, hbl⟩ := hrel
    by_cases hlt : k < s.size
    · have hat := at_eq s k hlt
      have hl := UInt8.toNat_lt s[k]
      have hf1 : wr.frozen? ⟨w.heap.size, k, none⟩ = false := hrw.out.frozen _
      have hc1 : wr.cell? ⟨w.heap.size, k, none⟩ = some (caseRow upB s k k) := hrw.out.cell hlt
      have HS := fun j => caseRow_step upB s k s[k] hat j
      have HH : Hid (∀ j, (if j = k then Value.int .u8 ((upB s[k]).toNat : Int) else caseRow upB s k j) = caseRow upB s (k + 1) j) := HS
      clear HS hat
      by_cases d1 : (97 : Int) ≤ (s[k].toNat : Int)
      · by_cases d2 : (s[k].toNat : Int) ≤ 102
        · have hu := up_yes s[k] d1 d2
          have HU : Hid (((upB s[k]).toNat : Int) = (s[k].toNat : Int) - 97 + 65) := hu
          clear hu
          go_wp2
          go_roundw
          case rel =>
            refine ⟨k + 1, by omega, by go_num, (hrw.out.set _ _).congr (fun j _ => ?_), hbl.out.setCell (Nat.le_refl _) _⟩
            rw [← HH.out j, HU.out]
          case measure => simp [RowKit.intOf]; omega
        · have hu := up_no s[k] (by omega)
          have HU : Hid (upB s[k] = s[k]) := hu
          clear hu
          go_wp2
          go_roundw
          case rel =>
            refine ⟨k + 1, by omega, by go_num, (hrw.out.set _ _).congr (fun j _ => ?_), hbl.out.setCell (Nat.le_refl _) _⟩
            rw [← HH.out j, HU.out]
          case measure => simp [RowKit.intOf]; omega
      · have hu := up_no s[k] (by omega)
        have HU : Hid (upB s[k] = s[k]) := hu
        clear hu
        go_wp2
        go_roundw
        case rel =>
          refine ⟨k + 1, by omega, by go_num, (hrw.out.set _ _).congr (fun j _ => ?_), hbl.out.setCell (Nat.le_refl _) _⟩
          rw [← HH.out j, HU.out]
        case measure => simp [RowKit.intOf]; omega
    · obtain rfl : k = s.size := by omega
      have hbk := back wr w.heap.size (s.data.toList.map upB) s.size (by simp) (fun j hj => by
        rw [hrw.out.cell hj]
        unfold caseRow
        rw [if_pos hj, List.getElem?_map, at_eq s j hj]
        rfl)
      go_wp2
      go_ret
      exact ⟨rfl, hbl.out⟩

theorem low_yes (c : UInt8) (h1 : 65 ≤ (c.toNat : Int)) (h2 : (c.toNat : Int) ≤ 70) : ((lowB c).toNat : Int) = (c.toNat : Int) - 65 + 97 := by
  unfold lowB; rw [if_pos (by omega), UInt8.toNat_ofNat']; omega
theorem low_no (c : UInt8) (h : ¬ (65 ≤ c.toNat ∧ c.toNat ≤ 70)) : lowB c = c := by
  unfold lowB; rw [if_neg h]

set_option maxHeartbeats 1000000 in
theorem lower_calls (s : ByteArray) (hs : s.size ≤ 1048576) (w : World) :
    Calls Tryf.prog 13 #[.string s] w fun e w' => e = .returned (.string ⟨(s.data.toList.map lowB).toArray⟩) ∧ Below w.heap.size w w' := by
  have hmk : ∀ w : World, (Instr.makeSlice 36 (.int .i64 (s.size : Int)) (.int .i64 (s.size : Int))).run Tryf.prog w = .ok (.slice (some ⟨w.heap.size, 0, none⟩) s.size s.size) (w.alloc (.cells (madeCells #[.int .u8 0] s.size) 5)) := fun w =>
    run_make_row' (P := Tryf.prog) 36 5 (.int .u8 0) 1 Tryf.underlying36 (by kernel_rfl) rfl .i64 .i64 s.size (by omega) (by omega) w
  have hrow0 := World.rowIs_made w (.int .u8 0) s.size 5
  go_enter Tryf.func13, Tryf.ntmps13
  go_wp2
  clear hmk
  go_loopw [4] (fun i wr => ∃ k : Nat, k ≤ s.size ∧ i = .int .i64 k ∧ Hid (wr.rowIs w.heap.size 5 s.size (caseRow lowB s k)) ∧ Hid (Below w.heap.size w wr)) (fun i _ => s.size - (RowKit.intOf i).toNat)
  case atStart => exact ⟨0, Nat.zero_le _, rfl, hrow0.congr (fun j _ => by unfold caseRow; rw [if_neg (by omega)]), (Below.refl _ w).alloc (Nat.le_refl _) _⟩
  case round =>
    obtain ⟨k, hk, rfl, hrw, hbl⟩ := hrel
    by_cases hlt : k < s.size
    · have hat := at_eq s k hlt
      have hl := UInt8.toNat_lt s[k]
      have hf1 : wr.frozen? ⟨w.heap.size, k, none⟩ = false := hrw.out.frozen _
      have hc1 : wr.cell? ⟨w.heap.size, k, none⟩ = some (caseRow lowB s k k) := hrw.out.cell hlt
      have HS := fun j => caseRow_step lowB s k s[k] hat j
      have HH : Hid (∀ j, (if j = k then Value.int .u8 ((lowB s[k]).toNat : Int) else caseRow lowB s k j) = caseRow lowB s (k + 1) j) := HS
      clear HS hat
      by_cases d1 : (65 : Int) ≤ (s[k].toNat : Int)
      · by_cases d2 : (s[k].toNat : Int) ≤ 70
        · have hu := low_yes s[k] d1 d2
          have HU : Hid (((lowB s[k]).toNat : Int) = (s[k].toNat : Int) - 65 + 97) := hu
          clear hu
          go_wp2
          go_roundw
          case rel =>
            refine ⟨k + 1, by omega, by go_num, (hrw.out.set _ _).congr (fun j _ => ?_), hbl.out.setCell (Nat.le_refl _) _⟩
            rw [← HH.out j, HU.out]
          case measure => simp [RowKit.intOf]; omega
        · have hu := low_no s[k] (by omega)
          have HU : Hid (lowB s[k] = s[k]) := hu
          clear hu
          go_wp2
          go_roundw
          case rel =>
            refine ⟨k + 1, by omega, by go_num, (hrw.out.set _ _).congr (fun j _ => ?_), hbl.out.setCell (Nat.le_refl _) _⟩
            rw [← HH.out j, HU.out]
          case measure => simp [RowKit.intOf]; omega
      · have hu := low_no s[k] (by omega)
        have HU : Hid (lowB s[k] = s[k]) := hu
        clear hu
        go_wp2
        go_roundw
        case rel =>
          refine ⟨k + 1, by omega, by go_num, (hrw.out.set _ _).congr (fun j _ => ?_), hbl.out.setCell (Nat.le_refl _) _⟩
          rw [← HH.out j, HU.out]
        case measure => simp [RowKit.intOf]; omega
    · obtain rfl : k = s.size := by omega
      have hbk := back wr w.heap.size (s.data.toList.map lowB) s.size (by simp) (fun j hj => by
        rw [hrw.out.cell hj]
        unfold caseRow
        rw [if_pos hj, List.getElem?_map, at_eq s j hj]
        rfl)
      go_wp2
      go_ret
      exact ⟨rfl, hbl.out⟩

end Go.Proofs.Qxb6002389aFmt.hx
