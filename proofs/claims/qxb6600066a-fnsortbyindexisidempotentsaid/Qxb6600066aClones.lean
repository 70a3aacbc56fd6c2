/-
  The walks of cloneInts (18), cloneU8s (21), cloneU64s (22).
-/
import Derived.Test.Qxb6600066aRows
import Derived.Test.Qxb6600066aSortPlain
import Derived.WalkKit
import Derived.ProofKit
import Derived.WalkSpells
import Derived.WalkLawsBesides
import Derived.Lib.SliceRun
namespace Go.Proofs.Qxb6600066a.srt
open Go.RowKit Go.ChangeShapes Go.WideShapes Go.ChangeAt

/-- What a walk is told of a slice of integers that came in (the shell's own): it is nil; or it leads to a row of 'cap' cells, the numbers 'zs'. -/
def IsRow (k : IntKind) (w : World) (a : Option Addr) (len cap : Nat) (zs : List Int) : Prop :=
  (a = none ∧ len = 0 ∧ cap = 0 ∧ zs = []) ∨
  ∃ x, a = some x ∧ len ≤ cap ∧ cap ≤ maxLen ∧ zs.length = cap ∧ (∀ i, i < zs.length → w.cell? (x.add i) = some (.int k (zs.getD i 0))) ∧ ∀ n ∈ zs, (Lit.int k n).wf = true

/-- Old memory stays: a slice that came in is told of in a later world too. -/
theorem IsRow.later {k : IntKind} {w w' : World} {a : Option Addr} {len cap : Nat} {zs : List Int} (h : IsRow k w a len cap zs) (hb : Below w.heap.size w w') : IsRow k w' a len cap zs := by
  rcases h with h | ⟨x, h1, h2, h3, h4, h5, h6⟩
  · exact .inl h
  · refine .inr ⟨x, h1, h2, h3, h4, fun i hi => ?_, h6⟩
    have hc := h5 i hi
    rw [hb.cell (World.block_lt_of_cell? w _ hc)]
    exact hc

/-- A column of numbers that the call itself made: nil, or a row of its own from place 0 on. -/
def Col (k : IntKind) (t : TypeId) (w : World) (v : Value) (n : Nat) (z : Nat → Int) : Prop :=
  (v = .slice none 0 0 ∧ n = 0) ∨ ∃ b, v = .slice (some ⟨b, 0, none⟩) n n ∧ w.rowIs b t n (fun i => .int k (z i))

theorem Col.later {k : IntKind} {t : TypeId} {w w' : World} {v : Value} {n : Nat} {z : Nat → Int} (h : Col k t w v n z) (hb : Below w.heap.size w w') : Col k t w' v n z := by
  rcases h with h | ⟨b, h1, h2⟩
  · exact .inl h
  · exact .inr ⟨b, h1, h2.of_block (hb.block b h2.lt)⟩

/-- A clone, its first j numbers laid. -/
def cloneRow (k : IntKind) (z : Nat → Int) (j : Nat) : Nat → Value := fun i => if i < j then .int k (z i) else .int k 0
theorem cloneRow_step (k : IntKind) (z : Nat → Int) (j i : Nat) : (if i = j then Value.int k (z j) else cloneRow k z j i) = cloneRow k z (j + 1) i := by
  unfold cloneRow
  by_cases h : i = j
  · subst h; rw [if_pos rfl, if_pos (by omega)]
  · rw [if_neg h]
    by_cases h2 : i < j
    · rw [if_pos h2, if_pos (by omega)]
    · rw [if_neg h2, if_neg (by omega)]

set_option maxHeartbeats 800000 in
theorem ints_some (b off n c : Nat) (z : Nat → Int) (w : World) (hn : n ≤ 1048576) (hc : ∀ i, i < n → w.cell? ⟨b, off + i, none⟩ = some (.int .i64 (z i))) :
    Calls Try.prog 18 #[.slice (some ⟨b, off, none⟩) n c] w fun e w' => e = .returned (.slice (some ⟨w.heap.size, 0, none⟩) n n) ∧ w'.rowIs w.heap.size 3 n (fun i => .int .i64 (z i)) ∧ Below w.heap.size w w' := by
  have hmk : ∀ w : World, (Instr.makeSlice 26 (.int .i64 (n : Int)) (.int .i64 (n : Int))).run Try.prog w = .ok (.slice (some ⟨w.heap.size, 0, none⟩) n n) (w.alloc (.cells (madeCells #[.int .i64 0] n) 3)) := fun w =>
    run_make_row' (P := Try.prog) 26 3 (.int .i64 0) 8 Try.underlying26 (by kernel_rfl) rfl .i64 .i64 n (by omega) (by omega) w
  have hnil := fun w => Lib.run_eql_slice_nil (P := Try.prog) w 26 3 (some ⟨b, off, none⟩) n c 0 0 Try.underlying26
  have hrow0 := World.rowIs_made w (.int .i64 0) n 3
  have HC : Hid (∀ i, i < n → w.cell? ⟨b, off + i, none⟩ = some (.int .i64 (z i))) := hc
  clear hc
  go_enter Try.func18, Try.ntmps18
  go_wp2
  clear hmk hnil
  go_loopw [4] (fun i wr => ∃ k : Nat, k ≤ n ∧ i = .int .i64 k ∧ Hid (wr.rowIs w.heap.size 3 n (cloneRow .i64 z k)) ∧ Hid (Below w.heap.size w wr)) (fun i _ => n - (intOf i).toNat)
  case atStart => exact ⟨0, Nat.zero_le _, rfl, hrow0.congr (fun j _ => by unfold cloneRow; rw [if_neg (by omega)]), (Below.refl _ w).alloc (Nat.le_refl _) _⟩
  case round =>
    obtain ⟨k, hk, rfl, hrw, hbl⟩ := hrel
    by_cases hlt : k < n
    · have hcx := HC.out k hlt
      have hcr : wr.cell? ⟨b, off + k, none⟩ = some (.int .i64 (z k)) := by rw [hbl.out.cell (World.block_lt_of_cell? w _ hcx)]; exact hcx
      have hf1 : wr.frozen? ⟨w.heap.size, k, none⟩ = false := hrw.out.frozen _
      have hc1 : wr.cell? ⟨w.heap.size, k, none⟩ = some (cloneRow .i64 z k k) := hrw.out.cell hlt
      clear hcx
      go_wp2
      go_roundw
      case rel => exact ⟨k + 1, by omega, by go_num, (hrw.out.set _ _).congr (fun j _ => cloneRow_step .i64 z k j), hbl.out.setCell (Nat.le_refl _) _⟩
      case measure => simp [intOf]; omega
    · go_wp2
      go_ret
      exact ⟨rfl, hrw.out.congr (fun i hi => by unfold cloneRow; rw [if_pos (by omega)]), hbl.out⟩

set_option maxHeartbeats 800000 in
theorem ints_empty (x : Addr) (c : Nat) (w : World) :
    Calls Try.prog 18 #[.slice (some x) 0 c] w fun e w' => e = .returned (.slice (some ⟨w.heap.size, 0, none⟩) 0 0) ∧ w'.rowIs w.heap.size 3 0 (fun _ => .int .i64 0) ∧ Below w.heap.size w w' := by
  have hmk : ∀ w : World, (Instr.makeSlice 26 (.int .i64 0) (.int .i64 0)).run Try.prog w = .ok (.slice (some ⟨w.heap.size, 0, none⟩) 0 0) (w.alloc (.cells (madeCells #[.int .i64 0] 0) 3)) := fun w =>
    run_make_row' (P := Try.prog) 26 3 (.int .i64 0) 8 Try.underlying26 (by kernel_rfl) rfl .i64 .i64 0 (by omega) (by omega) w
  have hnil := fun w => Lib.run_eql_slice_nil (P := Try.prog) w 26 3 (some x) 0 c 0 0 Try.underlying26
  have hrow0 : Hid ((w.alloc (.cells (madeCells #[.int .i64 0] 0) 3)).rowIs w.heap.size 3 0 (fun _ => .int .i64 0)) := World.rowIs_made w (.int .i64 0) 0 3
  have hbl : Hid (Below w.heap.size w (w.alloc (.cells (madeCells #[.int .i64 0] 0) 3))) := (Below.refl _ w).alloc (Nat.le_refl _) _
  go_enter Try.func18, Try.ntmps18
  go_wp2
  clear hmk hnil
  go_loopw [4] (fun i wr => i = .int .i64 0 ∧ Hid (wr.rowIs w.heap.size 3 0 (fun _ => .int .i64 0)) ∧ Hid (Below w.heap.size w wr)) (fun _ _ => 0)
  case atStart => exact ⟨rfl, hrow0, hbl⟩
  case round =>
    obtain ⟨rfl, hr, hb⟩ := hrel
    go_wp2
    go_ret
    exact ⟨rfl, hr.out, hb.out⟩

set_option maxHeartbeats 800000 in
theorem ints_nil (w : World) :
    Calls Try.prog 18 #[.slice none 0 0] w fun e w' => e = .returned (.slice none 0 0) ∧ w' = w := by
  have hnil := fun w => Lib.run_eql_slice_nil (P := Try.prog) w 26 3 none 0 0 0 0 Try.underlying26
  go_enter Try.func18, Try.ntmps18
  go_wp2
  go_ret
  exact ⟨rfl, rfl⟩

theorem ints_calls (a : Option Addr) (n c : Nat) (zs : List Int) (w : World) (h : IsRow .i64 w a n c zs) (hn : n ≤ 1048576) :
    Calls Try.prog 18 #[.slice a n c] w fun e w' => ∃ v, e = .returned v ∧ Col .i64 3 w' v n (fun i => zs.getD i 0) ∧ Below w.heap.size w w' := by
  rcases h with ⟨rfl, rfl, rfl, rfl⟩ | ⟨x, rfl, h2, h3, h4, h5, h6⟩
  · refine (ints_nil w).mono ?_
    rintro e w' ⟨rfl, rfl⟩
    exact ⟨_, rfl, .inl ⟨rfl, rfl⟩, Below.refl _ _⟩
  · by_cases h0 : n = 0
    · subst h0
      refine (ints_empty x c w).mono ?_
      rintro e w' ⟨rfl, hr, hb⟩
      exact ⟨_, rfl, .inr ⟨_, rfl, hr.congr (fun i hi => by omega)⟩, hb⟩
    · obtain ⟨b, off, spot⟩ := x
      have hc := h5 0 (by omega)
      have hspot : spot = none := by simpa [Addr.add] using World.cell?_spot hc
      subst hspot
      refine (ints_some b off n c (fun i => zs.getD i 0) w hn (fun i hi => ?_)).mono ?_
      · have := h5 i (by omega)
        rwa [add_plain] at this
      · rintro e w' ⟨rfl, hr, hb⟩
        exact ⟨_, rfl, .inr ⟨_, rfl, hr⟩, hb⟩

set_option maxHeartbeats 800000 in
theorem u8s_some (b off n c : Nat) (z : Nat → Int) (w : World) (hn : n ≤ 1048576) (hc : ∀ i, i < n → w.cell? ⟨b, off + i, none⟩ = some (.int .u8 (z i))) :
    Calls Try.prog 21 #[.slice (some ⟨b, off, none⟩) n c] w fun e w' => e = .returned (.slice (some ⟨w.heap.size, 0, none⟩) n n) ∧ w'.rowIs w.heap.size 5 n (fun i => .int .u8 (z i)) ∧ Below w.heap.size w w' := by
  have hmk : ∀ w : World, (Instr.makeSlice 22 (.int .i64 (n : Int)) (.int .i64 (n : Int))).run Try.prog w = .ok (.slice (some ⟨w.heap.size, 0, none⟩) n n) (w.alloc (.cells (madeCells #[.int .u8 0] n) 5)) := fun w =>
    run_make_row' (P := Try.prog) 22 5 (.int .u8 0) 1 Try.underlying22 (by kernel_rfl) rfl .i64 .i64 n (by omega) (by omega) w
  have hnil := fun w => Lib.run_eql_slice_nil (P := Try.prog) w 22 5 (some ⟨b, off, none⟩) n c 0 0 Try.underlying22
  have hrow0 := World.rowIs_made w (.int .u8 0) n 5
  have HC : Hid (∀ i, i < n → w.cell? ⟨b, off + i, none⟩ = some (.int .u8 (z i))) := hc
  clear hc
  go_enter Try.func21, Try.ntmps21
  go_wp2
  clear hmk hnil
  go_loopw [4] (fun i wr => ∃ k : Nat, k ≤ n ∧ i = .int .i64 k ∧ Hid (wr.rowIs w.heap.size 5 n (cloneRow .u8 z k)) ∧ Hid (Below w.heap.size w wr)) (fun i _ => n - (intOf i).toNat)
  case atStart => exact ⟨0, Nat.zero_le _, rfl, hrow0.congr (fun j _ => by unfold cloneRow; rw [if_neg (by omega)]), (Below.refl _ w).alloc (Nat.le_refl _) _⟩
  case round =>
    obtain ⟨k, hk, rfl, hrw, hbl⟩ := hrel
    by_cases hlt : k < n
    · have hcx := HC.out k hlt
      have hcr : wr.cell? ⟨b, off + k, none⟩ = some (.int .u8 (z k)) := by rw [hbl.out.cell (World.block_lt_of_cell? w _ hcx)]; exact hcx
      have hf1 : wr.frozen? ⟨w.heap.size, k, none⟩ = false := hrw.out.frozen _
      have hc1 : wr.cell? ⟨w.heap.size, k, none⟩ = some (cloneRow .u8 z k k) := hrw.out.cell hlt
      clear hcx
      go_wp2
      go_roundw
      case rel => exact ⟨k + 1, by omega, by go_num, (hrw.out.set _ _).congr (fun j _ => cloneRow_step .u8 z k j), hbl.out.setCell (Nat.le_refl _) _⟩
      case measure => simp [intOf]; omega
    · go_wp2
      go_ret
      exact ⟨rfl, hrw.out.congr (fun i hi => by unfold cloneRow; rw [if_pos (by omega)]), hbl.out⟩

set_option maxHeartbeats 800000 in
theorem u8s_empty (x : Addr) (c : Nat) (w : World) :
    Calls Try.prog 21 #[.slice (some x) 0 c] w fun e w' => e = .returned (.slice (some ⟨w.heap.size, 0, none⟩) 0 0) ∧ w'.rowIs w.heap.size 5 0 (fun _ => .int .u8 0) ∧ Below w.heap.size w w' := by
  have hmk : ∀ w : World, (Instr.makeSlice 22 (.int .i64 0) (.int .i64 0)).run Try.prog w = .ok (.slice (some ⟨w.heap.size, 0, none⟩) 0 0) (w.alloc (.cells (madeCells #[.int .u8 0] 0) 5)) := fun w =>
    run_make_row' (P := Try.prog) 22 5 (.int .u8 0) 1 Try.underlying22 (by kernel_rfl) rfl .i64 .i64 0 (by omega) (by omega) w
  have hnil := fun w => Lib.run_eql_slice_nil (P := Try.prog) w 22 5 (some x) 0 c 0 0 Try.underlying22
  have hrow0 : Hid ((w.alloc (.cells (madeCells #[.int .u8 0] 0) 5)).rowIs w.heap.size 5 0 (fun _ => .int .u8 0)) := World.rowIs_made w (.int .u8 0) 0 5
  have hbl : Hid (Below w.heap.size w (w.alloc (.cells (madeCells #[.int .u8 0] 0) 5))) := (Below.refl _ w).alloc (Nat.le_refl _) _
  go_enter Try.func21, Try.ntmps21
  go_wp2
  clear hmk hnil
  go_loopw [4] (fun i wr => i = .int .i64 0 ∧ Hid (wr.rowIs w.heap.size 5 0 (fun _ => .int .u8 0)) ∧ Hid (Below w.heap.size w wr)) (fun _ _ => 0)
  case atStart => exact ⟨rfl, hrow0, hbl⟩
  case round =>
    obtain ⟨rfl, hr, hb⟩ := hrel
    go_wp2
    go_ret
    exact ⟨rfl, hr.out, hb.out⟩

set_option maxHeartbeats 800000 in
theorem u8s_nil (w : World) :
    Calls Try.prog 21 #[.slice none 0 0] w fun e w' => e = .returned (.slice none 0 0) ∧ w' = w := by
  have hnil := fun w => Lib.run_eql_slice_nil (P := Try.prog) w 22 5 none 0 0 0 0 Try.underlying22
  go_enter Try.func21, Try.ntmps21
  go_wp2
  go_ret
  exact ⟨rfl, rfl⟩

theorem u8s_calls (a : Option Addr) (n c : Nat) (zs : List Int) (w : World) (h : IsRow .u8 w a n c zs) (hn : n ≤ 1048576) :
    Calls Try.prog 21 #[.slice a n c] w fun e w' => ∃ v, e = .returned v ∧ Col .u8 5 w' v n (fun i => zs.getD i 0) ∧ Below w.heap.size w w' := by
  rcases h with ⟨rfl, rfl, rfl, rfl⟩ | ⟨x, rfl, h2, h3, h4, h5, h6⟩
  · refine (u8s_nil w).mono ?_
    rintro e w' ⟨rfl, rfl⟩
    exact ⟨_, rfl, .inl ⟨rfl, rfl⟩, Below.refl _ _⟩
  · by_cases h0 : n = 0
    · subst h0
      refine (u8s_empty x c w).mono ?_
      rintro e w' ⟨rfl, hr, hb⟩
      exact ⟨_, rfl, .inr ⟨_, rfl, hr.congr (fun i hi => by omega)⟩, hb⟩
    · obtain ⟨b, off, spot⟩ := x
      have hc := h5 0 (by omega)
      have hspot : spot = none := by simpa [Addr.add] using World.cell?_spot hc
      subst hspot
      refine (u8s_some b off n c (fun i => zs.getD i 0) w hn (fun i hi => ?_)).mono ?_
      · have := h5 i (by omega)
        rwa [add_plain] at this
      · rintro e w' ⟨rfl, hr, hb⟩
        exact ⟨_, rfl, .inr ⟨_, rfl, hr⟩, hb⟩

set_option maxHeartbeats 800000 in
theorem u64s_some (b off n c : Nat) (z : Nat → Int) (w : World) (hn : n ≤ 1048576) (hc : ∀ i, i < n → w.cell? ⟨b, off + i, none⟩ = some (.int .u64 (z i))) :
    Calls Try.prog 22 #[.slice (some ⟨b, off, none⟩) n c] w fun e w' => e = .returned (.slice (some ⟨w.heap.size, 0, none⟩) n n) ∧ w'.rowIs w.heap.size 30 n (fun i => .int .u64 (z i)) ∧ Below w.heap.size w w' := by
  have hmk : ∀ w : World, (Instr.makeSlice 29 (.int .i64 (n : Int)) (.int .i64 (n : Int))).run Try.prog w = .ok (.slice (some ⟨w.heap.size, 0, none⟩) n n) (w.alloc (.cells (madeCells #[.int .u64 0] n) 30)) := fun w =>
    run_make_row' (P := Try.prog) 29 30 (.int .u64 0) 8 Try.underlying29 (by kernel_rfl) rfl .i64 .i64 n (by omega) (by omega) w
  have hnil := fun w => Lib.run_eql_slice_nil (P := Try.prog) w 29 30 (some ⟨b, off, none⟩) n c 0 0 Try.underlying29
  have hrow0 := World.rowIs_made w (.int .u64 0) n 30
  have HC : Hid (∀ i, i < n → w.cell? ⟨b, off + i, none⟩ = some (.int .u64 (z i))) := hc
  clear hc
  go_enter Try.func22, Try.ntmps22
  go_wp2
  clear hmk hnil
  go_loopw [4] (fun i wr => ∃ k : Nat, k ≤ n ∧ i = .int .i64 k ∧ Hid (wr.rowIs w.heap.size 30 n (cloneRow .u64 z k)) ∧ Hid (Below w.heap.size w wr)) (fun i _ => n - (intOf i).toNat)
  case atStart => exact ⟨0, Nat.zero_le _, rfl, hrow0.congr (fun j _ => by unfold cloneRow; rw [if_neg (by omega)]), (Below.refl _ w).alloc (Nat.le_refl _) _⟩
  case round =>
    obtain ⟨k, hk, rfl, hrw, hbl⟩ := hrel
    by_cases hlt : k < n
    · have hcx := HC.out k hlt
      have hcr : wr.cell? ⟨b, off + k, none⟩ = some (.int .u64 (z k)) := by rw [hbl.out.cell (World.block_lt_of_cell? w _ hcx)]; exact hcx
      have hf1 : wr.frozen? ⟨w.heap.size, k, none⟩ = false := hrw.out.frozen _
      have hc1 : wr.cell? ⟨w.heap.size, k, none⟩ = some (cloneRow .u64 z k k) := hrw.out.cell hlt
      clear hcx
      go_wp2
      go_roundw
      case rel => exact ⟨k + 1, by omega, by go_num, (hrw.out.set _ _).congr (fun j _ => cloneRow_step .u64 z k j), hbl.out.setCell (Nat.le_refl _) _⟩
      case measure => simp [intOf]; omega
    · go_wp2
      go_ret
      exact ⟨rfl, hrw.out.congr (fun i hi => by unfold cloneRow; rw [if_pos (by omega)]), hbl.out⟩

set_option maxHeartbeats 800000 in
theorem u64s_empty (x : Addr) (c : Nat) (w : World) :
    Calls Try.prog 22 #[.slice (some x) 0 c] w fun e w' => e = .returned (.slice (some ⟨w.heap.size, 0, none⟩) 0 0) ∧ w'.rowIs w.heap.size 30 0 (fun _ => .int .u64 0) ∧ Below w.heap.size w w' := by
  have hmk : ∀ w : World, (Instr.makeSlice 29 (.int .i64 0) (.int .i64 0)).run Try.prog w = .ok (.slice (some ⟨w.heap.size, 0, none⟩) 0 0) (w.alloc (.cells (madeCells #[.int .u64 0] 0) 30)) := fun w =>
    run_make_row' (P := Try.prog) 29 30 (.int .u64 0) 8 Try.underlying29 (by kernel_rfl) rfl .i64 .i64 0 (by omega) (by omega) w
  have hnil := fun w => Lib.run_eql_slice_nil (P := Try.prog) w 29 30 (some x) 0 c 0 0 Try.underlying29
  have hrow0 : Hid ((w.alloc (.cells (madeCells #[.int .u64 0] 0) 30)).rowIs w.heap.size 30 0 (fun _ => .int .u64 0)) := World.rowIs_made w (.int .u64 0) 0 30
  have hbl : Hid (Below w.heap.size w (w.alloc (.cells (madeCells #[.int .u64 0] 0) 30))) := (Below.refl _ w).alloc (Nat.le_refl _) _
  go_enter Try.func22, Try.ntmps22
  go_wp2
  clear hmk hnil
  go_loopw [4] (fun i wr => i = .int .i64 0 ∧ Hid (wr.rowIs w.heap.size 30 0 (fun _ => .int .u64 0)) ∧ Hid (Below w.heap.size w wr)) (fun _ _ => 0)
  case atStart => exact ⟨rfl, hrow0, hbl⟩
  case round =>
    obtain ⟨rfl, hr, hb⟩ := hrel
    go_wp2
    go_ret
    exact ⟨rfl, hr.out, hb.out⟩

set_option maxHeartbeats 800000 in
theorem u64s_nil (w : World) :
    Calls Try.prog 22 #[.slice none 0 0] w fun e w' => e = .returned (.slice none 0 0) ∧ w' = w := by
  have hnil := fun w => Lib.run_eql_slice_nil (P := Try.prog) w 29 30 none 0 0 0 0 Try.underlying29
  go_enter Try.func22, Try.ntmps22
  go_wp2
  go_ret
  exact ⟨rfl, rfl⟩

theorem u64s_calls (a : Option Addr) (n c : Nat) (zs : List Int) (w : World) (h : IsRow .u64 w a n c zs) (hn : n ≤ 1048576) :
    Calls Try.prog 22 #[.slice a n c] w fun e w' => ∃ v, e = .returned v ∧ Col .u64 30 w' v n (fun i => zs.getD i 0) ∧ Below w.heap.size w w' := by
  rcases h with ⟨rfl, rfl, rfl, rfl⟩ | ⟨x, rfl, h2, h3, h4, h5, h6⟩
  · refine (u64s_nil w).mono ?_
    rintro e w' ⟨rfl, rfl⟩
    exact ⟨_, rfl, .inl ⟨rfl, rfl⟩, Below.refl _ _⟩
  · by_cases h0 : n = 0
    · subst h0
      refine (u64s_empty x c w).mono ?_
      rintro e w' ⟨rfl, hr, hb⟩
      exact ⟨_, rfl, .inr ⟨_, rfl, hr.congr (fun i hi => by omega)⟩, hb⟩
    · obtain ⟨b, off, spot⟩ := x
      have hc := h5 0 (by omega)
      have hspot : spot = none := by simpa [Addr.add] using World.cell?_spot hc
      subst hspot
      refine (u64s_some b off n c (fun i => zs.getD i 0) w hn (fun i hi => ?_)).mono ?_
      · have := h5 i (by omega)
        rwa [add_plain] at this
      · rintro e w' ⟨rfl, hr, hb⟩
        exact ⟨_, rfl, .inr ⟨_, rfl, hr⟩, hb⟩

end Go.Proofs.Qxb6600066a.srt
