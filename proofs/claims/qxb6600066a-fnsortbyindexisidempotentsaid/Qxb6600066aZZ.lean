/-
  The walk of ZZSortByIndex (19).
-/
import Derived.Test.Qxb6600066aSortWalk
import Derived.Test.Qxb6600066aClones
namespace Go.Proofs.Qxb6600066a.srt
open Go.RowKit Go.ChangeShapes Go.WideShapes Go.ChangeAt

theorem Col.use {k : IntKind} {t : TypeId} {w : World} {v : Value} {n : Nat} {z : Nat → Int} (h : Col k t w v n z) :
    ∃ (a : Option Addr) (b : Nat), v = .slice a n n ∧ (0 < n → a = some ⟨b, 0, none⟩) ∧ ∀ i, i < n → w.cell? ⟨b, i, none⟩ = some (.int k (z i)) := by
  rcases h with ⟨rfl, rfl⟩ | ⟨b, rfl, hr⟩
  · exact ⟨none, 0, rfl, by omega, fun i hi => by omega⟩
  · exact ⟨some ⟨b, 0, none⟩, b, rfl, fun _ => rfl, fun i hi => hr.cell hi⟩

theorem idx26 (a : Option Addr) (b n c : Nat) (h : 0 < n → a = some ⟨b, 0, none⟩) (i : Nat) (w : World) (hi : i < n) : (Instr.indexAt 26 (.slice a n c) (.int .i64 (i : Int))).run Try.prog w = .ok (.pointer (some ⟨b, i, none⟩)) w := by
  rw [h (by omega)]
  go_simp
theorem idx22 (a : Option Addr) (b n c : Nat) (h : 0 < n → a = some ⟨b, 0, none⟩) (i : Nat) (w : World) (hi : i < n) : (Instr.indexAt 22 (.slice a n c) (.int .i64 (i : Int))).run Try.prog w = .ok (.pointer (some ⟨b, i, none⟩)) w := by
  rw [h (by omega)]
  go_simp
theorem idx29 (a : Option Addr) (b n c : Nat) (h : 0 < n → a = some ⟨b, 0, none⟩) (i : Nat) (w : World) (hi : i < n) : (Instr.indexAt 29 (.slice a n c) (.int .i64 (i : Int))).run Try.prog w = .ok (.pointer (some ⟨b, i, none⟩)) w := by
  rw [h (by omega)]
  go_simp

/-- Fields as 'make' lays them. -/
theorem made_recs (w : World) (n : Nat) : (w.alloc (.cells (madeCells #[.int .i64 0, .int .u8 0, .int .u64 0, .slice none 0 0] (n * 4)) 52)).rowIs w.heap.size 52 (4 * n) (recCell (fun _ => ⟨0, 0, 0⟩)) := by
  refine ⟨_, heap_alloc_new _ _, by rw [size_madeCells]; omega, fun i hi => ?_⟩
  have h4 : i % 4 = 0 ∨ i % 4 = 1 ∨ i % 4 = 2 ∨ i % 4 = 3 := by omega
  have hi' : i < n * 4 := by omega
  unfold recCell madeCells
  rw [Array.getElem?_map, Array.getElem?_range, if_pos hi']
  rcases h4 with h | h | h | h <;> simp [h]

theorem make_recs (n : Nat) (hn : n ≤ 4096) (w : World) : (Instr.makeSlice 50 (.int .i64 (n : Int)) (.int .i64 (n : Int))).run Try.prog w = .ok (.slice (some ⟨w.heap.size, 0, none⟩) n n) (w.alloc (.cells (madeCells #[.int .i64 0, .int .u8 0, .int .u64 0, .slice none 0 0] (n * 4)) 52)) := by
  obtain ⟨i, hi⟩ : ∃ i, Try.prog.info? 52 = some i := info_of_underlying Try.underlying52
  have hinfo : (Try.prog.info? 52).map (fun i => (i.zero, i.size, i.bytes)) = some (some (.agg #[.int .i64 0, .int .u8 0, .int .u64 0, .slice none 0 0]), 4, 48) := by kernel_rfl
  rw [hi] at hinfo
  simp only [Option.map_some, Option.some.injEq, Prod.mk.injEq] at hinfo
  obtain ⟨hz, hs, hb⟩ := hinfo
  have := run_make (P := Try.prog) w 50 52 i _ Try.underlying50 hi hz .i64 .i64 (n : Int) (n : Int) (by omega) (Int.le_refl _) (by rw [hb]; omega) (by omega)
  rw [hs] at this
  simpa [Value.cells] using this

/-- A column that is too short gives 0 past its end. -/
def pad (m : Nat) (z : Nat → Int) : Nat → Int := fun i => if i < m then z i else 0

/-- The fields when k of them are laid. -/
def fill (z0 z1 z2 : Nat → Int) (m1 m2 k : Nat) : Nat → Rec := fun m => if m < k then ⟨z0 m, pad m1 z1 m, pad m2 z2 m⟩ else ⟨0, 0, 0⟩

theorem fill_at (z0 z1 z2 : Nat → Int) (m1 m2 k : Nat) : fill z0 z1 z2 m1 m2 k k = ⟨0, 0, 0⟩ := by unfold fill; rw [if_neg (by omega)]
theorem fill_step (z0 z1 z2 : Nat → Int) (m1 m2 k : Nat) : put (fill z0 z1 z2 m1 m2 k) k ⟨z0 k, pad m1 z1 k, pad m2 z2 k⟩ = fill z0 z1 z2 m1 m2 (k + 1) := by
  funext m
  unfold put fill
  by_cases h : m = k
  · subst h; rw [if_pos rfl, if_pos (by omega)]
  · rw [if_neg h]
    by_cases h2 : m < k
    · rw [if_pos h2, if_pos (by omega)]
    · rw [if_neg h2, if_neg (by omega)]

theorem put_put (r : Nat → Rec) (i : Nat) (x y : Rec) : put (put r i x) i y = put r i y := by
  funext m; unfold put; by_cases h : m = i
  · rw [if_pos h, if_pos h]
  · rw [if_neg h, if_neg h, if_neg h]
theorem put_at (r : Nat → Rec) (i : Nat) (x : Rec) : put r i x i = x := by unfold put; rw [if_pos rfl]

theorem set_ix {w : World} {B n : Nat} {r : Nat → Rec} (h : w.rowIs B 52 (4 * n) (recCell r)) (i : Nat) (v : Int) :
    (w.setCell ⟨B, i * 4, none⟩ (.int .i64 v)).rowIs B 52 (4 * n) (recCell (put r i ⟨v, (r i).wi, (r i).va⟩)) :=
  (h.set _ _).congr (fun j _ => by
    rw [← put_cells]
    by_cases h3 : j = i * 4 + 3
    · subst h3; rw [if_neg (by omega), if_pos rfl, rc3]
    by_cases h2 : j = i * 4 + 2
    · subst h2; rw [if_neg (by omega), if_neg (by omega), if_pos rfl, rc2]
    by_cases h1 : j = i * 4 + 1
    · subst h1; rw [if_neg (by omega), if_neg (by omega), if_neg (by omega), if_pos rfl, rc1]
    rw [if_neg h3, if_neg h2, if_neg h1])
theorem set_wi {w : World} {B n : Nat} {r : Nat → Rec} (h : w.rowIs B 52 (4 * n) (recCell r)) (i : Nat) (v : Int) :
    (w.setCell ⟨B, i * 4 + 1, none⟩ (.int .u8 v)).rowIs B 52 (4 * n) (recCell (put r i ⟨(r i).ix, v, (r i).va⟩)) :=
  (h.set _ _).congr (fun j _ => by
    rw [← put_cells]
    by_cases h3 : j = i * 4 + 3
    · subst h3; rw [if_neg (by omega), if_pos rfl, rc3]
    by_cases h2 : j = i * 4 + 2
    · subst h2; rw [if_neg (by omega), if_neg (by omega), if_pos rfl, rc2]
    by_cases h0 : j = i * 4
    · subst h0; rw [if_neg (by omega), if_neg (by omega), if_neg (by omega), if_neg (by omega), if_pos rfl, rc0]
    rw [if_neg h3, if_neg h2, if_neg h0])
theorem set_va {w : World} {B n : Nat} {r : Nat → Rec} (h : w.rowIs B 52 (4 * n) (recCell r)) (i : Nat) (v : Int) :
    (w.setCell ⟨B, i * 4 + 2, none⟩ (.int .u64 v)).rowIs B 52 (4 * n) (recCell (put r i ⟨(r i).ix, (r i).wi, v⟩)) :=
  (h.set _ _).congr (fun j _ => by
    rw [← put_cells]
    by_cases h3 : j = i * 4 + 3
    · subst h3; rw [if_neg (by omega), if_pos rfl, rc3]
    by_cases h1 : j = i * 4 + 1
    · subst h1; rw [if_neg (by omega), if_neg (by omega), if_neg (by omega), if_pos rfl, rc1]
    by_cases h0 : j = i * 4
    · subst h0; rw [if_neg (by omega), if_neg (by omega), if_neg (by omega), if_neg (by omega), if_pos rfl, rc0]
    rw [if_neg h3, if_neg h1, if_neg h0])

/-- Behind the three 'make's. -/
theorem three_made (w : World) (F n : Nat) (g : Nat → Rec) (hF : w.rowIs F 52 (4 * n) (recCell g)) :
    (((w.alloc (.cells (madeCells #[.int .i64 0] n) 3)).alloc (.cells (madeCells #[.int .u8 0] n) 5)).alloc (.cells (madeCells #[.int .u64 0] n) 30)).rowIs F 52 (4 * n) (recCell g) ∧
    (((w.alloc (.cells (madeCells #[.int .i64 0] n) 3)).alloc (.cells (madeCells #[.int .u8 0] n) 5)).alloc (.cells (madeCells #[.int .u64 0] n) 30)).rowIs w.heap.size 3 n (cloneRow .i64 (fun i => (g i).ix) 0) ∧
    (((w.alloc (.cells (madeCells #[.int .i64 0] n) 3)).alloc (.cells (madeCells #[.int .u8 0] n) 5)).alloc (.cells (madeCells #[.int .u64 0] n) 30)).rowIs (w.heap.size + 1) 5 n (cloneRow .u8 (fun i => (g i).wi) 0) ∧
    (((w.alloc (.cells (madeCells #[.int .i64 0] n) 3)).alloc (.cells (madeCells #[.int .u8 0] n) 5)).alloc (.cells (madeCells #[.int .u64 0] n) 30)).rowIs (w.heap.size + 1 + 1) 30 n (cloneRow .u64 (fun i => (g i).va) 0) ∧
    Below w.heap.size w (((w.alloc (.cells (madeCells #[.int .i64 0] n) 3)).alloc (.cells (madeCells #[.int .u8 0] n) 5)).alloc (.cells (madeCells #[.int .u64 0] n) 30)) := by
  have h0 : ∀ (k : IntKind) (z : Nat → Int) (i : Nat), i < n → (fun _ => Value.int k 0) i = cloneRow k z 0 i := fun k z i _ => by unfold cloneRow; rw [if_neg (by omega)]
  refine ⟨((hF.alloc _).alloc _).alloc _, (((World.rowIs_made w (.int .i64 0) n 3).congr (h0 _ _)).alloc _).alloc _, ?_, ?_, (((Below.refl _ w).alloc (Nat.le_refl _) _).alloc (by simp) _).alloc (by simp; omega) _⟩
  · have := ((World.rowIs_made (w.alloc (.cells (madeCells #[.int .i64 0] n) 3)) (.int .u8 0) n 5).congr (h0 .u8 (fun i => (g i).wi))).alloc (.cells (madeCells #[.int .u64 0] n) 30)
    simpa using this
  · have := (World.rowIs_made ((w.alloc (.cells (madeCells #[.int .i64 0] n) 3)).alloc (.cells (madeCells #[.int .u8 0] n) 5)) (.int .u64 0) n 30).congr (h0 .u64 (fun i => (g i).va))
    simpa using this

set_option maxHeartbeats 2000000 in
theorem zz_calls (a0 a1 a2 : Option Addr) (b0 b1 b2 n m1 m2 : Nat) (z0 z1 z2 : Nat → Int) (w : World) (hn : n ≤ 4096) (_hm1 : m1 ≤ 65536) (_hm2 : m2 ≤ 65536)
    (h0 : 0 < n → a0 = some ⟨b0, 0, none⟩) (h1 : 0 < m1 → a1 = some ⟨b1, 0, none⟩) (h2 : 0 < m2 → a2 = some ⟨b2, 0, none⟩)
    (c0 : ∀ i, i < n → w.cell? ⟨b0, i, none⟩ = some (.int .i64 (z0 i))) (c1 : ∀ i, i < m1 → w.cell? ⟨b1, i, none⟩ = some (.int .u8 (z1 i))) (c2 : ∀ i, i < m2 → w.cell? ⟨b2, i, none⟩ = some (.int .u64 (z2 i))) :
    Calls Try.prog 19 #[.slice a0 n n, .slice a1 m1 m1, .slice a2 m2 m2] w fun e w' => ∃ (g : Nat → Rec) (o : Nat), e = .returned (.tuple #[.slice (some ⟨o, 0, none⟩) n n, .slice (some ⟨o + 1, 0, none⟩) n n, .slice (some ⟨o + 2, 0, none⟩) n n]) ∧
      Sorted n g ∧ (Sorted n (fill z0 z1 z2 m1 m2 n) → g = fill z0 z1 z2 m1 m2 n) ∧ w.heap.size ≤ o ∧
      w'.rowIs o 3 n (fun i => .int .i64 (g i).ix) ∧ w'.rowIs (o + 1) 5 n (fun i => .int .u8 (g i).wi) ∧ w'.rowIs (o + 2) 30 n (fun i => .int .u64 (g i).va) ∧ Below w.heap.size w w' := by
  have hx0 := idx26 a0 b0 n n h0
  have hx1 := idx22 a1 b1 m1 m1 h1
  have hx2 := idx29 a2 b2 m2 m2 h2
  have hmk := make_recs n hn
  have C0 : Hid (∀ i, i < n → w.cell? ⟨b0, i, none⟩ = some (.int .i64 (z0 i))) := c0
  have C1 : Hid (∀ i, i < m1 → w.cell? ⟨b1, i, none⟩ = some (.int .u8 (z1 i))) := c1
  have C2 : Hid (∀ i, i < m2 → w.cell? ⟨b2, i, none⟩ = some (.int .u64 (z2 i))) := c2
  have hrow0 := made_recs w n
  clear c0 c1 c2 h0 h1 h2
  go_enter Try.func19, Try.ntmps19
  go_wp2
  clear hmk
  go_loopw [10] (fun t wr => ∃ k : Nat, k ≤ n ∧ t = .int .i64 k ∧ Hid (wr.rowIs w.heap.size 52 (4 * n) (recCell (fill z0 z1 z2 m1 m2 k))) ∧ Hid (Below w.heap.size w wr)) (fun t _ => n - (intOf t).toNat)
  case atStart => exact ⟨0, Nat.zero_le _, rfl, hrow0, (Below.refl _ w).alloc (Nat.le_refl _) _⟩
  case round =>
    obtain ⟨k, hk, rfl, hrw, hbl⟩ := hrel
    by_cases hlt : k < n
    · have q0 : wr.cell? ⟨b0, k, none⟩ = some (.int .i64 (z0 k)) := by rw [hbl.out.cell (World.block_lt_of_cell? w _ (C0.out k hlt))]; exact C0.out k hlt
      obtain ⟨e0, e1, e2, e3, f0, f1, f2, f3⟩ := rec_cells hrw.out k hlt
      by_cases k1 : k < m1
      · have l1 : b1 < w.heap.size := World.block_lt_of_cell? w _ (C1.out k k1)
        have q1 : wr.cell? ⟨b1, k, none⟩ = some (.int .u8 (z1 k)) := by rw [hbl.out.cell l1]; exact C1.out k k1
        have n1 : ¬ b1 = w.heap.size := by omega
        by_cases k2 : k < m2
        · have l2 : b2 < w.heap.size := World.block_lt_of_cell? w _ (C2.out k k2)
          have q2 : wr.cell? ⟨b2, k, none⟩ = some (.int .u64 (z2 k)) := by rw [hbl.out.cell l2]; exact C2.out k k2
          have n2 : ¬ b2 = w.heap.size := by omega
          have hend := set_va (set_wi (set_ix hrw.out k (z0 k)) k (z1 k)) k (z2 k)
          simp only [put_put, put_at] at hend
          rw [show (⟨z0 k, z1 k, z2 k⟩ : Rec) = ⟨z0 k, pad m1 z1 k, pad m2 z2 k⟩ by unfold pad; rw [if_pos k1, if_pos k2], fill_step] at hend
          have Hend : Hid ((((wr.setCell ⟨w.heap.size, k * 4, none⟩ (.int .i64 (z0 k))).setCell ⟨w.heap.size, k * 4 + 1, none⟩ (.int .u8 (z1 k))).setCell ⟨w.heap.size, k * 4 + 2, none⟩ (.int .u64 (z2 k))).rowIs w.heap.size 52 (4 * n) (recCell (fill z0 z1 z2 m1 m2 (k + 1)))) := hend
          clear hend
          go_wp2
          go_roundw
          case rel => exact ⟨k + 1, by omega, by go_num, Hend, ((hbl.out.setCell (Nat.le_refl _) _).setCell (Nat.le_refl _) _).setCell (Nat.le_refl _) _⟩
          case measure => simp [intOf]; omega
        · have hend := set_wi (set_ix hrw.out k (z0 k)) k (z1 k)
          simp only [put_put, put_at, fill_at] at hend
          rw [show (⟨z0 k, z1 k, 0⟩ : Rec) = ⟨z0 k, pad m1 z1 k, pad m2 z2 k⟩ by unfold pad; rw [if_pos k1, if_neg k2], fill_step] at hend
          have Hend : Hid (((wr.setCell ⟨w.heap.size, k * 4, none⟩ (.int .i64 (z0 k))).setCell ⟨w.heap.size, k * 4 + 1, none⟩ (.int .u8 (z1 k))).rowIs w.heap.size 52 (4 * n) (recCell (fill z0 z1 z2 m1 m2 (k + 1)))) := hend
          clear hend
          go_wp2
          go_roundw
          case rel => exact ⟨k + 1, by omega, by go_num, Hend, (hbl.out.setCell (Nat.le_refl _) _).setCell (Nat.le_refl _) _⟩
          case measure => simp [intOf]; omega
      · by_cases k2 : k < m2
        · have l2 : b2 < w.heap.size := World.block_lt_of_cell? w _ (C2.out k k2)
          have q2 : wr.cell? ⟨b2, k, none⟩ = some (.int .u64 (z2 k)) := by rw [hbl.out.cell l2]; exact C2.out k k2
          have n2 : ¬ b2 = w.heap.size := by omega
          have hend := set_va (set_ix hrw.out k (z0 k)) k (z2 k)
          simp only [put_put, put_at, fill_at] at hend
          rw [show (⟨z0 k, 0, z2 k⟩ : Rec) = ⟨z0 k, pad m1 z1 k, pad m2 z2 k⟩ by unfold pad; rw [if_neg k1, if_pos k2], fill_step] at hend
          have Hend : Hid (((wr.setCell ⟨w.heap.size, k * 4, none⟩ (.int .i64 (z0 k))).setCell ⟨w.heap.size, k * 4 + 2, none⟩ (.int .u64 (z2 k))).rowIs w.heap.size 52 (4 * n) (recCell (fill z0 z1 z2 m1 m2 (k + 1)))) := hend
          clear hend
          go_wp2
          go_roundw
          case rel => exact ⟨k + 1, by omega, by go_num, Hend, (hbl.out.setCell (Nat.le_refl _) _).setCell (Nat.le_refl _) _⟩
          case measure => simp [intOf]; omega
        · have hend := set_ix hrw.out k (z0 k)
          simp only [fill_at] at hend
          rw [show (⟨z0 k, 0, 0⟩ : Rec) = ⟨z0 k, pad m1 z1 k, pad m2 z2 k⟩ by unfold pad; rw [if_neg k1, if_neg k2], fill_step] at hend
          have Hend : Hid ((wr.setCell ⟨w.heap.size, k * 4, none⟩ (.int .i64 (z0 k))).rowIs w.heap.size 52 (4 * n) (recCell (fill z0 z1 z2 m1 m2 (k + 1)))) := hend
          clear hend
          go_wp2
          go_roundw
          case rel => exact ⟨k + 1, by omega, by go_num, Hend, hbl.out.setCell (Nat.le_refl _) _⟩
          case measure => simp [intOf]; omega
    · obtain rfl : k = n := by omega
      go_wp2_with fail
      refine (sort_calls w.heap.size k _ wr hn hrw.out).mono ?_
      rintro e w2 ⟨rfl, g, hg, hso, hsame, hgr⟩
      have B2 : Below w.heap.size w w2 := hbl.out.grown hgr hbl.out.size (fun b hb => by cases hb; exact Nat.le_refl _)
      have HSO : Hid (Sorted k g) := hso
      have HSA : Hid (Sorted k (fill z0 z1 z2 m1 m2 k) → g = fill z0 z1 z2 m1 m2 k) := hsame
      have hF : w.heap.size < w2.heap.size := hg.lt
      obtain ⟨t0, t1, t2, t3, t4⟩ := three_made w2 w.heap.size k g hg
      have mk0 : ∀ w : World, (Instr.makeSlice 26 (.int .i64 (k : Int)) (.int .i64 (k : Int))).run Try.prog w = .ok (.slice (some ⟨w.heap.size, 0, none⟩) k k) (w.alloc (.cells (madeCells #[.int .i64 0] k) 3)) := fun w =>
        run_make_row' (P := Try.prog) 26 3 (.int .i64 0) 8 Try.underlying26 (by kernel_rfl) rfl .i64 .i64 k (by omega) (by omega) w
      have mk1 : ∀ w : World, (Instr.makeSlice 22 (.int .i64 (k : Int)) (.int .i64 (k : Int))).run Try.prog w = .ok (.slice (some ⟨w.heap.size, 0, none⟩) k k) (w.alloc (.cells (madeCells #[.int .u8 0] k) 5)) := fun w =>
        run_make_row' (P := Try.prog) 22 5 (.int .u8 0) 1 Try.underlying22 (by kernel_rfl) rfl .i64 .i64 k (by omega) (by omega) w
      have mk2 : ∀ w : World, (Instr.makeSlice 29 (.int .i64 (k : Int)) (.int .i64 (k : Int))).run Try.prog w = .ok (.slice (some ⟨w.heap.size, 0, none⟩) k k) (w.alloc (.cells (madeCells #[.int .u64 0] k) 30)) := fun w =>
        run_make_row' (P := Try.prog) 29 30 (.int .u64 0) 8 Try.underlying29 (by kernel_rfl) rfl .i64 .i64 k (by omega) (by omega) w
      have B3 : Hid (Below w.heap.size w (((w2.alloc (.cells (madeCells #[.int .i64 0] k) 3)).alloc (.cells (madeCells #[.int .u8 0] k) 5)).alloc (.cells (madeCells #[.int .u64 0] k) 30))) := B2.trans (t4.mono B2.size)
      have T0 : Hid _ := t0
      have T1 : Hid _ := t1
      have T2 : Hid _ := t2
      have T3 : Hid _ := t3
      clear hg hso hsame hgr t0 t1 t2 t3 t4 B2 hrw hbl hrow0 hx0 hx1 hx2
      go_wp2
      clear mk0 mk1 mk2
      generalize ((w2.alloc (.cells (madeCells #[.int .i64 0] k) 3)).alloc (.cells (madeCells #[.int .u8 0] k) 5)).alloc (.cells (madeCells #[.int .u64 0] k) 30) = w3 at *
      go_loopw [14] (fun t wy => ∃ j : Nat, j ≤ k ∧ t = .int .i64 j ∧ Hid (wy.rowIs w.heap.size 52 (4 * k) (recCell g)) ∧ Hid (wy.rowIs w2.heap.size 3 k (cloneRow .i64 (fun i => (g i).ix) j)) ∧ Hid (wy.rowIs (w2.heap.size + 1) 5 k (cloneRow .u8 (fun i => (g i).wi) j)) ∧ Hid (wy.rowIs (w2.heap.size + 1 + 1) 30 k (cloneRow .u64 (fun i => (g i).va) j)) ∧ Hid (Below w.heap.size w wy)) (fun t _ => k - (intOf t).toNat)
      case atStart => exact ⟨0, Nat.zero_le _, rfl, T0, T1, T2, T3, B3⟩
      case round =>
        obtain ⟨j, hj, rfl, r0, r1, r2, r3, hb⟩ := hrel
        by_cases hjk : j < k
        · obtain ⟨e0, e1, e2, e3, f0, f1, f2, f3⟩ := rec_cells r0.out j hjk
          have g1 : wr.cell? ⟨w2.heap.size, j, none⟩ = some (cloneRow .i64 (fun i => (g i).ix) j j) := r1.out.cell hjk
          have g2 : wr.cell? ⟨w2.heap.size + 1, j, none⟩ = some (cloneRow .u8 (fun i => (g i).wi) j j) := r2.out.cell hjk
          have g3 : wr.cell? ⟨w2.heap.size + 1 + 1, j, none⟩ = some (cloneRow .u64 (fun i => (g i).va) j j) := r3.out.cell hjk
          have z1' : wr.frozen? ⟨w2.heap.size, j, none⟩ = false := r1.out.frozen _
          have z2' : wr.frozen? ⟨w2.heap.size + 1, j, none⟩ = false := r2.out.frozen _
          have z3' : wr.frozen? ⟨w2.heap.size + 1 + 1, j, none⟩ = false := r3.out.frozen _
          have nf1 : ¬ w.heap.size = w2.heap.size := by omega
          have nf2 : ¬ w.heap.size = w2.heap.size + 1 := by omega
          go_wp2
          go_roundw
          case rel =>
            refine ⟨j + 1, by omega, by go_num, ((r0.out.setOther nf1 _).setOther nf2 _).setOther (by show w.heap.size ≠ w2.heap.size + 1 + 1; omega) _, ?_, ?_, ?_, ((hb.out.setCell (by show w.heap.size ≤ w2.heap.size; omega) _).setCell (by show w.heap.size ≤ w2.heap.size + 1; omega) _).setCell (by show w.heap.size ≤ w2.heap.size + 1 + 1; omega) _⟩
            · exact (((r1.out.set _ _).congr (fun i _ => cloneRow_step .i64 (fun i => (g i).ix) j i)).setOther (by show w2.heap.size ≠ w2.heap.size + 1; omega) _).setOther (by show w2.heap.size ≠ w2.heap.size + 1 + 1; omega) _
            · exact (((r2.out.setOther (by show w2.heap.size + 1 ≠ w2.heap.size; omega) _).set _ _).congr (fun i _ => cloneRow_step .u8 (fun i => (g i).wi) j i)).setOther (by show w2.heap.size + 1 ≠ w2.heap.size + 1 + 1; omega) _
            · exact (((r3.out.setOther (by show w2.heap.size + 1 + 1 ≠ w2.heap.size; omega) _).setOther (by show w2.heap.size + 1 + 1 ≠ w2.heap.size + 1; omega) _).set _ _).congr (fun i _ => cloneRow_step .u64 (fun i => (g i).va) j i)
          case measure => simp [intOf]; omega
        · obtain rfl : j = k := by omega
          go_wp2
          go_ret3
          have fin : ∀ (kk : IntKind) (z : Nat → Int) (i : Nat), i < j → cloneRow kk z j i = .int kk (z i) := fun kk z i hi => by unfold cloneRow; rw [if_pos hi]
          exact ⟨g, w2.heap.size, rfl, HSO.out, HSA.out, by omega, r1.out.congr (fun i hi => fin _ _ i hi), r2.out.congr (fun i hi => fin _ _ i hi), r3.out.congr (fun i hi => fin _ _ i hi), hb.out⟩

end Go.Proofs.Qxb6600066a.srt
