/-
  The walk of sortByIndex (29).
-/
import Derived.Test.Qxb6600066aRows
import Derived.Test.Qxb6600066aSortPlain
import Derived.WalkKit
import Derived.ProofKit
import Derived.WalkSpells
import Derived.WalkLawsBesides
import Derived.Deep.QuietTactic
import Derived.BigQuiet
namespace Go.Proofs.Qxb6600066a.srt
open Go.RowKit

theorem grown_refl (w : World) (row : Option Nat) : w.grownBy w row := ⟨rfl, rfl, rfl, Nat.le_refl _, fun _ _ _ => rfl⟩
theorem grown_drewN {w w' : World} {row : Option Nat} (h : w.grownBy w' row) (n : Nat) : w.grownBy (w'.drewN n) row := ⟨h.os, h.tape, h.output, h.size, h.block⟩
theorem grown_alloc {w w' : World} {row : Option Nat} (h : w.grownBy w' row) (o : Obj) : w.grownBy (w'.alloc o) row :=
  ⟨h.os, h.tape, h.output, by have := h.size; simp; omega, fun k hk hne => (Below.heap_alloc _ _ _ (by have := h.size; omega)).trans (h.block k hk hne)⟩
theorem grown_set {w w' : World} {b : Nat} (h : w.grownBy w' (some b)) (a : Addr) (ha : a.block = b ∨ w.heap.size ≤ a.block) (v : Value) : w.grownBy (w'.setCell a v) (some b) :=
  ⟨h.os, h.tape, h.output, by simpa [World.setCell] using h.size, fun k hk hne => (Below.heap_setCell _ _ _ _ (by
    intro e
    rcases ha with ha | ha
    · exact hne (by rw [e, ha])
    · omega)).trans (h.block k hk hne)⟩

theorem rows_lt {w : World} {B n : Nat} {f : Nat → Value} (h : w.rowIs B 52 n f) : B < w.heap.size := h.lt

/-- Four stores into a row of records. -/
theorem row_put {w : World} {B n : Nat} {r : Nat → Rec} (h : w.rowIs B 52 (4 * n) (recCell r)) (i : Nat) (x : Rec) :
    ((((w.setCell ⟨B, i * 4, none⟩ (.int .i64 x.ix)).setCell ⟨B, i * 4 + 1, none⟩ (.int .u8 x.wi)).setCell ⟨B, i * 4 + 2, none⟩ (.int .u64 x.va)).setCell ⟨B, i * 4 + 3, none⟩ (.slice none 0 0)).rowIs B 52 (4 * n) (recCell (put r i x)) :=
  ((((h.set _ _).set _ _).set _ _).set _ _).congr (fun j _ => put_cells r i x j)

theorem grown_put {w w' : World} {B : Nat} (h : w.grownBy w' (some B)) (i : Nat) (x : Rec) :
    w.grownBy ((((w'.setCell ⟨B, i * 4, none⟩ (.int .i64 x.ix)).setCell ⟨B, i * 4 + 1, none⟩ (.int .u8 x.wi)).setCell ⟨B, i * 4 + 2, none⟩ (.int .u64 x.va)).setCell ⟨B, i * 4 + 3, none⟩ (.slice none 0 0)) (some B) :=
  grown_set (grown_set (grown_set (grown_set h _ (.inl rfl) _) _ (.inl rfl) _) _ (.inl rfl) _) _ (.inl rfl) _

theorem block_put (w : World) (B P : Nat) (hne : P ≠ B) (i : Nat) (x : Rec) :
    ((((w.setCell ⟨B, i * 4, none⟩ (.int .i64 x.ix)).setCell ⟨B, i * 4 + 1, none⟩ (.int .u8 x.wi)).setCell ⟨B, i * 4 + 2, none⟩ (.int .u64 x.va)).setCell ⟨B, i * 4 + 3, none⟩ (.slice none 0 0)).heap[P]? = w.heap[P]? := by
  rw [Below.heap_setCell _ _ _ _ hne, Below.heap_setCell _ _ _ _ hne, Below.heap_setCell _ _ _ _ hne, Below.heap_setCell _ _ _ _ hne]

/-- A record in a block of its own. -/
def boxed (x : Rec) : Obj := .cells #[.int .i64 x.ix, .int .u8 x.wi, .int .u64 x.va, .slice none 0 0] 52 (0, 0)

theorem boxed_cells {w : World} {P : Nat} {x : Rec} (h : w.heap[P]? = some (boxed x)) :
    w.cell? ⟨P, 0, none⟩ = some (.int .i64 x.ix) ∧ w.cell? ⟨P, 1, none⟩ = some (.int .u8 x.wi) ∧ w.cell? ⟨P, 2, none⟩ = some (.int .u64 x.va) ∧ w.cell? ⟨P, 3, none⟩ = some (.slice none 0 0) := by
  unfold boxed at h
  refine ⟨?_, ?_, ?_, ?_⟩ <;> simp [World.cell?, h]

/-- The four cells of a record in a row: there, and free to be written. -/
theorem rec_cells {w : World} {B n : Nat} {r : Nat → Rec} (h : w.rowIs B 52 (4 * n) (recCell r)) (i : Nat) (hi : i < n) :
    w.cell? ⟨B, i * 4, none⟩ = some (.int .i64 (r i).ix) ∧ w.cell? ⟨B, i * 4 + 1, none⟩ = some (.int .u8 (r i).wi) ∧ w.cell? ⟨B, i * 4 + 2, none⟩ = some (.int .u64 (r i).va) ∧ w.cell? ⟨B, i * 4 + 3, none⟩ = some (.slice none 0 0) ∧
    w.frozen? ⟨B, i * 4, none⟩ = false ∧ w.frozen? ⟨B, i * 4 + 1, none⟩ = false ∧ w.frozen? ⟨B, i * 4 + 2, none⟩ = false ∧ w.frozen? ⟨B, i * 4 + 3, none⟩ = false := by
  refine ⟨?_, ?_, ?_, ?_, h.frozen _, h.frozen _, h.frozen _, h.frozen _⟩
  · rw [h.cell (by omega), rc0]
  · rw [h.cell (by omega), rc1]
  · rw [h.cell (by omega), rc2]
  · rw [h.cell (by omega), rc3]

/-- The end of an insertion: what the outer round owes. -/
theorem end_same {n p : Nat} {r r' : Nat → Rec} {x : Rec} {r'' : Nat → Rec} (hlt : p + 1 < n) (hsame : Sorted n r → r' = r) (hx : r' (p + 1) = x) (hle : x.ix < (r' p).ix) : Sorted n r → r'' = r := fun hs => by
  have e := hsame hs
  rw [← hx, e] at hle
  have := hs p (p + 1) (by omega) hlt
  omega

set_option maxHeartbeats 2000000 in
theorem sort_calls (B n : Nat) (r : Nat → Rec) (w : World) (hn : n ≤ 4096) (hrow : w.rowIs B 52 (4 * n) (recCell r)) :
    Calls Try.prog 29 #[.slice (some ⟨B, 0, none⟩) n n] w fun e w' => e = .returned (.tuple #[]) ∧ ∃ r', w'.rowIs B 52 (4 * n) (recCell r') ∧ Sorted n r' ∧ (Sorted n r → r' = r) ∧ w.grownBy w' (some B) := by
  have HR : Hid (w.rowIs B 52 (4 * n) (recCell r)) := hrow
  clear hrow
  go_enter Try.func29, Try.ntmps29
  go_wp2
  go_loopw [2] (fun i wr => ∃ (k : Nat) (r' : Nat → Rec), 1 ≤ k ∧ (k ≤ n ∨ k = 1) ∧ i = .int .i64 k ∧ Hid (wr.rowIs B 52 (4 * n) (recCell r')) ∧ Hid (Sorted k r') ∧ Hid (Sorted n r → r' = r) ∧ Hid (w.grownBy wr (some B))) (fun i _ => n - (intOf i).toNat)
  case atStart => exact ⟨1, r, by omega, .inr rfl, rfl, HR, sorted_one r, fun _ => rfl, grown_refl _ _⟩
  case round =>
    obtain ⟨k, r', hk1, hkn, rfl, hrw, hso, hsame, hgr⟩ := hrel
    by_cases hlt : k < n
    · obtain ⟨p, rfl⟩ : ∃ p, k = p + 1 := ⟨k - 1, by omega⟩
      have c1 : wr.cell? ⟨B, (p + 1) * 4, none⟩ = some (.int .i64 (r' (p + 1)).ix) := by rw [hrw.out.cell (by omega), rc0]
      have c0 : wr.cell? ⟨B, p * 4, none⟩ = some (.int .i64 (r' p).ix) := by rw [hrw.out.cell (by omega), rc0]
      have i1 : (0 : Int) ≤ (p : Int) + 1 := by omega
      have i2 : (p : Int) + 1 < (n : Int) := by omega
      have i3 : (p : Int) < (n : Int) := by omega
      go_wp2
      go_quiet (fail)
      have hrw2 : Hid ((wr.drewN nq).rowIs B 52 (4 * n) (recCell r')) := hrw
      have hgr2 : Hid (w.grownBy (wr.drewN nq) (some B)) := grown_drewN hgr.out nq
      clear c0 c1 hrw hgr
      generalize wr.drewN nq = wq at *
      by_cases hle : (r' p).ix ≤ (r' (p + 1)).ix
      · go_wp2
        go_roundw
        case rel =>
          exact ⟨p + 1 + 1, r', by omega, .inl (by omega), by go_num, hrw2, sorted_step r' (p + 1) (by omega) hso.out hle, hsame, hgr2⟩
        case measure => simp [intOf]; omega
      · have HLE : Hid (¬ (r' p).ix ≤ (r' (p + 1)).ix) := hle
        have d0 : wq.cell? ⟨B, (p + 1) * 4, none⟩ = some (.int .i64 (r' (p + 1)).ix) := by rw [hrw2.out.cell (by omega), rc0]
        have d1 : wq.cell? ⟨B, (p + 1) * 4 + 1, none⟩ = some (.int .u8 (r' (p + 1)).wi) := by rw [hrw2.out.cell (by omega), rc1]
        have d2 : wq.cell? ⟨B, (p + 1) * 4 + 2, none⟩ = some (.int .u64 (r' (p + 1)).va) := by rw [hrw2.out.cell (by omega), rc2]
        have d3 : wq.cell? ⟨B, (p + 1) * 4 + 3, none⟩ = some (.slice none 0 0) := by rw [hrw2.out.cell (by omega), rc3]
        go_wp2
        have bB : B < wq.heap.size := hrw2.out.lt
        have hrw3 : Hid ((wq.alloc (boxed (r' (p + 1)))).rowIs B 52 (4 * n) (recCell (shift r' (p + 1) (p + 1)))) := by rw [shift_start]; exact hrw2.out.alloc _
        have hgr3 : Hid (w.grownBy (wq.alloc (boxed (r' (p + 1)))) (some B)) := grown_alloc hgr2.out _
        have hbx3 : Hid ((wq.alloc (boxed (r' (p + 1)))).heap[wq.heap.size]? = some (boxed (r' (p + 1)))) := heap_alloc_new _ _
        have hpB : ¬ wq.heap.size = B := by omega
        clear d0 d1 d2 d3 hgr2 hrw2
        generalize hx : r' (p + 1) = x at *
        have Hx : Hid (r' (p + 1) = x) := hx
        clear hx
        generalize hP : wq.heap.size = P at *
        clear hP
        change Code.wp Try.prog _ _ _ (wq.alloc (boxed x))
        generalize wq.alloc (boxed x) = wz at *
        go_loopw [4] (fun t wy => ∃ j : Nat, j ≤ p + 1 ∧ t = .int .i64 j ∧ Hid (wy.rowIs B 52 (4 * n) (recCell (shift r' (p + 1) j))) ∧ Hid (wy.heap[P]? = some (boxed x)) ∧ Hid (w.grownBy wy (some B)) ∧ Hid (∀ m, j ≤ m → m < p + 1 → x.ix < (r' m).ix)) (fun t _ => (intOf t).toNat)
        case atStart => exact ⟨p + 1, by omega, by go_num, hrw3, hbx3, hgr3, fun m h1 h2 => by omega⟩
        case round =>
          obtain ⟨j, hj, rfl, hry, hby, hgy, hall⟩ := hrel
          obtain ⟨x0, x1, x2, x3⟩ := boxed_cells hby.out
          cases j with
          | zero =>
            go_wp2
            go_quiet (fail)
            have hry2 : Hid ((wr.drewN nq).rowIs B 52 (4 * n) (recCell (shift r' (p + 1) 0))) := hry
            have hgy2 : Hid (w.grownBy (wr.drewN nq) (some B)) := grown_drewN hgy.out nq
            have hby2 : Hid ((wr.drewN nq).heap[P]? = some (boxed x)) := hby
            clear hry hgy hby x0 x1 x2 x3
            generalize wr.drewN nq = wt at *
            obtain ⟨x0, x1, x2, x3⟩ := boxed_cells hby2.out
            obtain ⟨e0, e1, e2, e3, f0, f1, f2, f3⟩ := rec_cells hry2.out 0 (by omega)
            have hput := row_put hry2.out 0 x
            have hgp := grown_put hgy2.out 0 x
            simp only [Nat.zero_mul, Nat.zero_add] at e0 e1 e2 e3 f0 f1 f2 f3 hput hgp
            have Hput : Hid ((((wt.setCell ⟨B, 0, none⟩ (.int .i64 x.ix)).setCell ⟨B, 1, none⟩ (.int .u8 x.wi)).setCell ⟨B, 2, none⟩ (.int .u64 x.va)).setCell ⟨B, 3, none⟩ (.slice none 0 0) |>.rowIs B 52 (4 * n) (recCell (put (shift r' (p + 1) 0) 0 x))) := hput
            have Hgp : Hid (w.grownBy ((((wt.setCell ⟨B, 0, none⟩ (.int .i64 x.ix)).setCell ⟨B, 1, none⟩ (.int .u8 x.wi)).setCell ⟨B, 2, none⟩ (.int .u64 x.va)).setCell ⟨B, 3, none⟩ (.slice none 0 0)) (some B)) := hgp
            clear hput hgp
            have i7 : (0 : Int) < (n : Int) := by omega
            go_wp2
            go_roundw
            case rel =>
              refine ⟨p + 1 + 1, put (shift r' (p + 1) 0) 0 x, by omega, .inl (by omega), by go_num, Hput, ?_, end_same hlt hsame.out Hx.out HLE.out, Hgp⟩
              have := insert_sorted r' (p + 1) 0 (by omega) hso.out (fun m h1 h2 => by rw [Hx.out]; exact hall.out m h1 h2) (.inl rfl)
              rw [Hx.out] at this
              exact this
            case measure => simp [intOf]; omega
          | succ q =>
            have i4 : (0 : Int) < (q : Int) + 1 := by omega
            have i5 : (q : Int) < (n : Int) := by omega
            have i6 : (q : Int) + 1 < (n : Int) := by omega
            have c0 : wr.cell? ⟨B, q * 4, none⟩ = some (.int .i64 (r' q).ix) := by rw [hry.out.cell (by omega), rc0, shift_low _ _ _ _ (by omega)]
            go_wp2
            go_quiet (fail)
            have hry2 : Hid ((wr.drewN nq).rowIs B 52 (4 * n) (recCell (shift r' (p + 1) (q + 1)))) := hry
            have hgy2 : Hid (w.grownBy (wr.drewN nq) (some B)) := grown_drewN hgy.out nq
            have hby2 : Hid ((wr.drewN nq).heap[P]? = some (boxed x)) := hby
            clear hry hgy hby x0 x1 x2 x3 c0
            generalize wr.drewN nq = wt at *
            by_cases hgt : x.ix < (r' q).ix
            · obtain ⟨s0, s1, s2, s3, _, _, _, _⟩ := rec_cells hry2.out q (by omega)
              rw [shift_low _ _ _ _ (by omega)] at s0 s1 s2
              obtain ⟨e0, e1, e2, e3, f0, f1, f2, f3⟩ := rec_cells hry2.out (q + 1) (by omega)
              have hput := row_put hry2.out (q + 1) (r' q)
              rw [shift_step r' (p + 1) q (by omega)] at hput
              have hbp := (block_put wt B P hpB (q + 1) (r' q)).trans hby2.out
              have hgp := grown_put hgy2.out (q + 1) (r' q)
              generalize hS : (((wt.setCell ⟨B, (q + 1) * 4, none⟩ (.int .i64 (r' q).ix)).setCell ⟨B, (q + 1) * 4 + 1, none⟩ (.int .u8 (r' q).wi)).setCell ⟨B, (q + 1) * 4 + 2, none⟩ (.int .u64 (r' q).va)).setCell ⟨B, (q + 1) * 4 + 3, none⟩ (.slice none 0 0) = ws at hput hbp hgp
              have HS : Hid ((((wt.setCell ⟨B, (q + 1) * 4, none⟩ (.int .i64 (r' q).ix)).setCell ⟨B, (q + 1) * 4 + 1, none⟩ (.int .u8 (r' q).wi)).setCell ⟨B, (q + 1) * 4 + 2, none⟩ (.int .u64 (r' q).va)).setCell ⟨B, (q + 1) * 4 + 3, none⟩ (.slice none 0 0) = ws) := hS
              have Hput : Hid (ws.rowIs B 52 (4 * n) (recCell (shift r' (p + 1) q))) := hput
              have Hbp : Hid (ws.heap[P]? = some (boxed x)) := hbp
              have Hgp : Hid (w.grownBy ws (some B)) := hgp
              clear hput hbp hgp hS
              have Hall : Hid (∀ m, q ≤ m → m < p + 1 → x.ix < (r' m).ix) := fun m h1 h2 => by
                by_cases e : m = q
                · rw [e]; exact hgt
                · exact hall.out m (by omega) h2
              clear hall
              go_wp2
              rw [HS.out]
              exact ⟨⟨q, by omega, rfl, Hput, Hbp, Hgp, Hall⟩, by simp [intOf]⟩
            · obtain ⟨x0, x1, x2, x3⟩ := boxed_cells hby2.out
              obtain ⟨e0, e1, e2, e3, f0, f1, f2, f3⟩ := rec_cells hry2.out (q + 1) (by omega)
              go_wp2
              go_roundw
              case rel =>
                refine ⟨p + 1 + 1, put (shift r' (p + 1) (q + 1)) (q + 1) x, by omega, .inl (by omega), by go_num, row_put hry2.out (q + 1) x, ?_, end_same hlt hsame.out Hx.out HLE.out, grown_put hgy2.out (q + 1) x⟩
                have := insert_sorted r' (p + 1) (q + 1) (by omega) hso.out (fun m h1 h2 => by rw [Hx.out]; exact hall.out m h1 h2) (.inr (by rw [Hx.out]; simp; omega))
                rw [Hx.out] at this
                exact this
              case measure => simp [intOf]; omega
    · go_wp2
      go_end0
      refine ⟨rfl, r', hrw.out, ?_, hsame.out, hgr.out⟩
      intro a b hab hb
      exact hso.out a b hab (by omega)

end Go.Proofs.Qxb6600066a.srt
