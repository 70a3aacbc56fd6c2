/-
  The walk of FnSortByIndexIsIdempotent (7).
-/
import Derived.Test.Qxb6600066aZZ
import Derived.Below
namespace Go.Proofs.Qxb6600066a.fnSortByIndexIsIdempotent
open Go.ChangeShapes Go.WideShapes Go.ChangeAt Go.RowKit Go.Proofs.Qxb6600066a.srt
set_option linter.unusedVariables false

/-! ### The bound on the length -/
theorem zzb_yes (a0 a1 a2 : Option Addr) (n0 c0 n1 c1 n2 c2 : Nat) (h : n0 + n1 + n2 ≤ 1048576) (w : World) :
    Calls Try.prog 20 #[.slice a0 n0 c0, .slice a1 n1 c1, .slice a2 n2 c2] w fun e w' => e = .returned (.bool true) ∧ w' = w := by
  go_enter Try.func20, Try.ntmps20
  go_wp2
  go_ret
  exact ⟨rfl, rfl⟩

theorem zzb_no (a0 a1 a2 : Option Addr) (n0 c0 n1 c1 n2 c2 : Nat) (l0 : n0 ≤ maxLen) (l1 : n1 ≤ maxLen) (l2 : n2 ≤ maxLen) (h : ¬ n0 + n1 + n2 ≤ 1048576) (w : World) :
    Calls Try.prog 20 #[.slice a0 n0 c0, .slice a1 n1 c1, .slice a2 n2 c2] w fun e w' => e = .returned (.bool false) ∧ w' = w := by
  unfold maxLen at l0 l1 l2
  by_cases k0 : n0 ≤ 1048576
  · by_cases k1 : n1 ≤ 1048576
    · by_cases k01 : n0 + n1 ≤ 1048576
      · by_cases k2 : n2 ≤ 1048576
        · go_enter Try.func20, Try.ntmps20
          go_wp2
          go_ret
          exact ⟨rfl, rfl⟩
        · go_enter Try.func20, Try.ntmps20
          go_wp2
          go_ret
          exact ⟨rfl, rfl⟩
      · go_enter Try.func20, Try.ntmps20
        go_wp2
        go_ret
        exact ⟨rfl, rfl⟩
    · go_enter Try.func20, Try.ntmps20
      go_wp2
      go_ret
      exact ⟨rfl, rfl⟩
  · go_enter Try.func20, Try.ntmps20
    go_wp2
    go_ret
    exact ⟨rfl, rfl⟩

theorem walk_no (a0 a1 a2 : Option Addr) (n0 c0 n1 c1 n2 c2 : Nat) (l0 : n0 ≤ maxLen) (l1 : n1 ≤ maxLen) (l2 : n2 ≤ maxLen) (h : ¬ n0 + n1 + n2 ≤ 1048576) (w : World) :
    Calls Try.prog 7 #[.slice a0 n0 c0, .slice a1 n1 c1, .slice a2 n2 c2] w fun e w' => e = .returned (.bool true) ∧ Below w.heap.size w w' := by
  go_enter Try.func7, Try.ntmps7
  go_wp2_with fail
  refine (zzb_no a0 a1 a2 n0 c0 n1 c1 n2 c2 l0 l1 l2 h w).mono ?_
  rintro e w' ⟨rfl, rfl⟩
  go_wp2_with fail
  go_ret
  exact ⟨rfl, Below.refl _ _⟩

/-- One column is longer than the law looks at. -/
theorem walk_long (a0 a1 a2 : Option Addr) (n0 c0 n1 c1 n2 c2 : Nat) (h : n0 + n1 + n2 ≤ 1048576) (hl : 4096 < n0 ∨ 65536 < n1 ∨ 65536 < n2) (w : World) :
    Calls Try.prog 7 #[.slice a0 n0 c0, .slice a1 n1 c1, .slice a2 n2 c2] w fun e w' => e = .returned (.bool true) ∧ Below w.heap.size w w' := by
  by_cases k0 : 4096 < n0
  · go_enter Try.func7, Try.ntmps7
    go_wp2_with fail
    refine (zzb_yes a0 a1 a2 n0 c0 n1 c1 n2 c2 h w).mono ?_
    rintro e w' ⟨rfl, rfl⟩
    go_wp2_with fail
    go_ret
    exact ⟨rfl, Below.refl _ _⟩
  · by_cases k1 : 65536 < n1
    · go_enter Try.func7, Try.ntmps7
      go_wp2_with fail
      refine (zzb_yes a0 a1 a2 n0 c0 n1 c1 n2 c2 h w).mono ?_
      rintro e w' ⟨rfl, rfl⟩
      go_wp2_with fail
      go_ret
      exact ⟨rfl, Below.refl _ _⟩
    · have k2 : 65536 < n2 := by omega
      go_enter Try.func7, Try.ntmps7
      go_wp2_with fail
      refine (zzb_yes a0 a1 a2 n0 c0 n1 c1 n2 c2 h w).mono ?_
      rintro e w' ⟨rfl, rfl⟩
      go_wp2_with fail
      go_ret
      exact ⟨rfl, Below.refl _ _⟩

/-- Laid out again, sorted fields are themselves. -/
theorem fill_self (g : Nat → Rec) (n i : Nat) (hi : i < n) : fill (fun i => (g i).ix) (fun i => (g i).wi) (fun i => (g i).va) n n n i = g i := by
  unfold fill pad
  rw [if_pos hi, if_pos hi, if_pos hi]

theorem fill_sorted (g : Nat → Rec) (n : Nat) (h : Sorted n g) : Sorted n (fill (fun i => (g i).ix) (fun i => (g i).wi) (fun i => (g i).va) n n n) := by
  intro i j hij hj
  rw [fill_self g n i (by omega), fill_self g n j hj]
  exact h i j hij hj

/-- Both times the three columns read alike. -/
def Alike6 (g : Nat → Rec) (o o' n : Nat) (w : World) : Prop := ∀ i, i < n →
  w.cell? ⟨o', i, none⟩ = some (.int .i64 (g i).ix) ∧ w.cell? ⟨o' + 1, i, none⟩ = some (.int .u8 (g i).wi) ∧ w.cell? ⟨o' + 2, i, none⟩ = some (.int .u64 (g i).va) ∧
  w.cell? ⟨o, i, none⟩ = some (.int .i64 (g i).ix) ∧ w.cell? ⟨o + 1, i, none⟩ = some (.int .u8 (g i).wi) ∧ w.cell? ⟨o + 2, i, none⟩ = some (.int .u64 (g i).va)

set_option maxHeartbeats 4000000 in
theorem walk_main (a0 a1 a2 : Option Addr) (n0 c0 n1 c1 n2 c2 : Nat) (z0 z1 z2 : List Int) (h : n0 + n1 + n2 ≤ 1048576) (k0 : n0 ≤ 4096) (k1 : n1 ≤ 65536) (k2 : n2 ≤ 65536) (w : World)
    (r0 : IsRow .i64 w a0 n0 c0 z0) (r1 : IsRow .u8 w a1 n1 c1 z1) (r2 : IsRow .u64 w a2 n2 c2 z2) :
    Calls Try.prog 7 #[.slice a0 n0 c0, .slice a1 n1 c1, .slice a2 n2 c2] w fun e w' => e = .returned (.bool true) ∧ Below w.heap.size w w' := by
  have R0 : Hid (IsRow .i64 w a0 n0 c0 z0) := r0
  have R1 : Hid (IsRow .u8 w a1 n1 c1 z1) := r1
  have R2 : Hid (IsRow .u64 w a2 n2 c2 z2) := r2
  clear r0 r1 r2
  go_enter Try.func7, Try.ntmps7
  go_wp2_with fail
  refine (zzb_yes a0 a1 a2 n0 c0 n1 c1 n2 c2 h w).mono ?_
  rintro e w' ⟨rfl, rfl⟩
  go_wp2_with fail
  refine (ints_calls a0 n0 c0 z0 _ R0.out (by omega)).mono ?_
  rintro e w1 ⟨v0, rfl, C0, B1⟩
  obtain ⟨y0, b0, rfl, d0, q0⟩ := C0.use
  have E0 : Hid (0 < n0 → y0 = some ⟨b0, 0, none⟩) := d0
  have Q0 : Hid (∀ i, i < n0 → w1.cell? ⟨b0, i, none⟩ = some (.int .i64 (z0.getD i 0))) := q0
  clear d0 q0 C0
  go_wp2_with fail
  refine (u8s_calls a1 n1 c1 z1 w1 (R1.out.later B1) (by omega)).mono ?_
  rintro e w2 ⟨v1, rfl, C1, B2⟩
  obtain ⟨y1, b1, rfl, d1, q1⟩ := C1.use
  have E1 : Hid (0 < n1 → y1 = some ⟨b1, 0, none⟩) := d1
  have Q1 : Hid (∀ i, i < n1 → w2.cell? ⟨b1, i, none⟩ = some (.int .u8 (z1.getD i 0))) := q1
  clear d1 q1 C1
  go_wp2_with fail
  refine (u64s_calls a2 n2 c2 z2 w2 ((R2.out.later B1).later B2) (by omega)).mono ?_
  rintro e w3 ⟨v2, rfl, C2, B3⟩
  obtain ⟨y2, b2, rfl, d2, q2⟩ := C2.use
  have E2 : Hid (0 < n2 → y2 = some ⟨b2, 0, none⟩) := d2
  have Q2 : Hid (∀ i, i < n2 → w3.cell? ⟨b2, i, none⟩ = some (.int .u64 (z2.getD i 0))) := q2
  clear d2 q2 C2
  have P0 : Hid (∀ i, i < n0 → w3.cell? ⟨b0, i, none⟩ = some (.int .i64 (z0.getD i 0))) := fun i hi => by
    have hb : b0 < w1.heap.size := World.block_lt_of_cell? w1 ⟨b0, i, none⟩ (Q0.out i hi)
    rw [B3.cell (p := ⟨b0, i, none⟩) (by have := B2.size; show b0 < _; omega), B2.cell (p := ⟨b0, i, none⟩) hb]
    exact Q0.out i hi
  have P1 : Hid (∀ i, i < n1 → w3.cell? ⟨b1, i, none⟩ = some (.int .u8 (z1.getD i 0))) := fun i hi => by
    have hb : b1 < w2.heap.size := World.block_lt_of_cell? w2 ⟨b1, i, none⟩ (Q1.out i hi)
    rw [B3.cell (p := ⟨b1, i, none⟩) hb]
    exact Q1.out i hi
  have BB3 := (B1.trans (B2.mono B1.size)).trans (B3.mono (by have := B1.size; have := B2.size; omega))
  clear Q0 Q1 B1 B2 B3 R0 R1 R2
  go_wp2_with fail
  refine (zz_calls y0 y1 y2 b0 b1 b2 n0 n1 n2 (fun i => z0.getD i 0) (fun i => z1.getD i 0) (fun i => z2.getD i 0) w3 k0 k1 k2 E0.out E1.out E2.out P0.out P1.out Q2.out).mono ?_
  rintro e w4 ⟨g, o, rfl, hso, _, ho, g0, g1, g2, B4⟩
  have BB4 := BB3.trans (B4.mono BB3.size)
  have HSO : Hid (Sorted n0 g) := hso
  have G0 : Hid (w4.rowIs o 3 n0 (fun i => .int .i64 (g i).ix)) := g0
  have G1 : Hid (w4.rowIs (o + 1) 5 n0 (fun i => .int .u8 (g i).wi)) := g1
  have G2 : Hid (w4.rowIs (o + 2) 30 n0 (fun i => .int .u64 (g i).va)) := g2
  clear g0 g1 g2 hso B4 BB3 P0 P1 Q2 E0 E1 E2
  go_wp2_with fail
  refine (zz_calls (some ⟨o, 0, none⟩) (some ⟨o + 1, 0, none⟩) (some ⟨o + 2, 0, none⟩) o (o + 1) (o + 2) n0 n0 n0 (fun i => (g i).ix) (fun i => (g i).wi) (fun i => (g i).va) w4 k0 (by omega) (by omega)
    (fun _ => rfl) (fun _ => rfl) (fun _ => rfl) (fun i hi => G0.out.cell hi) (fun i hi => G1.out.cell hi) (fun i hi => G2.out.cell hi)).mono ?_
  rintro e w5 ⟨g', o', rfl, _, hsame, ho', g0', g1', g2', B5⟩
  have eg := hsame (fill_sorted g n0 HSO.out)
  have U0 : Hid (∀ i, i < n0 → w5.cell? ⟨o', i, none⟩ = some (.int .i64 (g i).ix)) := fun i hi => by rw [g0'.cell hi, eg, fill_self g n0 i hi]
  have U1 : Hid (∀ i, i < n0 → w5.cell? ⟨o' + 1, i, none⟩ = some (.int .u8 (g i).wi)) := fun i hi => by rw [g1'.cell hi, eg, fill_self g n0 i hi]
  have U2 : Hid (∀ i, i < n0 → w5.cell? ⟨o' + 2, i, none⟩ = some (.int .u64 (g i).va)) := fun i hi => by rw [g2'.cell hi, eg, fill_self g n0 i hi]
  have V0 : Hid (∀ i, i < n0 → w5.cell? ⟨o, i, none⟩ = some (.int .i64 (g i).ix)) := fun i hi => by rw [B5.cell (p := ⟨o, i, none⟩) G0.out.lt]; exact G0.out.cell hi
  have V1 : Hid (∀ i, i < n0 → w5.cell? ⟨o + 1, i, none⟩ = some (.int .u8 (g i).wi)) := fun i hi => by rw [B5.cell (p := ⟨o + 1, i, none⟩) G1.out.lt]; exact G1.out.cell hi
  have V2 : Hid (∀ i, i < n0 → w5.cell? ⟨o + 2, i, none⟩ = some (.int .u64 (g i).va)) := fun i hi => by rw [B5.cell (p := ⟨o + 2, i, none⟩) G2.out.lt]; exact G2.out.cell hi
  have BB5 : Hid _ := BB4.trans (B5.mono BB4.size)
  clear eg hsame g0' g1' g2' B5 BB4 G0 G1 G2 HSO ho ho'
  have A5 : Hid (Alike6 g o o' n0 w5) := fun i hi => ⟨U0.out i hi, U1.out i hi, U2.out i hi, V0.out i hi, V1.out i hi, V2.out i hi⟩
  clear U0 U1 U2 V0 V1 V2
  go_wp2
  go_loopw [14] (fun t wy => ∃ j : Nat, j ≤ n0 ∧ t = .int .i64 j ∧ Hid (Alike6 g o o' n0 wy) ∧ Hid (Below w'.heap.size w' wy)) (fun t _ => n0 - (RowKit.intOf t).toNat)
  case atStart => exact ⟨0, Nat.zero_le _, rfl, A5, BB5⟩
  case round =>
    obtain ⟨j, hj, rfl, hA, hB⟩ := hrel
    by_cases hlt : j < n0
    · obtain ⟨s0, s1, s2, s3, s4, s5⟩ := hA.out j hlt
      have i1 : (j : Int) < (n0 : Int) := by omega
      go_wp2
      go_quiet (fail)
      have hA2 : Hid (Alike6 g o o' n0 (wr.drewN nq)) := hA
      have hB2 : Hid (Below w'.heap.size w' (wr.drewN nq)) := below_drewN hB.out nq
      clear hA hB s0 s1 s2 s3 s4 s5
      generalize wr.drewN nq = wt at *
      go_wp2
      go_roundw
      case rel => exact ⟨j + 1, by omega, by go_num, hA2, hB2⟩
      case measure => simp [RowKit.intOf]; omega
    · go_wp2
      go_ret
      exact ⟨rfl, hB.out⟩

theorem row_len {k : IntKind} {w : World} {a : Option Addr} {len cap : Nat} {zs : List Int} (h : IsRow k w a len cap zs) : len ≤ maxLen := by
  rcases h with ⟨_, h, _, _⟩ | ⟨x, _, h2, h3, _⟩
  · rw [h]; exact Nat.zero_le _
  · omega

theorem walk (a0 : Option Addr) (len0 cap0 : Nat) (z0 : List Int) (a1 : Option Addr) (len1 cap1 : Nat) (z1 : List Int) (a2 : Option Addr) (len2 cap2 : Nat) (z2 : List Int) (w : World) (w0 : IsRow .i64 w a0 len0 cap0 z0) (w1 : IsRow .u8 w a1 len1 cap1 z1) (w2 : IsRow .u64 w a2 len2 cap2 z2) :
    Calls Try.prog 7 #[.slice a0 len0 cap0, .slice a1 len1 cap1, .slice a2 len2 cap2] w fun e w' => e = .returned (.bool true) ∧ Below w.heap.size w w' := by
  by_cases h : len0 + len1 + len2 ≤ 1048576
  · by_cases hl : 4096 < len0 ∨ 65536 < len1 ∨ 65536 < len2
    · exact walk_long a0 a1 a2 len0 cap0 len1 cap1 len2 cap2 h hl w
    · exact walk_main a0 a1 a2 len0 cap0 len1 cap1 len2 cap2 z0 z1 z2 h (by omega) (by omega) (by omega) w w0 w1 w2
  · exact walk_no a0 a1 a2 len0 cap0 len1 cap1 len2 cap2 (row_len w0) (row_len w1) (row_len w2) h w

end Go.Proofs.Qxb6600066a.fnSortByIndexIsIdempotent
