/-
  The plain laws below 'FnSortByIndexIsIdempotent': records in a row, an insertion. No Go in sight but the values of a record's cells.
-/
import Derived.Deep.OwnRows
import Derived.Below
namespace Go.Proofs.Qxb6600066a.srt
open Go.RowKit

/-- A field's index, wire and varint. -/
structure Rec where
  ix : Int
  wi : Int
  va : Int

/-- What cell j of a row of records holds. -/
def recCell (r : Nat → Rec) (j : Nat) : Value :=
  if j % 4 = 0 then .int .i64 (r (j / 4)).ix else if j % 4 = 1 then .int .u8 (r (j / 4)).wi else if j % 4 = 2 then .int .u64 (r (j / 4)).va else .slice none 0 0

theorem rc0 (r : Nat → Rec) (i : Nat) : recCell r (i * 4) = .int .i64 (r i).ix := by
  unfold recCell; rw [if_pos (by omega), show i * 4 / 4 = i by omega]
theorem rc1 (r : Nat → Rec) (i : Nat) : recCell r (i * 4 + 1) = .int .u8 (r i).wi := by
  unfold recCell; rw [if_neg (by omega), if_pos (by omega), show (i * 4 + 1) / 4 = i by omega]
theorem rc2 (r : Nat → Rec) (i : Nat) : recCell r (i * 4 + 2) = .int .u64 (r i).va := by
  unfold recCell; rw [if_neg (by omega), if_neg (by omega), if_pos (by omega), show (i * 4 + 2) / 4 = i by omega]
theorem rc3 (r : Nat → Rec) (i : Nat) : recCell r (i * 4 + 3) = .slice none 0 0 := by
  unfold recCell; rw [if_neg (by omega), if_neg (by omega), if_neg (by omega)]

/-- A record put at place i. -/
def put (r : Nat → Rec) (i : Nat) (x : Rec) : Nat → Rec := fun m => if m = i then x else r m

/-- Four stores put a record. -/
theorem put_cells (r : Nat → Rec) (i : Nat) (x : Rec) (j : Nat) :
    (if j = i * 4 + 3 then Value.slice none 0 0 else if j = i * 4 + 2 then .int .u64 x.va else if j = i * 4 + 1 then .int .u8 x.wi else if j = i * 4 then .int .i64 x.ix else recCell r j) = recCell (put r i x) j := by
  by_cases h3 : j = i * 4 + 3
  · subst h3; rw [if_pos rfl, rc3]
  rw [if_neg h3]
  by_cases h2 : j = i * 4 + 2
  · subst h2; rw [if_pos rfl, rc2]; simp [put]
  rw [if_neg h2]
  by_cases h1 : j = i * 4 + 1
  · subst h1; rw [if_pos rfl, rc1]; simp [put]
  rw [if_neg h1]
  by_cases h0 : j = i * 4
  · subst h0; rw [if_pos rfl, rc0]; simp [put]
  rw [if_neg h0]
  have : j / 4 ≠ i := by omega
  unfold recCell put
  simp [this]

/-- The records up to n stand in order. -/
def Sorted (n : Nat) (r : Nat → Rec) : Prop := ∀ i j, i ≤ j → j < n → (r i).ix ≤ (r j).ix

/-- Those from j to i - 1 moved up by one. -/
def shift (r : Nat → Rec) (i j : Nat) : Nat → Rec := fun m => if j < m ∧ m ≤ i then r (m - 1) else r m

theorem shift_start (r : Nat → Rec) (i : Nat) : shift r i i = r := by
  funext m; unfold shift; rw [if_neg (by omega)]

theorem shift_step (r : Nat → Rec) (i j : Nat) (h : j + 1 ≤ i) : put (shift r i (j + 1)) (j + 1) (r j) = shift r i j := by
  funext m
  unfold put shift
  by_cases e : m = j + 1
  · subst e; rw [if_pos rfl, if_pos ⟨by omega, h⟩]; simp
  · rw [if_neg e]
    by_cases h2 : j + 1 < m ∧ m ≤ i
    · rw [if_pos h2, if_pos ⟨by omega, h2.2⟩]
    · rw [if_neg h2, if_neg (by omega)]

theorem shift_low (r : Nat → Rec) (i j m : Nat) (h : m ≤ j) : shift r i j m = r m := by
  unfold shift; rw [if_neg (by omega)]

/-- What the insertion comes to. -/
theorem insert_sorted (r : Nat → Rec) (i j : Nat) (hj : j ≤ i) (hs : Sorted i r) (hgt : ∀ m, j ≤ m → m < i → (r i).ix < (r m).ix) (hle : j = 0 ∨ (r (j - 1)).ix ≤ (r i).ix) : Sorted (i + 1) (put (shift r i j) j (r i)) := by
  intro a b hab hb
  have key : ∀ m, m ≤ i → put (shift r i j) j (r i) m = if m = j then r i else if j < m then r (m - 1) else r m := by
    intro m hm
    unfold put shift
    by_cases e : m = j
    · rw [if_pos e, if_pos e]
    · rw [if_neg e, if_neg e]
      by_cases h2 : j < m
      · rw [if_pos ⟨h2, hm⟩, if_pos h2]
      · rw [if_neg (by omega), if_neg h2]
  rw [key a (by omega), key b (by omega)]
  by_cases ea : a = j
  · by_cases eb : b = j
    · rw [if_pos ea, if_pos eb]; exact Int.le_refl _
    · rw [if_pos ea, if_neg eb, if_pos (by omega)]
      exact Int.le_of_lt (hgt (b - 1) (by omega) (by omega))
  · rw [if_neg ea]
    by_cases eb : b = j
    · rw [if_pos eb, if_neg (by omega)]
      have h0 : a ≤ j - 1 := by omega
      rcases hle with h | h
      · omega
      · have := hs a (j - 1) h0 (by omega); omega
    · rw [if_neg eb]
      by_cases ha : j < a
      · rw [if_pos ha, if_pos (by omega)]; exact hs _ _ (by omega) (by omega)
      · rw [if_neg ha]
        by_cases hb2 : j < b
        · rw [if_pos hb2]; exact hs _ _ (by omega) (by omega)
        · rw [if_neg hb2]; exact hs _ _ hab (by omega)

theorem sorted_step (r : Nat → Rec) (i : Nat) (hi : 1 ≤ i) (hs : Sorted i r) (h : (r (i - 1)).ix ≤ (r i).ix) : Sorted (i + 1) r := by
  intro a b hab hb
  by_cases e : b = i
  · subst e
    by_cases e2 : a = b
    · subst e2; exact Int.le_refl _
    · have := hs a (b - 1) (by omega) (by omega); omega
  · exact hs a b hab (by omega)

theorem sorted_one (r : Nat → Rec) : Sorted 1 r := by
  intro a b hab hb
  have : a = b := by omega
  subst this
  exact Int.le_refl _

end Go.Proofs.Qxb6600066a.srt
