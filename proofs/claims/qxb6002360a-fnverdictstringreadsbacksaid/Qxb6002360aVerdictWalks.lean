/-
  The walks below 'FnVerdictStringReadsBack': Verdict.String (16), zzReadVerdict (17).
-/
import Derived.Test.Qxb6002360aRows
import Derived.WalkKit
import Derived.ProofKit
import Derived.OpenShut
import Derived.ShutString
import Derived.Below
import Derived.WalkLawsBesides
import Derived.Deep.QuietTactic
import Derived.BigQuiet
namespace Go.Proofs.Qxb6002360a.fnVerdict
open Go.ChangeShapes Go.WideShapes Go.ChangeAt Go.RowKit

def word (h : Bool) : ByteArray := if h then ⟨#[121, 101, 115]⟩ else ⟨#[110, 111]⟩
/-- A verdict's text. -/
def vtext (h : Bool) (s : ByteArray) : ByteArray := if s.size = 0 then word h else word h ++ ⟨#[32, 40]⟩ ++ s ++ ⟨#[41]⟩

theorem isEmpty_of (s : ByteArray) (h : s.size = 0) : s.toList.isEmpty = true := by
  have : s.data.toList = [] := List.eq_nil_of_length_eq_zero (by rw [Array.length_toList]; exact h)
  rw [ByteArray.toList_eq, this]
  rfl
theorem isEmpty_not (s : ByteArray) (h : ¬ s.size = 0) : s.toList.isEmpty = false := by
  cases h' : s.toList.isEmpty with
  | false => rfl
  | true =>
    rw [ByteArray.toList_eq, List.isEmpty_iff] at h'
    have := congrArg List.length h'
    rw [Array.length_toList] at this
    exact absurd this h

set_option maxHeartbeats 400000 in
theorem string_calls (h : Bool) (s : ByteArray) (hs : s.size ≤ 1048576) (w : World) :
    Calls Try.prog 16 #[.agg #[.bool h, .string s]] w fun e w' => e = .returned (.string (vtext h s)) ∧ w' = w.alloc (.cells #[.bool h, .string s] 39) := by
  by_cases h0 : s.size = 0
  · have hv : vtext h s = word h := by unfold vtext; rw [if_pos h0]
    have h1 := isEmpty_of s h0
    rw [hv]
    clear hv h0
    cases h
    · go_enter Try.func16, Try.ntmps16
      go_wp2
      go_ret
      exact ⟨rfl, rfl⟩
    · go_enter Try.func16, Try.ntmps16
      go_wp2
      go_ret
      exact ⟨rfl, rfl⟩
  · have hv : vtext h s = word h ++ ⟨#[32, 40]⟩ ++ s ++ ⟨#[41]⟩ := by unfold vtext; rw [if_neg h0]
    have h1 := isEmpty_not s h0
    rw [hv]
    clear hv h0
    cases h
    · go_enter Try.func16, Try.ntmps16
      go_wp2
      go_ret
      exact ⟨rfl, rfl⟩
    · go_enter Try.func16, Try.ntmps16
      go_wp2
      go_ret
      exact ⟨rfl, rfl⟩

theorem mid_run (rest s : ByteArray) (hn : 4 ≤ rest.size) (hmid : rest.extract 2 (rest.size - 1) = s) (w : World) :
    (Instr.slice 9 (.string rest) (some (.int .i64 2)) (some (.int .i64 ((rest.size : Int) - 1))) none).run Try.prog w = .ok (.string s) w := by
  rw [run_slice_string w 9 rest .i64 .i64 2 ((rest.size : Int) - 1) Try.underlying9 (by omega) (by omega) (by omega)]
  have e : ((rest.size : Int) - 1).toNat = rest.size - 1 := by omega
  rw [e, ← hmid]
  rfl

set_option maxHeartbeats 400000 in
theorem read_yes (t rest s : ByteArray) (hm : rest.size ≤ 2000000) (h3 : 3 ≤ t.size) (he : t.extract 0 3 = ⟨#[121, 101, 115]⟩) (hr : t.extract 3 t.size = rest) (hn : 4 ≤ rest.size)
   (r0 : rest[0].toNat = 32) (r1 : rest[1].toNat = 40) (rl : rest[rest.size - 1].toNat = 41) (hmid : rest.extract 2 (rest.size - 1) = s) (w : World) :
    Calls Try.prog 17 #[.string t] w fun e w' => e = .returned (.tuple #[.bool true, .string s, .bool true]) ∧ w'.Alike w := by
  have hne := isEmpty_not rest (by omega)
  have hsl := mid_run rest s hn hmid
  go_enter Try.func17, Try.ntmps17
  go_wp2
  go_quiet (fail)
  go_wp2
  go_ret3
  exact ⟨rfl, rfl, rfl, rfl⟩

set_option maxHeartbeats 400000 in
theorem read_no (t rest s : ByteArray) (hm : rest.size ≤ 2000000) (h3 : 3 ≤ t.size) (he : ((t.extract 0 3).toList == [121, 101, 115]) = false) (he2 : t.extract 0 2 = ⟨#[110, 111]⟩) (hr : t.extract 2 t.size = rest) (hn : 4 ≤ rest.size)
   (r0 : rest[0].toNat = 32) (r1 : rest[1].toNat = 40) (rl : rest[rest.size - 1].toNat = 41) (hmid : rest.extract 2 (rest.size - 1) = s) (w : World) :
    Calls Try.prog 17 #[.string t] w fun e w' => e = .returned (.tuple #[.bool false, .string s, .bool true]) ∧ w'.Alike w := by
  have hne := isEmpty_not rest (by omega)
  have hsl := mid_run rest s hn hmid
  go_enter Try.func17, Try.ntmps17
  go_wp2
  go_quiet (fail)
  go_wp2
  go_ret3
  exact ⟨rfl, rfl, rfl, rfl⟩

set_option maxHeartbeats 400000 in
theorem read_word (h : Bool) (w : World) :
    Calls Try.prog 17 #[.string (word h)] w fun e w' => e = .returned (.tuple #[.bool h, .string ⟨#[]⟩, .bool true]) ∧ w'.Alike w := by
  cases h
  · have e : word false = ⟨#[110, 111]⟩ := rfl
    have e1 : (ByteArray.mk #[110, 111]).extract 0 2 = ⟨#[110, 111]⟩ := rfl
    have e2 : (ByteArray.mk #[110, 111]).extract 2 2 = ⟨#[]⟩ := rfl
    rw [e]
    clear e
    go_enter Try.func17, Try.ntmps17
    go_wp2
    go_ret3
    exact ⟨rfl, rfl, rfl, rfl⟩
  · have e : word true = ⟨#[121, 101, 115]⟩ := rfl
    have e1 : (ByteArray.mk #[121, 101, 115]).extract 0 3 = ⟨#[121, 101, 115]⟩ := rfl
    have e2 : (ByteArray.mk #[121, 101, 115]).extract 3 3 = ⟨#[]⟩ := rfl
    rw [e]
    clear e
    go_enter Try.func17, Try.ntmps17
    go_wp2
    go_ret3
    exact ⟨rfl, rfl, rfl, rfl⟩

end Go.Proofs.Qxb6002360a.fnVerdict
