/-
  SEAT b6602212aM: THE PLAIN PART, and the contract of holdings (11).
-/
import Derived.Test.Qxb6602212aModsRows
import Derived.WalkKit
import Derived.WalkSpells
import Derived.WalkLawsBesides
namespace Go.Proofs.Qxb6602212aMods
open Go.RowKit

/-- The query's three constant parts. -/
def nl : ByteArray := ⟨#[10, 32, 32]⟩
def pre : ByteArray := ⟨([83, 69, 76, 69, 67, 84, 32, 97, 99, 99, 111, 117, 110, 116, 44, 32, 102, 117, 110, 100, 44, 32, 99, 108, 97, 115, 115, 44, 32, 112, 114, 105, 110, 116, 102, 40, 39, 37, 100, 46, 37, 48, 50, 100, 39, 44, 32, 115, 117, 109, 40, 104, 117, 110, 100, 114, 101, 100, 116] ++ [104, 115, 41, 32, 47, 32, 49, 48, 48, 44, 32, 115, 117, 109, 40, 104, 117, 110, 100, 114, 101, 100, 116, 104, 115, 41, 32, 37, 32, 49, 48, 48, 41, 32, 65, 83, 32, 115, 104, 97, 114, 101, 115, 10, 32, 32, 70, 82, 79, 77, 32, 109, 111, 118, 101, 109, 101, 110, 116, 115] : List UInt8).toArray⟩
def post : ByteArray := ⟨#[10, 32, 32, 71, 82, 79, 85, 80, 32, 66, 89, 32, 97, 99, 99, 111, 117, 110, 116, 44, 32, 102, 117, 110, 100, 44, 32, 99, 108, 97, 115, 115, 10, 32, 32, 72, 65, 86, 73, 78, 71, 32, 115, 117, 109, 40, 104, 117, 110, 100, 114, 101, 100, 116, 104, 115, 41, 32, 62, 32, 48]⟩

/-- What holdings gives. -/
def holds (a : ByteArray) : ByteArray := if a.toList.isEmpty = true then pre ++ a ++ post else pre ++ (nl ++ a) ++ post

theorem toList_append (a b : ByteArray) : (a ++ b).toList = a.toList ++ b.toList := by
  rw [ByteArray.toList_eq, ByteArray.toList_eq, ByteArray.toList_eq, ByteArray.data_append, Array.toList_append]

theorem holds_list (a : ByteArray) : (holds a).toList = pre.toList ++ ((if a.toList.isEmpty = true then [] else nl.toList) ++ a.toList) ++ post.toList := by
  unfold holds
  by_cases h : a.toList.isEmpty = true
  · rw [if_pos h, if_pos h, toList_append, toList_append, List.nil_append]
  · rw [if_neg h, if_neg h, toList_append, toList_append, toList_append]

/-- THE PLAIN LAW: two clauses give the same query exactly when they are the same clause. -/
theorem holds_inj (a b : ByteArray) : ((holds a).toList == (holds b).toList) = (a.toList == b.toList) := by
  have hnl : nl.toList.length = 3 := by rw [ByteArray.toList_eq]; rfl
  rw [holds_list, holds_list, Bool.eq_iff_iff, beq_iff_eq, beq_iff_eq]
  constructor
  · intro h
    rw [List.append_left_inj, List.append_right_inj] at h
    by_cases ha : a.toList.isEmpty = true
    · by_cases hb : b.toList.isEmpty = true
      · rw [if_pos ha, if_pos hb] at h
        exact h
      · rw [if_pos ha, if_neg hb] at h
        have e := congrArg List.length h
        rw [List.isEmpty_iff] at ha
        rw [ha] at e
        simp only [List.length_append, List.length_nil, hnl] at e
        omega
    · by_cases hb : b.toList.isEmpty = true
      · rw [if_neg ha, if_pos hb] at h
        have e := congrArg List.length h
        rw [List.isEmpty_iff] at hb
        rw [hb] at e
        simp only [List.length_append, List.length_nil, hnl] at e
        omega
      · rw [if_neg ha, if_neg hb, List.append_right_inj] at h
        exact h
  · intro h
    rw [h]

set_option maxHeartbeats 400000 in
theorem holdings11 (a : ByteArray) (w : World) (h : a.size ≤ 1048576) : Calls Trym.prog 11 #[.string a] w fun e w' => e = .returned (.string (holds a)) ∧ w' = w := by
  cases h0 : a.toList.isEmpty with
  | true =>
    have e : holds a = pre ++ a ++ post := by unfold holds; rw [if_pos h0]
    rw [e]
    clear e
    go_enter Trym.func11, Trym.ntmps11
    go_wp2
    go_ret
    exact ⟨rfl, rfl⟩
  | false =>
    have e : holds a = pre ++ (nl ++ a) ++ post := by unfold holds; rw [if_neg (by rw [h0]; exact Bool.false_ne_true)]
    rw [e]
    clear e
    go_enter Trym.func11, Trym.ntmps11
    go_wp2
    go_ret
    exact ⟨rfl, rfl⟩

theorem zzHoldings9 (a : ByteArray) (w : World) (h : a.size ≤ 1048576) : Calls Trym.prog 9 #[.string a] w fun e w' => e = .returned (.string (holds a)) ∧ w' = w := by
  go_enter Trym.func9, Trym.ntmps9
  go_wp2_with fail
  refine (holdings11 a w h).mono ?_
  rintro e w' ⟨rfl, rfl⟩
  go_wp2
  go_ret
  exact ⟨rfl, rfl⟩

set_option maxHeartbeats 400000 in
theorem bytes8_yes (a b : ByteArray) (w : World) (h : a.size + b.size ≤ 1048576) : Calls Trym.prog 8 #[.string a, .string b] w fun e w' => e = .returned (.bool true) ∧ w' = w := by
  go_enter Trym.func8, Trym.ntmps8
  go_wp2
  go_ret
  exact ⟨rfl, rfl⟩

set_option maxHeartbeats 400000 in
theorem bytes8_no (a b : ByteArray) (w : World) (ha : a.size ≤ 9223372036854775807) (hb : b.size ≤ 9223372036854775807) (h : 1048576 < a.size + b.size) : Calls Trym.prog 8 #[.string a, .string b] w fun e w' => e = .returned (.bool false) ∧ w' = w := by
  go_enter Trym.func8, Trym.ntmps8
  go_wp2
  all_goals
    go_ret
    exact ⟨rfl, rfl⟩

end Go.Proofs.Qxb6602212aMods
