/-
  SEAT b6001580a. The contracts of the law package's own small functions: isHostEnd, isTopLabelEnd, the two zzBytes bounds.
-/
import Derived.Test.Qxb6001580aRows
import Derived.WalkKit
import Derived.WalkSpells
import Derived.WalkLawsBesides
namespace Go.Proofs.Qxb6001580a
open Go.RowKit

def he : List UInt8 := [41, 62, 93, 124, 34, 39, 125, 44, 59]
def te : List UInt8 := [42, 95, 126, 33]
def heB (n : Int) : Bool := n == 41 || n == 62 || n == 93 || n == 124 || n == 34 || n == 39 || n == 125 || n == 44 || n == 59
def teB (n : Int) : Bool := n == 42 || n == 95 || n == 126 || n == 33

set_option maxHeartbeats 400000 in
theorem isHostEnd_any (c : Int) (w : World) :
    Calls Try.prog 7 #[.int .u8 c] w fun e w' => e = .returned (.bool (heB c)) ∧ w' = w := by
  go_enter Try.func7, Try.ntmps7
  go_wp2
  all_goals (go_ret; exact ⟨by simp_all [heB], rfl⟩)

set_option maxHeartbeats 400000 in
theorem isTopLabelEnd_any (c : Int) (w : World) :
    Calls Try.prog 8 #[.int .u8 c] w fun e w' => e = .returned (.bool (teB c)) ∧ w' = w := by
  go_enter Try.func8, Try.ntmps8
  go_wp2
  all_goals (go_ret; exact ⟨by simp_all [teB], rfl⟩)

set_option maxHeartbeats 400000 in
theorem bytes1_any (s : ByteArray) (w : World) (hs : s.size ≤ maxLen) :
    Calls Try.prog 5 #[.string s] w fun e w' => e = .returned (.bool (decide (s.size ≤ 1048576))) ∧ w' = w := by
  unfold maxLen at hs
  by_cases h : s.size ≤ 1048576
  · have h1 : decide (s.size ≤ 1048576) = true := decide_eq_true h
    rw [h1]
    go_enter Try.func5, Try.ntmps5
    go_wp2
    go_ret
    exact ⟨rfl, rfl⟩
  · have h1 : decide (s.size ≤ 1048576) = false := decide_eq_false h
    rw [h1]
    go_enter Try.func5, Try.ntmps5
    go_wp2
    go_ret
    exact ⟨rfl, rfl⟩

end Go.Proofs.Qxb6001580a
