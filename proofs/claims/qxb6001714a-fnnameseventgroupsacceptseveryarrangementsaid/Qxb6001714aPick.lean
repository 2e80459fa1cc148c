/-
  SEAT b6001714a. permPick, groupName, the bound on the lengths.
-/
import Derived.Test.Qxb6001714aRows
import Derived.WalkKit
import Derived.WalkSpells
import Derived.WalkLawsBesides
namespace Go.Proofs.Qxb6001714a
open Go.RowKit

/-- orderPerms: which of the three names stands at place q of the order a. -/
def pick (a : Int) (q : Int) : Int := [0, 1, 2, 0, 2, 1, 1, 0, 2, 1, 2, 0, 2, 0, 1, 2, 1, 0].getD (a * 3 + q).toNat 0
def gname (k : Int) : ByteArray := if k == 0 then ⟨#[104, 111, 115, 116]⟩ else if k == 1 then ⟨#[99, 108, 111, 99, 107]⟩ else ⟨#[101, 118, 101, 110, 116]⟩

set_option maxHeartbeats 1000000 in
theorem permPick_any (a q : Int) (w : World) (h0 : 0 ≤ a) (h5 : a ≤ 5) (hq : q = 0 ∨ q = 1 ∨ q = 2) :
    Calls Try.prog 16 #[.int .i64 a, .int .i64 q] w fun e w' => e = .returned (.int .i64 (pick a q)) ∧ w' = w := by
  rcases (by omega : a = 0 ∨ a = 1 ∨ a = 2 ∨ a = 3 ∨ a = 4 ∨ a = 5) with rfl | rfl | rfl | rfl | rfl | rfl <;> rcases hq with rfl | rfl | rfl
  all_goals
    go_enter Try.func16, Try.ntmps16
    go_wp2
    go_ret
    exact ⟨rfl, rfl⟩

set_option maxHeartbeats 1000000 in
theorem groupName_any (k : Int) (w : World) :
    Calls Try.prog 15 #[.int .i64 k] w fun e w' => e = .returned (.string (gname k)) ∧ w' = w := by
  cases h0 : k == 0
  · cases h1 : k == 1
    · have e : gname k = ⟨#[101, 118, 101, 110, 116]⟩ := by unfold gname; rw [h0, h1]; rfl
      rw [e]
      go_enter Try.func15, Try.ntmps15
      go_wp2
      go_ret
      exact ⟨rfl, rfl⟩
    · have e : gname k = ⟨#[99, 108, 111, 99, 107]⟩ := by unfold gname; rw [h0, h1]; rfl
      rw [e]
      go_enter Try.func15, Try.ntmps15
      go_wp2
      go_ret
      exact ⟨rfl, rfl⟩
  · have e : gname k = ⟨#[104, 111, 115, 116]⟩ := by unfold gname; rw [h0]; rfl
    rw [e]
    go_enter Try.func15, Try.ntmps15
    go_wp2
    go_ret
    exact ⟨rfl, rfl⟩

def fits (a b c d : Nat) : Bool := decide (a + b + c + d ≤ 1048576)

set_option maxHeartbeats 1000000 in
theorem bytes_any (a0 a1 a2 a3 : Option Addr) (n0 c0 n1 c1 n2 c2 n3 c3 : Nat) (p : Int) (x y z : Bool) (w : World) (h0 : n0 ≤ maxLen) (h1 : n1 ≤ maxLen) (h2 : n2 ≤ maxLen) (h3 : n3 ≤ maxLen) :
    Calls Try.prog 13 #[.slice a0 n0 c0, .slice a1 n1 c1, .slice a2 n2 c2, .slice a3 n3 c3, .int .i64 p, .bool x, .bool y, .bool z] w fun e w' => e = .returned (.bool (fits n0 n1 n2 n3)) ∧ w' = w := by
  unfold maxLen at h0 h1 h2 h3
  by_cases g0 : n0 ≤ 1048576
  · by_cases g1 : n1 ≤ 1048576
    · by_cases g1' : n0 + n1 ≤ 1048576
      · by_cases g2 : n2 ≤ 1048576
        · by_cases g2' : n0 + n1 + n2 ≤ 1048576
          · by_cases g3 : n3 ≤ 1048576
            · by_cases g3' : n0 + n1 + n2 + n3 ≤ 1048576
              · rw [show fits n0 n1 n2 n3 = true from decide_eq_true g3']
                go_enter Try.func13, Try.ntmps13
                go_wp2
                go_ret
                exact ⟨rfl, rfl⟩
              · rw [show fits n0 n1 n2 n3 = false from decide_eq_false g3']
                go_enter Try.func13, Try.ntmps13
                go_wp2
                go_ret
                exact ⟨rfl, rfl⟩
            · rw [show fits n0 n1 n2 n3 = false from decide_eq_false (by omega)]
              go_enter Try.func13, Try.ntmps13
              go_wp2
              go_ret
              exact ⟨rfl, rfl⟩
          · rw [show fits n0 n1 n2 n3 = false from decide_eq_false (by omega)]
            go_enter Try.func13, Try.ntmps13
            go_wp2
            go_ret
            exact ⟨rfl, rfl⟩
        · rw [show fits n0 n1 n2 n3 = false from decide_eq_false (by omega)]
          go_enter Try.func13, Try.ntmps13
          go_wp2
          go_ret
          exact ⟨rfl, rfl⟩
      · rw [show fits n0 n1 n2 n3 = false from decide_eq_false (by omega)]
        go_enter Try.func13, Try.ntmps13
        go_wp2
        go_ret
        exact ⟨rfl, rfl⟩
    · rw [show fits n0 n1 n2 n3 = false from decide_eq_false (by omega)]
      go_enter Try.func13, Try.ntmps13
      go_wp2
      go_ret
      exact ⟨rfl, rfl⟩
  · rw [show fits n0 n1 n2 n3 = false from decide_eq_false (by omega)]
    go_enter Try.func13, Try.ntmps13
    go_wp2
    go_ret
    exact ⟨rfl, rfl⟩

end Go.Proofs.Qxb6001714a
