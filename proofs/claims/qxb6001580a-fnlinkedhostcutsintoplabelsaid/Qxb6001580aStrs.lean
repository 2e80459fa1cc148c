/-
  SEAT b6001580a. strings.HasPrefix at "[", TrimSuffix at ".", LastIndexByte at '.' over this dump.
-/
import Derived.Test.Qxb6001580aEnds
import Derived.Lib.Strings
import Derived.Lib.IndexBytes
import Derived.Laws.Strings3
import Derived.Deep.LoopGhost
namespace Go.Proofs.Qxb6001580a
open Go.RowKit

/-- The byte at place k, as a list's entry. -/
theorem at_list (s : ByteArray) (k : Nat) (h : k < s.size) : s.data.toList[k]? = some (s[k]'h) := Lib.data_getElem? s k h

/-- One behind the last full stop among the first k bytes; 0 where there is none. -/
def topIdx (l : List UInt8) : Nat → Nat
  | 0 => 0
  | k + 1 => if l[k]? = some 46 then k + 1 else topIdx l k

theorem topIdx_spec (l : List UInt8) : ∀ k, topIdx l k ≤ k ∧ (∀ j, topIdx l k ≤ j → j < k → l[j]? ≠ some 46) ∧ (topIdx l k = 0 ∨ l[topIdx l k - 1]? = some 46)
  | 0 => ⟨Nat.le_refl _, fun j _ h => absurd h (Nat.not_lt_zero _), .inl rfl⟩
  | k + 1 => by
    unfold topIdx
    split
    · rename_i h
      exact ⟨Nat.le_refl _, fun j h1 h2 => by omega, .inr (by simpa using h)⟩
    · rename_i h
      obtain ⟨h1, h2, h3⟩ := topIdx_spec l k
      refine ⟨by omega, fun j hj1 hj2 => ?_, h3⟩
      by_cases e : j = k
      · subst e; exact h
      · exact h2 j hj1 (by omega)

set_option maxHeartbeats 400000 in
theorem lastDot_any (s : ByteArray) (w : World) (hs : s.size ≤ maxLen) :
    Calls Try.prog 13 #[.string s, .int .u8 46] w fun e w' => e = .returned (.int .i64 ((topIdx s.data.toList s.size : Int) - 1)) ∧ w' = w := by
  unfold maxLen at hs
  go_enter Try.func13, Try.ntmps13
  go_wp2
  go_loop [5] (fun i => ∃ k : Nat, k ≤ s.size ∧ i = .int .i64 ((k : Int) - 1) ∧ topIdx s.data.toList s.size = topIdx s.data.toList k) (fun i => (intOf i + 1).toNat)
  case atStart => exact ⟨s.size, Nat.le_refl _, rfl, rfl⟩
  case round =>
    obtain ⟨k, hk, rfl, he⟩ := hrel
    have HE : Hid (topIdx s.data.toList s.size = topIdx s.data.toList k) := he
    clear he
    cases k with
    | zero =>
      go_wp2
      go_ret
      exact ⟨by rw [HE.out]; rfl, rfl⟩
    | succ k =>
      have hlt : k < s.size := by omega
      have hki : ((k + 1 : Nat) : Int) - 1 = (k : Int) := by omega
      rw [hki]
      obtain ⟨x, hx⟩ : ∃ x : UInt8, s[k]'hlt = x := ⟨_, rfl⟩
      have HX : Hid (s.data.toList[k]? = some x) := by rw [← hx]; exact at_list s k hlt
      by_cases hd : x = 46
      · subst hd
        go_wp2
        go_ret
        refine ⟨?_, rfl⟩
        rw [HE.out, topIdx, if_pos HX.out, hki]
        rfl
      · have hne : ((x.toNat : Int) == 46) = false := beq_eq_false_iff_ne.2 fun e => hd (UInt8.toNat_inj.1 (by simpa using Int.ofNat.inj e))
        go_wp2
        go_round
        case rel => exact ⟨k, by omega, rfl, by rw [HE.out, topIdx, if_neg (by rw [HX.out]; simpa using hd)]⟩
        case measure => simp [intOf]

set_option maxHeartbeats 400000 in
theorem hasPrefix_any (s p : ByteArray) (w : World) :
    Calls Try.prog 11 #[.string s, .string p] w fun e w' => e = .returned (.bool (Lib.hasPrefix s.data.toList p.data.toList)) ∧ w' = w := by
  rw [← Lib.hasPrefix_raw]
  by_cases h : p.size ≤ s.size
  · have h' : (p.size : Int) ≤ (s.size : Int) := by omega
    go_enter Try.func11, Try.ntmps11
    go_wp2
    go_ret
    exact ⟨by simp [h], rfl⟩
  · have h' : decide ((p.size : Int) ≤ (s.size : Int)) = false := decide_eq_false (by omega)
    go_enter Try.func11, Try.ntmps11
    go_wp2
    go_ret
    exact ⟨by simp [h], rfl⟩

set_option maxHeartbeats 400000 in
theorem hasSuffix_any (s p : ByteArray) (w : World) (hs : s.size ≤ maxLen) :
    Calls Try.prog 22 #[.string s, .string p] w fun e w' => e = .returned (.bool (Lib.hasSuffix s.data.toList p.data.toList)) ∧ w' = w := by
  unfold maxLen at hs
  rw [← Lib.hasSuffix_raw]
  go_enter Try.func22, Try.ntmps22
  go_wp2
  · have h : p.size ≤ s.size := by assumption
    go_ret
    refine ⟨?_, rfl⟩
    show Ending.returned (Value.bool ((s.extract (s.size - p.size) s.size).toList == p.toList)) = _
    simp [h]
  · have h : ¬ p.size ≤ s.size := by assumption
    go_ret
    refine ⟨?_, rfl⟩
    show Ending.returned (Value.bool false) = _
    simp [h]

set_option maxHeartbeats 400000 in
theorem trimSuffix_any (s p : ByteArray) (w : World) (hs : s.size ≤ maxLen) :
    Calls Try.prog 12 #[.string s, .string p] w fun e w' => e = .returned (.string ⟨(Lib.trimSuffix s.data.toList p.data.toList).toArray⟩) ∧ w' = w := by
  have hS := hasSuffix_any s p w hs
  unfold maxLen at hs
  by_cases h1 : p.size ≤ s.size
  · cases h2 : ((s.extract (s.size - p.size) s.size).toList == p.toList)
    · have hh : Lib.hasSuffix s.data.toList p.data.toList = false := by rw [← Lib.hasSuffix_raw, h2]; simp
      rw [hh] at hS
      go_enter Try.func12, Try.ntmps12
      go_wp2_with (first | (go_at_call 22; refine hS.mono ?_; rintro e w' ⟨rfl, hw⟩; rw [hw]) | go_in)
      go_ret
      refine ⟨?_, rfl⟩
      rw [Lib.trimSuffix_miss s p (by rw [h2]; simp)]
      rfl
    · have hh : Lib.hasSuffix s.data.toList p.data.toList = true := by rw [← Lib.hasSuffix_raw, h2]; simp [h1]
      rw [hh] at hS
      go_enter Try.func12, Try.ntmps12
      go_wp2_with (first | (go_at_call 22; refine hS.mono ?_; rintro e w' ⟨rfl, hw⟩; rw [hw]) | go_in)
      go_ret
      refine ⟨?_, rfl⟩
      rw [Lib.trimSuffix_hit s p h1 h2]
      rfl
  · have hh : Lib.hasSuffix s.data.toList p.data.toList = false := by rw [← Lib.hasSuffix_raw]; simp [h1]
    rw [hh] at hS
    go_enter Try.func12, Try.ntmps12
    go_wp2_with (first | (go_at_call 22; refine hS.mono ?_; rintro e w' ⟨rfl, hw⟩; rw [hw]) | go_in)
    go_ret
    refine ⟨?_, rfl⟩
    rw [Lib.trimSuffix_miss s p (by simp [h1])]
    rfl

end Go.Proofs.Qxb6001580a
