/-
  SEAT b6002457a. dirOf: the walk and the plain law; the walk of the law FnDirOfIdempotent.
-/
import Derived.Test.Qxb6002457aRows
import Derived.Test.Qxb6002457aShelf
import Derived.WalkKit
import Derived.WalkSpells
import Derived.WalkLawsBesides
import Derived.Lib.PathFns
namespace Go.Proofs.Qxb6002457a
open Go.RowKit

/-- What dirOf answers: the path up to and with its last slash; a full stop where there is none. -/
def dirL (l : List UInt8) : List UInt8 := if (Lib.Pa.split l).1 = [] then [46] else (Lib.Pa.split l).1
def dirB (s : ByteArray) : ByteArray := ⟨(dirL s.data.toList).toArray⟩

/-- THE PLAIN LAW. -/
theorem dirL_again (l : List UInt8) : dirL l ≠ [] ∧ dirL (dirL l) = dirL l := by
  unfold dirL
  split
  · exact ⟨by simp, by decide⟩
  · rename_i h
    refine ⟨h, ?_⟩
    have hs : (Lib.Pa.split (Lib.Pa.split l).1).1 = (Lib.Pa.split l).1 := by
      rcases Lib.Pa.lastIndexByte_spec l 47 with ⟨h1, _⟩ | ⟨i, h1, h2, h3⟩
      · exfalso
        apply h
        show l.take (Lib.Pa.lastIndexByte l 47 + 1).toNat = []
        rw [h1]
        rfl
      · have hi : i < l.length := by
          rcases Nat.lt_or_ge i l.length with h | h
          · exact h
          · rw [List.getElem?_eq_none h] at h2; simp at h2
        have hd : (Lib.Pa.split l).1 = l.take (i + 1) := by
          show l.take (Lib.Pa.lastIndexByte l 47 + 1).toNat = _
          rw [h1]
          congr 1
        rw [hd]
        show (l.take (i + 1)).take (Lib.Pa.lastIndexByte (l.take (i + 1)) 47 + 1).toNat = l.take (i + 1)
        have hlen : (l.take (i + 1)).length = i + 1 := by rw [List.length_take]; omega
        have e : Lib.Pa.lastIndexByte (l.take (i + 1)) 47 = i := by
          unfold Lib.Pa.lastIndexByte
          rw [hlen, Lib.Pa.lastIdx, if_pos (by rw [List.getElem?_take, if_pos (by omega)]; exact h2)]
        rw [e]
        exact List.take_of_length_le (by rw [hlen]; omega)
    rw [hs, if_neg h]

theorem dirL_length (l : List UInt8) : (dirL l).length ≤ l.length + 1 := by
  unfold dirL
  split
  · simp
  · show (l.take _).length ≤ _
    rw [List.length_take]
    omega

theorem dirB_again (s : ByteArray) : dirB (dirB s) = dirB s := by
  unfold dirB
  rw [(dirL_again s.data.toList).2]

theorem size_data (s : ByteArray) : s.data.toList.length = s.size := Array.length_toList

set_option maxHeartbeats 1000000 in
theorem dirOf_any (s : ByteArray) (w : World) (hs : s.size ≤ 9223372036854775807) :
    Calls Try.prog 10 #[.string s] w fun e w' => e = .returned (.string (dirB s)) ∧ ∃ n, w' = w.drewN n := by
  have hc := Try.filepath_Split s w hs
  by_cases h : (Lib.Pa.split s.data.toList).1 = []
  · have e : dirB s = ⟨#[46]⟩ := by unfold dirB dirL; rw [if_pos h]
    rw [e]
    rw [h] at hc
    generalize (⟨(Lib.Pa.split s.data.toList).2.toArray⟩ : ByteArray) = f at hc
    go_enter Try.func10, Try.ntmps10
    go_wp2_with (first | (go_at_call 23; refine hc.mono ?_; rintro e w' ⟨rfl, n, hw⟩) | go_in)
    go_ret
    exact ⟨rfl, n, rfl⟩
  · have e : dirB s = ⟨(Lib.Pa.split s.data.toList).1.toArray⟩ := by unfold dirB dirL; rw [if_neg h]
    rw [e]
    have hne : (⟨(Lib.Pa.split s.data.toList).1.toArray⟩ : ByteArray).toList.isEmpty = false := by
      rw [ByteArray.toList_eq]
      cases hd : (Lib.Pa.split s.data.toList).1 with
      | nil => exact absurd hd h
      | cons _ _ => rfl
    generalize (⟨(Lib.Pa.split s.data.toList).1.toArray⟩ : ByteArray) = d at hc hne ⊢
    generalize (⟨(Lib.Pa.split s.data.toList).2.toArray⟩ : ByteArray) = f at hc
    go_enter Try.func10, Try.ntmps10
    go_wp2_with (first | (go_at_call 23; refine hc.mono ?_; rintro e w' ⟨rfl, n, hw⟩) | go_in)
    go_ret
    exact ⟨rfl, n, rfl⟩

/-- A bool. -/
def IsB (e : Ending) : Prop := ∃ b, e = .returned (.bool b)

set_option maxHeartbeats 1000000 in
theorem plainPath_any (s : ByteArray) (w : World) (hs : s.size ≤ maxLen) :
    Calls Try.prog 9 #[.string s] w fun e w' => IsB e ∧ w' = w := by
  unfold maxLen at hs
  go_enter Try.func9, Try.ntmps9
  go_wp2
  go_loop [3] (fun i => ∃ k : Nat, k ≤ s.size ∧ i = .int .i64 k) (fun i => s.size - (intOf i).toNat)
  case atStart => exact ⟨0, Nat.zero_le _, rfl⟩
  case round =>
    obtain ⟨k, hk, rfl⟩ := hrel
    by_cases hlt : k < s.size
    · obtain ⟨x, hx⟩ : ∃ x : UInt8, s[k]'hlt = x := ⟨_, rfl⟩
      cases h1 : ((x.toNat : Int) == 92)
      · cases h2 : ((x.toNat : Int) == 58)
        · go_wp2
          go_round
          case rel => exact ⟨k + 1, by omega, by go_num⟩
          case measure => simp [intOf]; omega
        · go_wp2
          go_ret
          exact ⟨⟨_, rfl⟩, rfl⟩
      · go_wp2
        go_ret
        exact ⟨⟨_, rfl⟩, rfl⟩
    · obtain rfl : k = s.size := by omega
      by_cases h2 : 2 ≤ s.size
      · have h2' : decide ((2 : Int) ≤ (s.size : Int)) = true := decide_eq_true (by omega)
        obtain ⟨x, hx⟩ : ∃ x : UInt8, s[0]'(by omega) = x := ⟨_, rfl⟩
        obtain ⟨y, hy⟩ : ∃ y : UInt8, s[1]'(by omega) = y := ⟨_, rfl⟩
        cases h3 : ((x.toNat : Int) == 47)
        · go_wp2
          go_ret
          exact ⟨⟨_, rfl⟩, rfl⟩
        · cases h4 : ((y.toNat : Int) == 47)
          all_goals
            go_wp2
            go_ret
            exact ⟨⟨_, rfl⟩, rfl⟩
      · have h2' : decide ((2 : Int) ≤ (s.size : Int)) = false := decide_eq_false (by omega)
        go_wp2
        go_ret
        exact ⟨⟨_, rfl⟩, rfl⟩

set_option maxHeartbeats 400000 in
theorem bytes_any (s : ByteArray) (w : World) (hs : s.size ≤ maxLen) :
    Calls Try.prog 8 #[.string s] w fun e w' => e = .returned (.bool (decide (s.size ≤ 1048576))) ∧ w' = w := by
  unfold maxLen at hs
  by_cases h : s.size ≤ 1048576
  · rw [decide_eq_true h]
    go_enter Try.func8, Try.ntmps8
    go_wp2
    go_ret
    exact ⟨rfl, rfl⟩
  · rw [decide_eq_false h]
    go_enter Try.func8, Try.ntmps8
    go_wp2
    go_ret
    exact ⟨rfl, rfl⟩

set_option maxHeartbeats 1000000 in
theorem law_walk (s : ByteArray) (w : World) (hs : s.size ≤ maxLen) :
    Calls Try.prog 3 #[.string s] w fun e w' => e = .returned (.bool true) ∧ Below w.heap.size w w' := by
  have hb := bytes_any s w hs
  have hp := plainPath_any s w hs
  by_cases h : s.size ≤ 1048576
  · rw [decide_eq_true h] at hb
    have hl := dirL_length s.data.toList
    rw [size_data] at hl
    have hz : (dirB s).size ≤ 9223372036854775807 := by
      rw [← size_data]
      show (dirL s.data.toList).length ≤ _
      omega
    have hne : (dirB s).toList.isEmpty = false := by
      rw [ByteArray.toList_eq]
      show (dirL s.data.toList).isEmpty = false
      cases hd : dirL s.data.toList with
      | nil => exact absurd hd (dirL_again s.data.toList).1
      | cons _ _ => rfl
    have h1 := fun w => dirOf_any s w (by omega)
    have h2 := fun w => dirOf_any (dirB s) w hz
    rw [dirB_again] at h2
    generalize dirB s = d at h1 h2 hz hne
    have H1 : Hid (∀ w, Calls Try.prog 10 #[.string s] w fun e w' => e = .returned (.string d) ∧ ∃ n, w' = w.drewN n) := h1
    have H2 : Hid (∀ w, Calls Try.prog 10 #[.string d] w fun e w' => e = .returned (.string d) ∧ ∃ n, w' = w.drewN n) := h2
    clear h1 h2
    go_enter Try.func3, Try.ntmps3
    go_wp2_with fail
    refine hb.mono ?_
    rintro e w' ⟨rfl, rfl⟩
    go_wp2_with fail
    refine hp.mono ?_
    rintro e w' ⟨⟨b, rfl⟩, rfl⟩
    cases b
    · go_wp2
      go_ret
      exact ⟨rfl, Below.refl _ _⟩
    · go_wp2_with fail
      refine (H1.out _).mono ?_
      rintro e w1 ⟨rfl, n1, rfl⟩
      go_wp2_with fail
      refine (H2.out _).mono ?_
      rintro e w2 ⟨rfl, n2, rfl⟩
      go_wp2
      go_ret
      exact ⟨rfl, below_drewN (Below.refl _ _) _⟩
  · rw [decide_eq_false h] at hb
    go_enter Try.func3, Try.ntmps3
    go_wp2_with fail
    refine hb.mono ?_
    rintro e w' ⟨rfl, rfl⟩
    go_wp2
    go_ret
    exact ⟨rfl, Below.refl _ _⟩

end Go.Proofs.Qxb6002457a
