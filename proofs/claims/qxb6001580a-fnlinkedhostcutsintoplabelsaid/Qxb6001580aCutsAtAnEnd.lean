/-
  SEAT b6001580a. THE WALK of the law FnLinkedHostCutsAtAnEnd.
-/
import Derived.Test.Qxb6001580aHost
namespace Go.Proofs.Qxb6001580a
open Go.RowKit

theorem heB_byte (b : UInt8) : heB (b.toNat : Int) = he.contains b := by
  have h : ∀ i : Fin 256, heB (i.val : Int) = he.contains (UInt8.ofNat i.val) := by decide +kernel
  have := h ⟨b.toNat, b.toNat_lt⟩
  simpa using this
theorem teB_byte (b : UInt8) (h1 : he.contains b = false) (h2 : ae.contains b = true) : teB (b.toNat : Int) = true := by
  have h : ∀ i : Fin 256, he.contains (UInt8.ofNat i.val) = false → ae.contains (UInt8.ofNat i.val) = true → teB (i.val : Int) = true := by decide +kernel
  have := h ⟨b.toNat, b.toNat_lt⟩ (by rw [UInt8.ofNat_toNat]; exact h1) (by rw [UInt8.ofNat_toNat]; exact h2)
  exact this

set_option maxHeartbeats 400000 in
theorem law1_big (s : ByteArray) (w : World) (hs : s.size ≤ maxLen) (h : ¬ s.size ≤ 1048576) :
    Calls Try.prog 3 #[.string s] w fun e w' => e = .returned (.bool true) ∧ Below w.heap.size w w' := by
  have hb := bytes1_any s w hs
  rw [decide_eq_false h] at hb
  go_enter Try.func3, Try.ntmps3
  go_wp2_with (go_at_call 5; refine hb.mono ?_; rintro e w' ⟨rfl, hw⟩; rw [hw])
  go_ret
  exact ⟨rfl, Below.refl _ _⟩

set_option maxHeartbeats 400000 in
theorem law1_whole (s : ByteArray) (w : World) (h : s.size ≤ 1048576) (hc : cutLen s.data.toList = s.size) :
    Calls Try.prog 3 #[.string s] w fun e w' => e = .returned (.bool true) ∧ Below w.heap.size w w' := by
  have hb := bytes1_any s w (by unfold maxLen; omega)
  rw [decide_eq_true h] at hb
  have hh := zzLinkedHost_any s w (by omega)
  have hx := extract_whole s
  rw [hc, hx] at hh
  clear hc
  go_enter Try.func3, Try.ntmps3
  go_wp2_with (first
    | (go_at_call 5; refine hb.mono ?_; rintro e w' ⟨rfl, hw⟩; rw [hw])
    | (go_at_call 6; refine hh.mono ?_; rintro e w' ⟨rfl, hw⟩))
  go_ret
  exact ⟨rfl, hw⟩

set_option maxHeartbeats 1000000 in
theorem law1_cut (s r : ByteArray) (n : Nat) (w : World) (h : s.size ≤ 1048576) (hn : n < s.size) (hr : s.extract 0 n = r) (hrs : r.size = n)
    (hh : Calls Try.prog 6 #[.string s] w fun e w' => e = .returned (.string r) ∧ Below w.heap.size w w')
    (h0 : ((s[0]'(by omega)).toNat == 91) = false) (hno : ∀ i (hi : i < r.size), heB ((r[i]'hi).toNat : Int) = false)
    (y : UInt8) (hy : s[n]'hn = y) (hend : heB (y.toNat : Int) = true ∨ heB (y.toNat : Int) = false ∧ teB (y.toNat : Int) = true) (he1 : r.toList.isEmpty = false) (he2 : (r.toList == [46]) = false) :
    Calls Try.prog 3 #[.string s] w fun e w' => e = .returned (.bool true) ∧ Below w.heap.size w w' := by
  have hb := bytes1_any s w (by unfold maxLen; omega)
  rw [decide_eq_true h] at hb
  have h0' : (((s[0]'(by omega)).toNat : Int) == 91) = false := by
    rw [beq_eq_false_iff_ne] at h0 ⊢
    omega
  clear h0
  have HN : Hid (∀ i (hi : i < r.size), heB ((r[i]'hi).toNat : Int) = false) := hno
  clear hno
  go_enter Try.func3, Try.ntmps3
  go_wp2_with (first
    | (go_at_call 5; refine hb.mono ?_; rintro e w' ⟨rfl, hw⟩; rw [hw])
    | (go_at_call 6; refine hh.mono ?_; rintro e w1 ⟨rfl, hw1⟩))
  go_loop [4] (fun i => ∃ k : Nat, k ≤ n ∧ i = .int .i64 k) (fun i => n - (intOf i).toNat)
  case atStart => exact ⟨0, Nat.zero_le _, rfl⟩
  case round =>
    obtain ⟨k, hk, rfl⟩ := hrel
    by_cases hlt : k < n
    · have hkr : k < r.size := by omega
      have hki : (k : Int) < (n : Int) := by omega
      obtain ⟨x, hx⟩ : ∃ x : UInt8, r[k]'hkr = x := ⟨_, rfl⟩
      have hxe : heB (x.toNat : Int) = false := by rw [← hx]; exact HN.out k hkr
      go_wp2_with (go_at_call 7; refine (isHostEnd_any _ _).mono ?_; rintro e w' ⟨rfl, hw⟩; rw [hw, hxe])
      go_round
      case rel => exact ⟨k + 1, by omega, by go_num⟩
      case measure => simp [intOf]; omega
    · obtain rfl : k = n := by omega
      have hki : ¬ (k : Int) < (k : Int) := by omega
      rcases hend with hA | ⟨hA, hB⟩
      · go_wp2_with (go_at_call 7; refine (isHostEnd_any _ _).mono ?_; rintro e w' ⟨rfl, hw⟩; rw [hw, hA])
        go_ret
        exact ⟨rfl, hw1⟩
      · go_wp2_with (first
          | (go_at_call 7; refine (isHostEnd_any _ _).mono ?_; rintro e w' ⟨rfl, hw⟩; rw [hw, hA])
          | (go_at_call 8; refine (isTopLabelEnd_any _ _).mono ?_; rintro e w' ⟨rfl, hw⟩; rw [hw, hB]))
        go_ret
        exact ⟨rfl, hw1⟩

theorem law1_walk (s : ByteArray) (w : World) (hs : s.size ≤ maxLen) :
    Calls Try.prog 3 #[.string s] w fun e w' => e = .returned (.bool true) ∧ Below w.heap.size w w' := by
  by_cases h : s.size ≤ 1048576
  · rcases cut_law s.data.toList with hc | ⟨h1, h2, h3, ⟨b, h4, h5⟩, h6, h7⟩
    · exact law1_whole s w h (by rw [hc, ← Lib.size_eq])
    · rw [← Lib.size_eq] at h1
      have tk : (s.extract 0 (cutLen s.data.toList)).data.toList = s.data.toList.take (cutLen s.data.toList) := by rw [Lib.extract_data]; simp
      have hsz : (s.extract 0 (cutLen s.data.toList)).size = cutLen s.data.toList := by rw [ByteArray.size_extract]; omega
      have hy : s[cutLen s.data.toList]'h1 = b := by
        have := at_list s (cutLen s.data.toList) h1
        rw [h4] at this
        exact (Option.some.inj this).symm
      refine law1_cut s (s.extract 0 (cutLen s.data.toList)) (cutLen s.data.toList) w h h1 rfl hsz (zzLinkedHost_any s w (by omega)) ?_ ?_ b hy ?_ ?_ ?_
      · have hl : s.data.toList[0]? = some (s[0]'(by omega)) := at_list s 0 (by omega)
        generalize s[0]'(by omega) = x at hl
        cases hd : s.data.toList with
        | nil => rw [hd] at hl; simp at hl
        | cons a l =>
          rw [hd] at hl h2
          simp at hl
          subst hl
          rw [beq_eq_false_iff_ne]
          intro e
          have : a = 91 := UInt8.toNat_inj.1 (by simpa using e)
          subst this
          simp [Lib.hasPrefix] at h2
      · intro i hi
        rw [heB_byte]
        have hl := at_list (s.extract 0 (cutLen s.data.toList)) i hi
        rw [tk, List.getElem?_take, if_pos (by omega)] at hl
        exact h3 i _ (by omega) hl
      · rw [heB_byte]
        cases hb : he.contains b
        · exact .inr ⟨rfl, teB_byte b hb h5⟩
        · exact .inl rfl
      · rw [Lib.toList_data, tk]
        cases hd : s.data.toList.take (cutLen s.data.toList) with
        | nil => exact absurd hd h6
        | cons _ _ => rfl
      · rw [Lib.toList_data, tk]
        exact beq_eq_false_iff_ne.2 h7
  · exact law1_big s w hs h

end Go.Proofs.Qxb6001580a
