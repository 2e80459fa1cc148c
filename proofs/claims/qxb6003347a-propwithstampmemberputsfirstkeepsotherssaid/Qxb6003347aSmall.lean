/-
  SEAT b6003347a. Walks of the small functions over strings: spaces, trims, prefixes, commas.
-/
import Derived.Test.Qxb6003347aRows
import Derived.Test.Qxb6003347aLists
import Derived.WalkKit
import Derived.WalkSpells
import Derived.WalkLawsBesides
import Derived.Lib.Strings
import Derived.Lib.IndexBytes
import Derived.Laws.Strings3
import Derived.Deep.LoopGhost
import Derived.Deep.QuietTactic
import Derived.BigQuiet
namespace Go.Proofs.Qxb6003347a
open Go.RowKit

/-- A string out of its bytes. -/
def S (l : List UInt8) : ByteArray := ⟨l.toArray⟩
theorem S_data (l : List UInt8) : (S l).data.toList = l := rfl
theorem S_of (s : ByteArray) : S s.data.toList = s := Lib.mk_data s
theorem eq_S {s : ByteArray} {l : List UInt8} (h : s.data.toList = l) : s = S l := by rw [← h, S_of]
theorem S_size (l : List UInt8) : (S l).size = l.length := by rw [Lib.size_eq, S_data]
theorem sz (s : ByteArray) : s.data.toList.length = s.size := (Lib.size_eq s).symm
theorem at_list (s : ByteArray) (k : Nat) (h : k < s.size) : s.data.toList[k]? = some (s[k]'h) := Lib.data_getElem? s k h

def spB (n : Int) : Bool := n == 32 || n == 9
theorem spB_byte (b : UInt8) : spB (b.toNat : Int) = sp b := by
  have h : ∀ i : Fin 256, spB (i.val : Int) = sp (UInt8.ofNat i.val) := by decide +kernel
  have := h ⟨b.toNat, b.toNat_lt⟩
  simpa using this
theorem byte_ne {b : UInt8} {k : Nat} (h : b ≠ UInt8.ofNat k) : ((b.toNat : Int) == (k : Int)) = false := by
  rw [beq_eq_false_iff_ne]
  intro e
  apply h
  have : b.toNat = k := by omega
  rw [← this, UInt8.ofNat_toNat]

set_option maxHeartbeats 400000 in
theorem isListSpace_any (c : Int) (w : World) :
    Calls Try.prog 48 #[.int .u8 c] w fun e w' => e = .returned (.bool (spB c)) ∧ w' = w := by
  cases h : (c == 32)
  · have e : spB c = (c == 9) := by unfold spB; rw [h]; rfl
    rw [e]
    go_enter Try.func48, Try.ntmps48
    go_wp2
    go_ret
    exact ⟨rfl, rfl⟩
  · have e : spB c = true := by unfold spB; rw [h]; rfl
    rw [e]
    go_enter Try.func48, Try.ntmps48
    go_wp2
    go_ret
    exact ⟨rfl, rfl⟩

set_option maxHeartbeats 400000 in
theorem zzIsListSpace_any (c : Int) (w : World) :
    Calls Try.prog 36 #[.int .u8 c] w fun e w' => e = .returned (.bool (spB c)) ∧ w' = w := by
  cases h : (c == 32)
  · have e : spB c = (c == 9) := by unfold spB; rw [h]; rfl
    rw [e]
    go_enter Try.func36, Try.ntmps36
    go_wp2
    go_ret
    exact ⟨rfl, rfl⟩
  · have e : spB c = true := by unfold spB; rw [h]; rfl
    rw [e]
    go_enter Try.func36, Try.ntmps36
    go_wp2
    go_ret
    exact ⟨rfl, rfl⟩

/-- The last byte, and what is left without it. -/
theorem cut_last (s : ByteArray) (h : 0 < s.size) : s.data.toList = (s.extract 0 (s.size - 1)).data.toList ++ [s[s.size - 1]'(by omega)] := by
  rw [Lib.extract_data]
  simp only [List.drop_zero, Nat.sub_zero]
  have hl := sz s
  have h1 : s.size - 1 < s.data.toList.length := by omega
  have h2 := at_list s (s.size - 1) (by omega)
  rw [List.getElem?_eq_getElem h1] at h2
  rw [← Option.some.inj h2, ← List.take_succ_eq_append_getElem h1, List.take_of_length_le (by omega)]

theorem cut_first (s : ByteArray) (h : 0 < s.size) : s.data.toList = s[0]'h :: (s.extract 1 s.size).data.toList := by
  rw [Lib.extract_to_end]
  have h2 := at_list s 0 h
  cases hd : s.data.toList with
  | nil => rw [hd] at h2; simp at h2
  | cons a r => rw [hd] at h2; simp at h2; rw [h2]; rfl

set_option maxHeartbeats 1000000 in
theorem trimSpacesRight_any (s : ByteArray) (w : World) (hs : s.size ≤ maxLen) :
    Calls Try.prog 40 #[.string s] w fun e w' => e = .returned (.string (S (trimR s.data.toList))) ∧ w' = w := by
  unfold maxLen at hs
  go_enter Try.func40, Try.ntmps40
  go_wp2
  go_loop [0] (fun v => ∃ t : ByteArray, v = .string t ∧ t.size ≤ s.size ∧ Hid (trimR t.data.toList = trimR s.data.toList)) (fun v => match v with | .string t => t.size | _ => 0)
  case atStart => exact ⟨s, rfl, Nat.le_refl _, rfl⟩
  case round =>
    obtain ⟨t, rfl, ht, HT⟩ := hrel
    by_cases h0 : 0 < t.size
    · have h0' : (0 : Int) < (t.size : Int) := by omega
      have k1 : (0 : Int) ≤ (t.size : Int) - 1 := by omega
      have k2 : (t.size : Int) - 1 < (t.size : Int) := by omega
      have k3 : ((t.size : Int) - 1).toNat = t.size - 1 := by omega
      obtain ⟨x, hx⟩ : ∃ x : UInt8, t[t.size - 1]'(by omega) = x := ⟨_, rfl⟩
      have HC : Hid (t.data.toList = (t.extract 0 (t.size - 1)).data.toList ++ [x]) := by rw [← hx]; exact cut_last t h0
      cases hsp : sp x
      · have hb : spB (x.toNat : Int) = false := by rw [spB_byte]; exact hsp
        go_wp2_with (go_at_call 48; refine (isListSpace_any _ _).mono ?_; rintro e w' ⟨rfl, hw⟩; rw [hw, hb])
        go_ret
        refine ⟨?_, rfl⟩
        rw [← HT.out, HC.out, trimR_no hsp, ← HC.out, S_of]
        rfl
      · have hb : spB (x.toNat : Int) = true := by rw [spB_byte]; exact hsp
        go_wp2_with (go_at_call 48; refine (isListSpace_any _ _).mono ?_; rintro e w' ⟨rfl, hw⟩; rw [hw, hb])
        go_round
        case rel => exact ⟨t.extract 0 (t.size - 1), rfl, by rw [ByteArray.size_extract]; omega, by
          show trimR _ = _
          rw [← HT.out, HC.out, trimR_sp hsp]⟩
        case measure => simp; omega
    · have h0' : ¬ (0 : Int) < (t.size : Int) := by omega
      have hd : decide ((0 : Int) < (t.size : Int)) = false := decide_eq_false h0'
      have hnil : t.data.toList = [] := List.length_eq_zero_iff.1 (by rw [sz]; omega)
      have HN : Hid (t.data.toList = []) := hnil
      clear hnil
      go_wp2
      go_ret
      refine ⟨?_, rfl⟩
      rw [← HT.out, HN.out, trimR_nil, ← HN.out, S_of]
      rfl

set_option maxHeartbeats 1000000 in
theorem zzTrim_any (s : ByteArray) (w : World) (hs : s.size ≤ maxLen) :
    Calls Try.prog 27 #[.string s] w fun e w' => e = .returned (.string (S (trim s.data.toList))) ∧ w' = w := by
  unfold maxLen at hs
  go_enter Try.func27, Try.ntmps27
  go_wp2
  go_loop [0] (fun v => ∃ t : ByteArray, v = .string t ∧ t.size ≤ s.size ∧ Hid (trimL t.data.toList = trimL s.data.toList)) (fun v => match v with | .string t => t.size | _ => 0)
  case atStart => exact ⟨s, rfl, Nat.le_refl _, rfl⟩
  case round =>
    obtain ⟨t, rfl, ht, HT⟩ := hrel
    by_cases hgo : ∃ h0 : 0 < t.size, sp (t[0]'h0) = true
    · obtain ⟨h0, hsp⟩ := hgo
      have h0' : (0 : Int) < (t.size : Int) := by omega
      have h1' : (1 : Int) ≤ (t.size : Int) := by omega
      obtain ⟨x, hx⟩ : ∃ x : UInt8, t[0]'h0 = x := ⟨_, rfl⟩
      have HC : Hid (t.data.toList = x :: (t.extract 1 t.size).data.toList) := by rw [← hx]; exact cut_first t h0
      rw [hx] at hsp
      have hb : spB (x.toNat : Int) = true := by rw [spB_byte]; exact hsp
      go_wp2_with (go_at_call 36; refine (zzIsListSpace_any _ _).mono ?_; rintro e w' ⟨rfl, hw⟩; rw [hw, hb])
      go_round
      case rel => exact ⟨t.extract 1 t.size, rfl, by rw [ByteArray.size_extract]; omega, by
        show trimL _ = _
        rw [← HT.out, HC.out, trimL_sp hsp]⟩
      case measure => simp; omega
    · have HL : Hid (trimL s.data.toList = t.data.toList) := by
        show _ = _
        rw [← HT.out]
        by_cases h0 : 0 < t.size
        · have hsp : sp (t[0]'h0) = false := by
            cases h : sp (t[0]'h0)
            · rfl
            · exact absurd ⟨h0, h⟩ hgo
          rw [cut_first t h0, trimL_no hsp]
        · have : t.data.toList = [] := List.length_eq_zero_iff.1 (by rw [sz]; omega)
          rw [this, trimL_nil]
      have hstop : (decide ((0 : Int) < (t.size : Int)) = false ∧ ¬ (0 : Int) < (t.size : Int)) ∨ ((0 : Int) < (t.size : Int) ∧ ∃ (h0 : 0 < t.size) (x : UInt8), t[0]'h0 = x ∧ spB (x.toNat : Int) = false) := by
        by_cases h0 : 0 < t.size
        · refine .inr ⟨by omega, h0, _, rfl, ?_⟩
          rw [spB_byte]
          cases h : sp (t[0]'h0)
          · rfl
          · exact absurd ⟨h0, h⟩ hgo
        · exact .inl ⟨decide_eq_false (by omega), by omega⟩
      clear hgo
      rcases hstop with ⟨hd, hd'⟩ | ⟨h0', h0, x, hx, hb⟩
      all_goals
        go_wp2_with (go_at_call 36; refine (zzIsListSpace_any _ _).mono ?_; rintro e w' ⟨rfl, hw⟩; rw [hw, hb])
        go_loop [0] (fun v => ∃ r : ByteArray, v = .string r ∧ r.size ≤ s.size ∧ Hid (trimR r.data.toList = trim s.data.toList)) (fun v => match v with | .string r => r.size | _ => 0)
        case atStart => exact ⟨t, rfl, ht, by show _ = _; unfold trim; rw [HL.out]⟩
        case round =>
          obtain ⟨r, rfl, hr, HR⟩ := hrel
          clear HL HT
          by_cases hr0 : 0 < r.size
          · have hr0' : (0 : Int) < (r.size : Int) := by omega
            have k1 : (0 : Int) ≤ (r.size : Int) - 1 := by omega
            have k2 : (r.size : Int) - 1 < (r.size : Int) := by omega
            have k3 : ((r.size : Int) - 1).toNat = r.size - 1 := by omega
            obtain ⟨y, hy⟩ : ∃ y : UInt8, r[r.size - 1]'(by omega) = y := ⟨_, rfl⟩
            have HC : Hid (r.data.toList = (r.extract 0 (r.size - 1)).data.toList ++ [y]) := by rw [← hy]; exact cut_last r hr0
            cases hsp : sp y
            · have hb2 : spB (y.toNat : Int) = false := by rw [spB_byte]; exact hsp
              go_wp2_with (go_at_call 36; refine (zzIsListSpace_any _ _).mono ?_; rintro e w' ⟨rfl, hw⟩; rw [hw, hb2])
              go_ret
              refine ⟨?_, rfl⟩
              rw [← HR.out, HC.out, trimR_no hsp, ← HC.out, S_of]
              rfl
            · have hb2 : spB (y.toNat : Int) = true := by rw [spB_byte]; exact hsp
              go_wp2_with (go_at_call 36; refine (zzIsListSpace_any _ _).mono ?_; rintro e w' ⟨rfl, hw⟩; rw [hw, hb2])
              go_round
              case rel => exact ⟨r.extract 0 (r.size - 1), rfl, by rw [ByteArray.size_extract]; omega, by
                show trimR _ = _
                rw [← HR.out, HC.out, trimR_sp hsp]⟩
              case measure => simp; omega
          · have hd2 : decide ((0 : Int) < (r.size : Int)) = false := decide_eq_false (by omega)
            have HN : Hid (r.data.toList = []) := List.length_eq_zero_iff.1 (by rw [sz]; omega)
            go_wp2
            go_ret
            refine ⟨?_, rfl⟩
            rw [← HR.out, HN.out, trimR_nil, ← HN.out, S_of]
            rfl

end Go.Proofs.Qxb6003347a
