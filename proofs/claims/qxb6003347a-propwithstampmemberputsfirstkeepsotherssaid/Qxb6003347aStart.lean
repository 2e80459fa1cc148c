/-
  SEAT b6003347a. THE WALKS of memberStart: with the empty prefix, and with the stamp's key.
-/
import Derived.Test.Qxb6003347aStarts
import Derived.Test.Qxb6003347aShelf
import Derived.Test.Qxb6003347aSmall2
namespace Go.Proofs.Qxb6003347a
open Go.RowKit

theorem sep_byte (b : UInt8) : sep b = ((b.toNat : Int) == 44 || spB (b.toNat : Int)) := by
  unfold sep
  rw [spB_byte]
  congr 1
  rw [Bool.eq_iff_iff, beq_iff_eq, beq_iff_eq]
  constructor
  · rintro rfl; rfl
  · intro h
    have : b.toNat = (44 : UInt8).toNat := by
      have : (44 : UInt8).toNat = 44 := rfl
      omega
    exact UInt8.toNat_inj.1 this

theorem sep_run (l : List UInt8) (k : Nat) (b : UInt8) (hk : l[k]? = some b) (hb : sep b = false) (hlow : ∀ j c, j < k → l[j]? = some c → sep c = true) : ms0 l = k := by
  induction l generalizing k with
  | nil => simp at hk
  | cons a r ih =>
    cases k with
    | zero =>
      simp at hk
      subst hk
      unfold ms0
      simp [hb]
    | succ k =>
      have ha : sep a = true := hlow 0 a (by omega) rfl
      have := ih k (by simpa using hk) (fun j c hj hc => hlow (j + 1) c (by omega) (by simpa using hc))
      unfold ms0 at this ⊢
      rw [List.dropWhile_cons, if_pos ha, List.takeWhile_cons, if_pos ha]
      split
      · rename_i h
        rw [if_pos h] at this
        omega
      · rename_i h
        rw [if_neg h] at this
        rw [List.length_cons]
        omega

theorem sep_all (l : List UInt8) (hlow : ∀ (j : Nat) (c : UInt8), l[j]? = some c → sep c = true) : ms0 l = -1 := by
  have : l.dropWhile sep = [] := by
    induction l with
    | nil => rfl
    | cons a r ih =>
      rw [List.dropWhile_cons, if_pos (hlow 0 a rfl)]
      exact ih fun j c hc => hlow (j + 1) c (by simpa using hc)
  unfold ms0
  rw [if_pos this]

set_option maxHeartbeats 1000000 in
/-- With the empty prefix: the first byte that is no separator. -/
theorem memberStart_none (s : ByteArray) (w : World) (hs : s.size ≤ maxLen) :
    Calls Try.prog 38 #[.string s, .string ⟨#[]⟩] w fun e w' => e = .returned (.int .i64 (ms0 s.data.toList)) ∧ w' = w := by
  unfold maxLen at hs
  go_enter Try.func38, Try.ntmps38
  go_wp2
  go_loop [5] (fun v => ∃ k : Nat, v = .int .i64 k ∧ k ≤ s.size ∧ Hid (∀ j c, j < k → s.data.toList[j]? = some c → sep c = true)) (fun v => match v with | .int _ k => s.size - k.toNat | _ => 0)
  case atStart => exact ⟨0, rfl, Nat.zero_le _, fun j c hj => absurd hj (Nat.not_lt_zero _)⟩
  case round =>
    obtain ⟨k, rfl, hk, HL⟩ := hrel
    by_cases h0 : k < s.size
    · have h0' : (k : Int) < (s.size : Int) := by omega
      have k1 : (0 : Int) ≤ (k : Int) := by omega
      obtain ⟨x, hx⟩ : ∃ x : UInt8, s[k]'h0 = x := ⟨_, rfl⟩
      have HX : Hid (s.data.toList[k]? = some x) := by rw [← hx]; exact at_list s k h0
      have hsep := sep_byte x
      cases hc : ((x.toNat : Int) == 44)
      · have hne : ¬ (x.toNat : Int) = 44 := by simpa using hc
        have hne' : ((x.toNat : Int) != 44) = true := by simpa using hne
        cases hb : spB (x.toNat : Int)
        · rw [hc, hb] at hsep
          go_wp2_with (go_at_call 48; refine (isListSpace_any _ _).mono ?_; rintro e w' ⟨rfl, hw⟩; rw [hw, hb])
          go_ret
          refine ⟨?_, rfl⟩
          rw [sep_run _ k x HX.out hsep HL.out]
          rfl
        · rw [hc, hb] at hsep
          go_wp2_with (go_at_call 48; refine (isListSpace_any _ _).mono ?_; rintro e w' ⟨rfl, hw⟩; rw [hw, hb])
          go_round
          case rel => exact ⟨k + 1, rfl, by omega, fun j c hj hcj => by
            rcases Nat.lt_or_eq_of_le (Nat.le_of_lt_succ hj) with h | rfl
            · exact HL.out j c h hcj
            · rw [HX.out] at hcj
              cases hcj
              exact hsep⟩
          case measure => simp; omega
      · rw [hc] at hsep
        have hne : (x.toNat : Int) = 44 := by simpa using hc
        have hne' : ((x.toNat : Int) != 44) = false := by rw [hne]; rfl
        go_wp2_with (go_at_call 48; refine (isListSpace_any _ _).mono ?_; rintro e w' ⟨rfl, hw⟩; rw [hw])
        go_round
        case rel => exact ⟨k + 1, rfl, by omega, fun j c hj hcj => by
          rcases Nat.lt_or_eq_of_le (Nat.le_of_lt_succ hj) with h | rfl
          · exact HL.out j c h hcj
          · rw [HX.out] at hcj
            cases hcj
            exact hsep⟩
        case measure => simp; omega
    · have hd : decide ((k : Int) < (s.size : Int)) = false := decide_eq_false (by omega)
      go_wp2
      go_ret
      refine ⟨?_, rfl⟩
      rw [sep_all _ fun j c hj => HL.out j c (by have := (List.getElem?_eq_some_iff.1 hj).1; rw [sz] at this; omega) hj]
      rfl

/-- The stamp's key, as the program's text has it. -/
def SPv : ByteArray := ⟨#[116, 97, 108, 108, 121, 99, 108, 111, 99, 107, 61]⟩
theorem SPv_data : SPv.data.toList = SP := rfl

theorem startB_occ {f : List UInt8} {i : Nat} (h : startB f i = true) : SP.isPrefixOf (f.drop i) = true := by
  unfold startB at h
  simp only [Bool.and_eq_true] at h
  exact h.1

set_option maxHeartbeats 2000000 in
/-- With the stamp's key: the first place at which a stamp member begins. -/
theorem memberStart_key (s : ByteArray) (m : Int) (w : World) (hs : s.size < 4294967281) (hm : w.cell? ⟨0, 0, none⟩ = some (.int .i64 m)) :
    Calls Try.prog 38 #[.string s, .string ⟨#[116, 97, 108, 108, 121, 99, 108, 111, 99, 107, 61]⟩] w fun e w' => e = .returned (.int .i64 (msP s.data.toList)) ∧ w' = w := by
  have hml : s.size ≤ 2 ^ 63 - 1 := by omega
  go_enter Try.func38, Try.ntmps38
  go_wp2
  go_loop [7] (fun v => ∃ k : Nat, v = .int .i64 k ∧ k ≤ s.size ∧ Hid (∀ j, j < k → startB s.data.toList j = false)) (fun v => match v with | .int _ k => s.size - k.toNat | _ => 0)
  case atStart => exact ⟨0, rfl, Nat.zero_le _, fun j hj => absurd hj (Nat.not_lt_zero _)⟩
  case round =>
    obtain ⟨k, rfl, hk, HL⟩ := hrel
    have k1 : (0 : Int) ≤ (k : Int) := by omega
    have k2 : (k : Int) ≤ (s.size : Int) := by omega
    have hes : (s.extract k s.size).size < 4294967281 := by rw [ByteArray.size_extract]; omega
    have hed : (s.extract k s.size).data.toList = s.data.toList.drop k := Lib.extract_to_end s k
    have hI := Try.strings_Index (s.extract k s.size) ⟨#[116, 97, 108, 108, 121, 99, 108, 111, 99, 107, 61]⟩ m w hes hm
    rw [hed] at hI
    rcases Lib.index_spec (s.data.toList.drop k) SP with ⟨h1, h2⟩ | ⟨i, h1, h2, h3, h4⟩
    · have hI1 : Calls Try.prog 49 #[.string (s.extract k s.size), .string ⟨#[116, 97, 108, 108, 121, 99, 108, 111, 99, 107, 61]⟩] w fun e w' => e = .returned (.int .i64 (-1)) ∧ w' = w := hI.mono fun e w' h => ⟨h.1.trans (congrArg (fun z => Ending.returned (.int .i64 z)) h1), h.2⟩
      clear hI hed
      have HR : Hid (msP s.data.toList = -1) := by
        refine msP_none fun i hi => ?_
        by_cases hik : i < k
        · exact HL.out i hik
        · have := h2 (i - k) (by rw [List.length_drop]; omega)
          unfold Lib.occAt at this
          rw [List.drop_drop, show k + (i - k) = i from by omega] at this
          unfold startB
          rw [this, Bool.false_and]
      clear h1 h2
      go_wp2_with (go_at_call 49; refine hI1.mono ?_; rintro e w' ⟨rfl, hw⟩; rw [hw])
      go_ret
      refine ⟨?_, rfl⟩
      rw [HR.out]
      rfl
    · have hI1 : Calls Try.prog 49 #[.string (s.extract k s.size), .string ⟨#[116, 97, 108, 108, 121, 99, 108, 111, 99, 107, 61]⟩] w fun e w' => e = .returned (.int .i64 (i : Int)) ∧ w' = w := hI.mono fun e w' h => ⟨h.1.trans (congrArg (fun z => Ending.returned (.int .i64 z)) h1), h.2⟩
      have hik : i + k < s.size := by
        unfold Lib.occAt at h3
        rw [List.drop_drop, List.isPrefixOf_iff_prefix] at h3
        have := h3.length_le
        rw [List.length_drop, sz] at this
        have : SP.length = 11 := rfl
        omega
      have HN : Hid (∀ j, j < i + k → startB s.data.toList j = false) := fun j hj => by
        by_cases hjk : j < k
        · exact HL.out j hjk
        · have := h4 (j - k) (by omega)
          unfold Lib.occAt at this
          rw [List.drop_drop, show k + (j - k) = j from by omega] at this
          unfold startB
          rw [this, Bool.false_and]
      have H3 : Hid (SP.isPrefixOf (s.data.toList.drop (i + k)) = true) := by
        show _ = _
        unfold Lib.occAt at h3
        rw [List.drop_drop, Nat.add_comm k i] at h3
        exact h3
      clear hI hed h1 h2 h3 h4
      have j1 : wrap64 ((i : Int) + (k : Int)) = (i : Int) + (k : Int) := by unfold wrap64; omega
      have j2 : (0 : Int) ≤ (i : Int) + (k : Int) := by omega
      have j3 : (i : Int) + (k : Int) ≤ (s.size : Int) := by omega
      have j4 : ((i : Int) + (k : Int)).toNat = i + k := by omega
      have hz : (s.extract 0 (i + k)).size ≤ maxLen := by rw [ByteArray.size_extract]; unfold maxLen; omega
      have hT := trimSpacesRight_any (s.extract 0 (i + k)) w hz
      have hx0 : (s.extract 0 (i + k)).data.toList = s.data.toList.take (i + k) := by rw [Lib.extract_data, List.drop_zero, Nat.sub_zero]
      rw [hx0] at hT
      clear hx0
      obtain ⟨b, hb⟩ : ∃ b, S (trimR (s.data.toList.take (i + k))) = b := ⟨_, rfl⟩
      rw [hb] at hT
      have HB : Hid (trimR (s.data.toList.take (i + k)) = b.data.toList) := by show _ = _; rw [← hb, S_data]
      have hbz : b.size ≤ 2 ^ 63 - 1 := by
        rw [← sz, ← HB.out]
        have := (trimR_prefix (s.data.toList.take (i + k))).length_le
        rw [List.length_take] at this
        omega
      clear hb
      by_cases h0 : b.size = 0
      · have hbe : b = ⟨#[]⟩ := by
          have : b.data.toList = [] := List.length_eq_zero_iff.1 (by rw [sz]; exact h0)
          rw [← S_of b, this]; rfl
        have HM : Hid (msP s.data.toList = ((i + k : Nat) : Int)) := by
          refine msP_some (by rw [sz]; omega) ?_ HN.out
          unfold startB
          rw [H3.out, HB.out, hbe]
          rfl
        subst hbe
        go_wp2_with first | (go_at_call 49; refine hI1.mono ?_; clear hI1; rintro e w' ⟨rfl, hw⟩; rw [hw]; clear hw) | (go_at_call 40; refine hT.mono ?_; clear hT; rintro e w' ⟨rfl, hw⟩; rw [hw]; clear hw)
        go_ret
        refine ⟨?_, rfl⟩
        rw [HM.out]
        rfl
      · have hb0 : b.toList.isEmpty = false := by
          rw [Lib.toList_data, List.isEmpty_eq_false_iff]
          intro e
          exact h0 (by rw [← sz, e]; rfl)
        have l0 : (0 : Int) ≤ (b.size : Int) - 1 := by omega
        have l1 : (b.size : Int) - 1 < (b.size : Int) := by omega
        have l2 : ((b.size : Int) - 1).toNat = b.size - 1 := by omega
        obtain ⟨x, hx⟩ : ∃ x : UInt8, b[b.size - 1]'(by omega) = x := ⟨_, rfl⟩
        have HC : Hid (b.data.toList.getLast? = some x) := by
          show _ = _
          rw [cut_last b (by omega), hx]
          simp
        cases hc : ((x.toNat : Int) == 44)
        · have hne : ¬ (x.toNat : Int) = 44 := by simpa using hc
          have HF : Hid (startB s.data.toList (i + k) = false) := by
            show _ = _
            unfold startB
            rw [H3.out, HB.out, HC.out]
            have e1 : b.data.toList ≠ [] := fun e => h0 (by rw [← sz, e]; rfl)
            have e2 : ¬ some x = some (44 : UInt8) := by
              intro e
              cases e
              exact hne rfl
            rw [decide_eq_false e1, decide_eq_false e2]
            rfl
          have hs2 : s.size + 1 ≤ 2 ^ 63 - 1 := by omega
          clear hs hes hm hz hml
          have j5 : wrap64 ((i : Int) + (k : Int) + 1) = (i : Int) + (k : Int) + 1 := by unfold wrap64; omega
          go_wp2_with first | (go_at_call 49; refine hI1.mono ?_; clear hI1; rintro e w' ⟨rfl, hw⟩; rw [hw]; clear hw) | (go_at_call 40; refine hT.mono ?_; clear hT; rintro e w' ⟨rfl, hw⟩; rw [hw]; clear hw)
          go_round
          case rel => exact ⟨i + k + 1, rfl, by omega, fun j hj => by
            rcases Nat.lt_or_eq_of_le (Nat.le_of_lt_succ hj) with h | rfl
            · exact HN.out j h
            · exact HF.out⟩
          case measure => simp; omega
        · have hxe : x = 44 := by
            have : (x.toNat : Int) = 44 := by simpa using hc
            have h' : x.toNat = (44 : UInt8).toNat := by
              have : (44 : UInt8).toNat = 44 := rfl
              omega
            exact UInt8.toNat_inj.1 h'
          have HM : Hid (msP s.data.toList = ((i + k : Nat) : Int)) := by
            refine msP_some (by rw [sz]; omega) ?_ HN.out
            unfold startB
            rw [H3.out, HB.out, HC.out, hxe]
            simp
          have hx44 : (x.toNat : Int) = 44 := by rw [hxe]; rfl
          clear hs hes hm hz
          go_wp2_with first | (go_at_call 49; refine hI1.mono ?_; clear hI1; rintro e w' ⟨rfl, hw⟩; rw [hw]; clear hw) | (go_at_call 40; refine hT.mono ?_; clear hT; rintro e w' ⟨rfl, hw⟩; rw [hw]; clear hw)
          go_ret
          refine ⟨?_, rfl⟩
          rw [HM.out]
          rfl

end Go.Proofs.Qxb6003347a
