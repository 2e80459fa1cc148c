/-
  SEAT b6001580a. THE WALK of the law FnLinkedHostCutsInTopLabel.
-/
import Derived.Test.Qxb6001580aCutsAtAnEnd
import Derived.Test.Qxb6001580aPlain2
namespace Go.Proofs.Qxb6001580a
open Go.RowKit

set_option maxHeartbeats 400000 in
theorem bytes2_any (s t : ByteArray) (w : World) (hs : s.size ≤ maxLen) (ht : t.size ≤ maxLen) :
    Calls Try.prog 9 #[.string s, .string t] w fun e w' => e = .returned (.bool (decide (s.size + t.size ≤ 1048576))) ∧ w' = w := by
  unfold maxLen at hs ht
  by_cases h1 : s.size ≤ 1048576
  · by_cases h2 : t.size ≤ 1048576
    · by_cases h3 : s.size + t.size ≤ 1048576
      · rw [decide_eq_true h3]
        go_enter Try.func9, Try.ntmps9
        go_wp2
        go_ret
        exact ⟨rfl, rfl⟩
      · rw [decide_eq_false h3]
        go_enter Try.func9, Try.ntmps9
        go_wp2
        go_ret
        exact ⟨rfl, rfl⟩
    · rw [decide_eq_false (by omega)]
      go_enter Try.func9, Try.ntmps9
      go_wp2
      go_ret
      exact ⟨rfl, rfl⟩
  · rw [decide_eq_false (by omega)]
    go_enter Try.func9, Try.ntmps9
    go_wp2
    go_ret
    exact ⟨rfl, rfl⟩

theorem teB_not (b : UInt8) (h2 : ae.contains b = false) : teB (b.toNat : Int) = false := by
  have h : ∀ i : Fin 256, ae.contains (UInt8.ofNat i.val) = false → teB (i.val : Int) = false := by decide +kernel
  have := h ⟨b.toNat, b.toNat_lt⟩ (by rw [UInt8.ofNat_toNat]; exact h2)
  exact this

set_option maxHeartbeats 400000 in
theorem law2_big (s t : ByteArray) (w : World) (hs : s.size ≤ maxLen) (ht : t.size ≤ maxLen) (h : ¬ s.size + t.size ≤ 1048576) :
    Calls Try.prog 4 #[.string s, .string t] w fun e w' => e = .returned (.bool true) ∧ Below w.heap.size w w' := by
  have hb := bytes2_any s t w hs ht
  rw [decide_eq_false h] at hb
  go_enter Try.func4, Try.ntmps4
  go_wp2_with (go_at_call 9; refine hb.mono ?_; rintro e w' ⟨rfl, hw⟩; rw [hw])
  go_ret
  exact ⟨rfl, Below.refl _ _⟩

set_option maxHeartbeats 400000 in
theorem law2_big1 (s t : ByteArray) (w : World) (h : s.size + t.size ≤ 1048576) (h1 : 524288 < s.size) :
    Calls Try.prog 4 #[.string s, .string t] w fun e w' => e = .returned (.bool true) ∧ Below w.heap.size w w' := by
  have hb := bytes2_any s t w (by unfold maxLen; omega) (by unfold maxLen; omega)
  rw [decide_eq_true h] at hb
  go_enter Try.func4, Try.ntmps4
  go_wp2_with (go_at_call 9; refine hb.mono ?_; rintro e w' ⟨rfl, hw⟩; rw [hw])
  go_ret
  exact ⟨rfl, Below.refl _ _⟩

set_option maxHeartbeats 400000 in
theorem law2_big2 (s t : ByteArray) (w : World) (h : s.size + t.size ≤ 1048576) (h1 : ¬ 524288 < s.size) (h2 : 524288 < t.size) :
    Calls Try.prog 4 #[.string s, .string t] w fun e w' => e = .returned (.bool true) ∧ Below w.heap.size w w' := by
  have hb := bytes2_any s t w (by unfold maxLen; omega) (by unfold maxLen; omega)
  rw [decide_eq_true h] at hb
  go_enter Try.func4, Try.ntmps4
  go_wp2_with (go_at_call 9; refine hb.mono ?_; rintro e w' ⟨rfl, hw⟩; rw [hw])
  go_ret
  exact ⟨rfl, Below.refl _ _⟩

set_option maxHeartbeats 400000 in
theorem law2_empty (s t : ByteArray) (w : World) (h1 : ¬ 524288 < s.size) (h2 : ¬ 524288 < t.size) (h3 : ((s.size : Int) == 0) = true) :
    Calls Try.prog 4 #[.string s, .string t] w fun e w' => e = .returned (.bool true) ∧ Below w.heap.size w w' := by
  have hb := bytes2_any s t w (by unfold maxLen; omega) (by unfold maxLen; omega)
  rw [decide_eq_true (by omega)] at hb
  go_enter Try.func4, Try.ntmps4
  go_wp2_with (go_at_call 9; refine hb.mono ?_; rintro e w' ⟨rfl, hw⟩; rw [hw])
  go_ret
  exact ⟨rfl, Below.refl _ _⟩

set_option maxHeartbeats 400000 in
theorem law2_bracket (s t : ByteArray) (w : World) (h1 : ¬ 524288 < s.size) (h2 : ¬ 524288 < t.size) (h3 : ((s.size : Int) == 0) = false) (h0 : 0 < s.size) (h4 : (((s[0]'h0).toNat : Int) == 91) = true) :
    Calls Try.prog 4 #[.string s, .string t] w fun e w' => e = .returned (.bool true) ∧ Below w.heap.size w w' := by
  have hb := bytes2_any s t w (by unfold maxLen; omega) (by unfold maxLen; omega)
  rw [decide_eq_true (by omega)] at hb
  go_enter Try.func4, Try.ntmps4
  go_wp2_with (go_at_call 9; refine hb.mono ?_; rintro e w' ⟨rfl, hw⟩; rw [hw])
  go_ret
  exact ⟨rfl, Below.refl _ _⟩

set_option maxHeartbeats 1000000 in
theorem law2_main (s t : ByteArray) (w : World) (h1 : ¬ 524288 < s.size) (h2 : ¬ 524288 < t.size) (h3 : ((s.size : Int) == 0) = false) (h0 : 0 < s.size) (h4 : (((s[0]'h0).toNat : Int) == 91) = false)
    (hfin : ∀ m, m < t.size → Lib.NoAny s.data.toList he s.size → (∀ j : Nat, t.data.toList[j]? ≠ some 46) → Lib.NoAny t.data.toList ae m → (∃ b, t.data.toList[m]? = some b ∧ ae.contains b = true) → ∀ w,
      Calls Try.prog 6 #[.string (s ++ ⟨#[46]⟩ ++ t)] w fun e w' => e = .returned (.string (s ++ ⟨#[46]⟩ ++ t.extract 0 m)) ∧ Below w.heap.size w w') :
    Calls Try.prog 4 #[.string s, .string t] w fun e w' => e = .returned (.bool true) ∧ Below w.heap.size w w' := by
  have hb := bytes2_any s t w (by unfold maxLen; omega) (by unfold maxLen; omega)
  rw [decide_eq_true (by omega)] at hb
  have HF : Hid (∀ m, m < t.size → Lib.NoAny s.data.toList he s.size → (∀ j : Nat, t.data.toList[j]? ≠ some 46) → Lib.NoAny t.data.toList ae m → (∃ b, t.data.toList[m]? = some b ∧ ae.contains b = true) → ∀ w,
      Calls Try.prog 6 #[.string (s ++ ⟨#[46]⟩ ++ t)] w fun e w' => e = .returned (.string (s ++ ⟨#[46]⟩ ++ t.extract 0 m)) ∧ Below w.heap.size w w') := hfin
  clear hfin
  go_enter Try.func4, Try.ntmps4
  go_wp2_with (go_at_call 9; refine hb.mono ?_; rintro e w' ⟨rfl, hw⟩; rw [hw])
  go_loop [5] (fun i => ∃ k : Nat, k ≤ s.size ∧ i = .int .i64 k ∧ Hid (Lib.NoAny s.data.toList he k)) (fun i => s.size - (intOf i).toNat)
  case atStart => exact ⟨0, Nat.zero_le _, rfl, Lib.NoAny.zero _ _⟩
  case round =>
    obtain ⟨k, hk, rfl, HN⟩ := hrel
    by_cases hlt : k < s.size
    · obtain ⟨x, hx⟩ : ∃ x : UInt8, s[k]'hlt = x := ⟨_, rfl⟩
      have HX : Hid (s.data.toList[k]? = some x) := by rw [← hx]; exact at_list s k hlt
      cases hxe : he.contains x
      · have hxe' : heB (x.toNat : Int) = false := by rw [heB_byte]; exact hxe
        go_wp2_with (go_at_call 7; refine (isHostEnd_any _ _).mono ?_; rintro e w' ⟨rfl, hw⟩; rw [hw, hxe'])
        go_round
        case rel => exact ⟨k + 1, by omega, by go_num, HN.out.succ HX.out hxe⟩
        case measure => simp [intOf]; omega
      · have hxe' : heB (x.toNat : Int) = true := by rw [heB_byte]; exact hxe
        go_wp2_with (go_at_call 7; refine (isHostEnd_any _ _).mono ?_; rintro e w' ⟨rfl, hw⟩; rw [hw, hxe'])
        go_ret
        exact ⟨rfl, Below.refl _ _⟩
    · obtain rfl : k = s.size := by omega
      go_wp2
      go_loop [6, 7] (fun j i => ∃ k : Nat, k ≤ t.size ∧ i = .int .i64 k ∧ Hid (∀ q : Nat, q < k → t.data.toList[q]? ≠ some 46) ∧
          (j = .int .i64 (-1) ∧ Hid (Lib.NoAny t.data.toList ae k) ∨ ∃ m : Nat, m < t.size ∧ j = .int .i64 m ∧ Hid (Lib.NoAny t.data.toList ae m ∧ ∃ b, t.data.toList[m]? = some b ∧ ae.contains b = true)))
        (fun _ i => t.size - (intOf i).toNat)
      case atStart => exact ⟨0, Nat.zero_le _, rfl, fun q h => absurd h (Nat.not_lt_zero _), .inl ⟨rfl, Lib.NoAny.zero _ _⟩⟩
      case round =>
        obtain ⟨k, hk, rfl, HD, hj⟩ := hrel
        by_cases hlt : k < t.size
        · obtain ⟨x, hx⟩ : ∃ x : UInt8, t[k]'hlt = x := ⟨_, rfl⟩
          have HX : Hid (t.data.toList[k]? = some x) := by rw [← hx]; exact at_list t k hlt
          by_cases hdot : x = 46
          · subst hdot
            rcases hj with ⟨rfl, HA⟩ | ⟨m, hm, rfl, HA⟩
            all_goals
              go_wp2
              go_ret
              exact ⟨rfl, Below.refl _ _⟩
          · have hne : ((x.toNat : Int) == 46) = false := beq_eq_false_iff_ne.2 fun e => hdot (UInt8.toNat_inj.1 (by simpa using Int.ofNat.inj e))
            have HD' : Hid (∀ q : Nat, q < k + 1 → t.data.toList[q]? ≠ some 46) := fun q hq => by
              by_cases e : q = k
              · subst e; rw [HX.out]; simpa using hdot
              · exact HD.out q (by omega)
            rcases hj with ⟨rfl, HA⟩ | ⟨m, hm, rfl, HA⟩
            · cases hae : ae.contains x
              · have hh : he.contains x = false := by
                  cases h : he.contains x
                  · rfl
                  · rw [he_in_ae x h] at hae; exact hae
                have hA : heB (x.toNat : Int) = false := by rw [heB_byte]; exact hh
                have hB : teB (x.toNat : Int) = false := by rw [teB_not x hae]
                clear hdot
                go_wp2_with (first
                  | (go_at_call 7; refine (isHostEnd_any _ _).mono ?_; rintro e w' ⟨rfl, hw⟩; rw [hw, hA])
                  | (go_at_call 8; refine (isTopLabelEnd_any _ _).mono ?_; rintro e w' ⟨rfl, hw⟩; rw [hw, hB]))
                go_round
                case rel => exact ⟨k + 1, by omega, by go_num, HD', .inl ⟨rfl, HA.out.succ HX.out hae⟩⟩
                case measure => simp [intOf]; omega
              · cases hh : he.contains x
                · have hA : heB (x.toNat : Int) = false := by rw [heB_byte]; exact hh
                  have hB : teB (x.toNat : Int) = true := teB_byte x hh hae
                  clear hdot
                  go_wp2_with (first
                    | (go_at_call 7; refine (isHostEnd_any _ _).mono ?_; rintro e w' ⟨rfl, hw⟩; rw [hw, hA])
                    | (go_at_call 8; refine (isTopLabelEnd_any _ _).mono ?_; rintro e w' ⟨rfl, hw⟩; rw [hw, hB]))
                  go_round
                  case rel => exact ⟨k + 1, by omega, by go_num, HD', .inr ⟨k, by omega, rfl, HA.out, x, HX.out, hae⟩⟩
                  case measure => simp [intOf]; omega
                · have hA : heB (x.toNat : Int) = true := by rw [heB_byte]; exact hh
                  clear hdot
                  go_wp2_with (go_at_call 7; refine (isHostEnd_any _ _).mono ?_; rintro e w' ⟨rfl, hw⟩; rw [hw, hA])
                  go_round
                  case rel => exact ⟨k + 1, by omega, by go_num, HD', .inr ⟨k, by omega, rfl, HA.out, x, HX.out, hae⟩⟩
                  case measure => simp [intOf]; omega
            · clear hdot
              have hm0 : decide ((m : Int) < 0) = false := decide_eq_false (by omega)
              go_wp2
              go_round
              case rel => exact ⟨k + 1, by omega, by go_num, HD', .inr ⟨m, by omega, rfl, HA⟩⟩
              case measure => simp [intOf]; omega
        · obtain rfl : k = t.size := by omega
          rcases hj with ⟨rfl, HA⟩ | ⟨m, hm, rfl, HA⟩
          · go_wp2
            go_ret
            exact ⟨rfl, Below.refl _ _⟩
          · have hm0 : ¬ (m : Int) < 0 := by omega
            have hmt : (m : Int) ≤ (t.size : Int) := by omega
            have HD' : Hid (∀ j : Nat, t.data.toList[j]? ≠ some 46) := fun j => by
              by_cases e : j < t.size
              · exact HD.out j e
              · rw [List.getElem?_eq_none (by rw [← Lib.size_eq]; omega)]; simp
            have hh := HF.out m hm HN.out HD'.out HA.out.1 HA.out.2
            go_wp2_with (go_at_call 6; refine (hh _).mono ?_; rintro e w' ⟨rfl, hw⟩)
            go_ret
            exact ⟨rfl, hw⟩

theorem data_append (a b : ByteArray) : (a ++ b).data.toList = a.data.toList ++ b.data.toList := by
  rw [ByteArray.data_append, Array.toList_append]

theorem bytes_ext {a b : ByteArray} (h : a.data.toList = b.data.toList) : a = b := by
  rw [← Lib.mk_data a, ← Lib.mk_data b, h]

theorem law2_host (s t : ByteArray) (m : Nat) (h1 : ¬ 524288 < s.size) (h2 : ¬ 524288 < t.size) (h0 : 0 < s.size) (h4 : (((s[0]'h0).toNat : Int) == 91) = false)
    (hm : m < t.size) (hn : Lib.NoAny s.data.toList he s.size) (hd : ∀ j : Nat, t.data.toList[j]? ≠ some 46) (ha : Lib.NoAny t.data.toList ae m) (hb : ∃ b, t.data.toList[m]? = some b ∧ ae.contains b = true) (w : World) :
    Calls Try.prog 6 #[.string (s ++ ⟨#[46]⟩ ++ t)] w fun e w' => e = .returned (.string (s ++ ⟨#[46]⟩ ++ t.extract 0 m)) ∧ Below w.heap.size w w' := by
  obtain ⟨b, hb1, hb2⟩ := hb
  have hl : (s ++ (⟨#[46]⟩ : ByteArray) ++ t).data.toList = s.data.toList ++ 46 :: t.data.toList := by
    rw [data_append, data_append]
    simp
  have hs := Lib.size_eq s
  have ht := Lib.size_eq t
  have hne : s.data.toList ≠ [] := fun e => by
    rw [e, List.length_nil] at hs
    omega
  have h91 : s.data.toList[0]? ≠ some 91 := by
    rw [at_list s 0 h0]
    intro e
    rw [Option.some.inj e] at h4
    revert h4
    decide
  have hc := cut_law2 s.data.toList t.data.toList m b hne h91 (by rw [← hs]; exact hn) hd (by rw [← ht]; exact hm) ha hb1 hb2
  have hz : (s ++ (⟨#[46]⟩ : ByteArray) ++ t).size = s.size + 1 + t.size := by
    rw [Lib.size_eq, hl, hs, ht]
    simp
    omega
  have := zzLinkedHost_any (s ++ ⟨#[46]⟩ ++ t) w (by rw [hz]; omega)
  rw [hl, hc] at this
  have he : (s ++ (⟨#[46]⟩ : ByteArray) ++ t).extract 0 (s.data.toList.length + 1 + m) = s ++ ⟨#[46]⟩ ++ t.extract 0 m := by
    apply bytes_ext
    rw [Lib.extract_data, hl, data_append, data_append, Lib.extract_data]
    simp only [List.drop_zero, Nat.sub_zero]
    rw [List.take_append, List.take_of_length_le (by omega), show s.data.toList.length + 1 + m - s.data.toList.length = m + 1 from by omega, List.take_succ_cons]
    simp
  rw [he] at this
  exact this

theorem law2_walk (s t : ByteArray) (w : World) (hs : s.size ≤ maxLen) (ht : t.size ≤ maxLen) :
    Calls Try.prog 4 #[.string s, .string t] w fun e w' => e = .returned (.bool true) ∧ Below w.heap.size w w' := by
  by_cases h : s.size + t.size ≤ 1048576
  · by_cases h1 : 524288 < s.size
    · exact law2_big1 s t w h h1
    · by_cases h2 : 524288 < t.size
      · exact law2_big2 s t w h h1 h2
      · by_cases h0 : 0 < s.size
        · have h3 : ((s.size : Int) == 0) = false := beq_eq_false_iff_ne.2 (by omega)
          cases h4 : (((s[0]'h0).toNat : Int) == 91)
          · exact law2_main s t w h1 h2 h3 h0 h4 fun m hm hn hd ha hb w => law2_host s t m h1 h2 h0 h4 hm hn hd ha hb w
          · exact law2_bracket s t w h1 h2 h3 h0 h4
        · exact law2_empty s t w h1 h2 (beq_iff_eq.2 (by omega))
  · exact law2_big s t w hs ht h

end Go.Proofs.Qxb6001580a
