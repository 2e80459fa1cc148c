/-
  SEAT b6001580a. THE WALK of linkedHost: it returns the first 'cutLen' bytes.
-/
import Derived.Test.Qxb6001580aPlain
import Derived.Test.Qxb6001580aShort2
import Derived.Test.Qxb6001580aShelf
namespace Go.Proofs.Qxb6001580a
open Go.RowKit

theorem zero32 : ∀ w, (zeroValue 32).run Try.prog w = .ok (.agg (Array.replicate 256 (.bool false))) w :=
  (zero_of_info (P := Try.prog) (t := 32) (v := .agg (Array.replicate 256 (.bool false))) (n := 256) (by kernel_rfl)).1

theorem indexAny_all (s chars : ByteArray) (w : World) (h4 : 4 ≤ chars.size) (hs : s.size < 4294967281) (hcs : chars.size < 4294967281) (hch : ∀ b ∈ chars.data.toList, b.toNat < 128) :
    Calls Try.prog 14 #[.string s, .string chars] w fun e w' => e = .returned (.int .i64 (Lib.indexAny s.data.toList chars.data.toList)) ∧ Below w.heap.size w w' := by
  by_cases h8 : s.size ≤ 8
  · exact indexAny_short s chars w h4 h8 hch
  · refine (Try.strings_IndexAny_long zero32 s chars w (by omega) (by omega) hs hcs fun j b h => hch b (List.mem_of_getElem? h)).mono fun e w' ⟨h1, h2⟩ => ⟨h1, ?_⟩
    rw [h2]
    exact ((Below.refl _ _).alloc (Nat.le_refl _) _).alloc (by simp) _

theorem indexAny_ae (s : ByteArray) (l : List UInt8) (hl : s.data.toList = l) (w : World) (hs : s.size < 4294967281) :
    Calls Try.prog 14 #[.string s, .string ⟨#[41, 62, 93, 124, 34, 39, 125, 44, 59, 42, 95, 126, 33]⟩] w fun e w' => e = .returned (.int .i64 (Lib.indexAny l ae)) ∧ Below w.heap.size w w' := by
  subst hl
  exact indexAny_all s ⟨#[41, 62, 93, 124, 34, 39, 125, 44, 59, 42, 95, 126, 33]⟩ w (by decide) hs (by decide) (by decide)

theorem indexAny_he (s : ByteArray) (l : List UInt8) (hl : s.data.toList = l) (w : World) (hs : s.size < 4294967281) :
    Calls Try.prog 14 #[.string s, .string ⟨#[41, 62, 93, 124, 34, 39, 125, 44, 59]⟩] w fun e w' => e = .returned (.int .i64 (Lib.indexAny l he)) ∧ Below w.heap.size w w' := by
  subst hl
  exact indexAny_all s ⟨#[41, 62, 93, 124, 34, 39, 125, 44, 59]⟩ w (by decide) hs (by decide) (by decide)

theorem extract_whole (s : ByteArray) : s.extract 0 s.size = s := by
  rw [Lib.extract_eq, Lib.size_eq]
  simp only [List.drop_zero, Nat.sub_zero, List.take_of_length_le (Nat.le_refl _)]

set_option maxHeartbeats 1000000 in
theorem host_bracket (s : ByteArray) (w : World) (h : Lib.hasPrefix s.data.toList [91] = true) :
    Calls Try.prog 10 #[.string s] w fun e w' => e = .returned (.string s) ∧ Below w.heap.size w w' := by
  have hp := hasPrefix_any s ⟨#[91]⟩
  have hp' : Lib.hasPrefix s.data.toList (ByteArray.mk #[91]).data.toList = true := h
  rw [hp'] at hp
  go_enter Try.func10, Try.ntmps10
  go_wp2_with (go_at_call 11; refine (hp _).mono ?_; rintro e w' ⟨rfl, hw⟩; rw [hw])
  go_ret
  exact ⟨rfl, Below.refl _ _⟩

set_option maxHeartbeats 1000000 in
theorem host_none (s nm : ByteArray) (t : Nat) (w : World) (hs : s.size ≤ 2097152) (hns : nm.size ≤ s.size) (ht : t ≤ nm.size)
    (hp : ∀ w, Calls Try.prog 11 #[.string s, .string ⟨#[91]⟩] w fun e w' => e = .returned (.bool false) ∧ w' = w)
    (htr : ∀ w, Calls Try.prog 12 #[.string s, .string ⟨#[46]⟩] w fun e w' => e = .returned (.string nm) ∧ w' = w)
    (hld : ∀ w, Calls Try.prog 13 #[.string nm, .int .u8 46] w fun e w' => e = .returned (.int .i64 ((t : Int) - 1)) ∧ w' = w)
    (hi1 : ∀ w, Calls Try.prog 14 #[.string (nm.extract t nm.size), .string ⟨#[41, 62, 93, 124, 34, 39, 125, 44, 59, 42, 95, 126, 33]⟩] w fun e w' => e = .returned (.int .i64 (-1)) ∧ Below w.heap.size w w') :
    Calls Try.prog 10 #[.string s] w fun e w' => e = .returned (.string s) ∧ Below w.heap.size w w' := by
  go_enter Try.func10, Try.ntmps10
  go_wp2_with (first
    | (go_at_call 11; refine (hp _).mono ?_; rintro e w' ⟨rfl, hw⟩; rw [hw])
    | (go_at_call 12; refine (htr _).mono ?_; rintro e w' ⟨rfl, hw⟩; rw [hw])
    | (go_at_call 13; refine (hld _).mono ?_; rintro e w' ⟨rfl, hw⟩; rw [hw])
    | (go_at_call 14; refine (hi1 _).mono ?_; rintro e w' ⟨rfl, hw⟩))
  go_ret
  exact ⟨rfl, hw⟩

set_option maxHeartbeats 1000000 in
theorem host_some (s nm u : ByteArray) (t k c : Nat) (f : Int) (b : Bool) (w : World) (hs : s.size ≤ 2097152) (hns : nm.size ≤ s.size) (ht : t ≤ nm.size) (hk : k + t < nm.size) (hf : f = -1 ∧ c = k + t ∨ f = (c : Int) ∧ c < k + t) (hu : u.toList.isEmpty = b)
    (hp : ∀ w, Calls Try.prog 11 #[.string s, .string ⟨#[91]⟩] w fun e w' => e = .returned (.bool false) ∧ w' = w)
    (htr : ∀ w, Calls Try.prog 12 #[.string s, .string ⟨#[46]⟩] w fun e w' => e = .returned (.string nm) ∧ w' = w)
    (hld : ∀ w, Calls Try.prog 13 #[.string nm, .int .u8 46] w fun e w' => e = .returned (.int .i64 ((t : Int) - 1)) ∧ w' = w)
    (hi1 : ∀ w, Calls Try.prog 14 #[.string (nm.extract t nm.size), .string ⟨#[41, 62, 93, 124, 34, 39, 125, 44, 59, 42, 95, 126, 33]⟩] w fun e w' => e = .returned (.int .i64 k) ∧ Below w.heap.size w w')
    (hi2 : ∀ w, Calls Try.prog 14 #[.string (s.extract 0 (k + t)), .string ⟨#[41, 62, 93, 124, 34, 39, 125, 44, 59]⟩] w fun e w' => e = .returned (.int .i64 f) ∧ Below w.heap.size w w')
    (htr2 : ∀ w, Calls Try.prog 12 #[.string (s.extract 0 c), .string ⟨#[46]⟩] w fun e w' => e = .returned (.string u) ∧ w' = w) :
    Calls Try.prog 10 #[.string s] w fun e w' => e = .returned (.string (if b = true then s else s.extract 0 c)) ∧ Below w.heap.size w w' := by
  have e2 : ((k : Int) + (t : Int)).toNat = k + t := by omega
  have e3 : (k : Int) + (t : Int) ≤ (s.size : Int) := by omega
  have e4 : ((c : Int)).toNat = c := by omega
  have e5 : (c : Int) ≤ (s.size : Int) := by omega
  have HP : Hid (∀ w, Calls Try.prog 11 #[.string s, .string ⟨#[91]⟩] w fun e w' => e = .returned (.bool false) ∧ w' = w) := hp
  have HT : Hid (∀ w, Calls Try.prog 12 #[.string s, .string ⟨#[46]⟩] w fun e w' => e = .returned (.string nm) ∧ w' = w) := htr
  have HL : Hid (∀ w, Calls Try.prog 13 #[.string nm, .int .u8 46] w fun e w' => e = .returned (.int .i64 ((t : Int) - 1)) ∧ w' = w) := hld
  have H1 : Hid (∀ w, Calls Try.prog 14 #[.string (nm.extract t nm.size), .string ⟨#[41, 62, 93, 124, 34, 39, 125, 44, 59, 42, 95, 126, 33]⟩] w fun e w' => e = .returned (.int .i64 k) ∧ Below w.heap.size w w') := hi1
  have H2 : Hid (∀ w, Calls Try.prog 14 #[.string (s.extract 0 (k + t)), .string ⟨#[41, 62, 93, 124, 34, 39, 125, 44, 59]⟩] w fun e w' => e = .returned (.int .i64 f) ∧ Below w.heap.size w w') := hi2
  have H3 : Hid (∀ w, Calls Try.prog 12 #[.string (s.extract 0 c), .string ⟨#[46]⟩] w fun e w' => e = .returned (.string u) ∧ w' = w) := htr2
  clear hp htr hld hi1 hi2 htr2
  rcases hf with ⟨rfl, rfl⟩ | ⟨rfl, hc⟩
  · cases b
    all_goals
      go_enter Try.func10, Try.ntmps10
      go_wp2_with fail
      refine (HP.out _).mono ?_
      rintro e w' ⟨rfl, rfl⟩
      go_wp2_with fail
      refine (HT.out _).mono ?_
      rintro e w' ⟨rfl, rfl⟩
      go_wp2_with fail
      refine (HL.out _).mono ?_
      rintro e w' ⟨rfl, rfl⟩
      go_wp2_with fail
      refine (H1.out _).mono ?_
      rintro e w1 ⟨rfl, hw1⟩
      go_wp2_with fail
      refine (H2.out _).mono ?_
      rintro e w2 ⟨rfl, hw2⟩
      go_wp2_with fail
      refine (H3.out _).mono ?_
      rintro e w' ⟨rfl, rfl⟩
      go_wp2_with fail
      go_ret
      exact ⟨rfl, hw1.trans (hw2.mono hw1.size)⟩
  · cases b
    all_goals
      go_enter Try.func10, Try.ntmps10
      go_wp2_with fail
      refine (HP.out _).mono ?_
      rintro e w' ⟨rfl, rfl⟩
      go_wp2_with fail
      refine (HT.out _).mono ?_
      rintro e w' ⟨rfl, rfl⟩
      go_wp2_with fail
      refine (HL.out _).mono ?_
      rintro e w' ⟨rfl, rfl⟩
      go_wp2_with fail
      refine (H1.out _).mono ?_
      rintro e w1 ⟨rfl, hw1⟩
      go_wp2_with fail
      refine (H2.out _).mono ?_
      rintro e w2 ⟨rfl, hw2⟩
      go_wp2_with fail
      refine (H3.out _).mono ?_
      rintro e w' ⟨rfl, rfl⟩
      go_wp2_with fail
      go_ret
      exact ⟨rfl, hw1.trans (hw2.mono hw1.size)⟩

theorem trim_nil_iff (u : ByteArray) : (u.toList.isEmpty = true) ↔ (u.data.toList = []) := by
  rw [Lib.toList_data]
  simp

/-- linkedHost: THE CONTRACT. -/
theorem linkedHost_any (s : ByteArray) (w : World) (hs : s.size ≤ 2097152) :
    Calls Try.prog 10 #[.string s] w fun e w' => e = .returned (.string (s.extract 0 (cutLen s.data.toList))) ∧ Below w.heap.size w w' := by
  cases hb : Lib.hasPrefix s.data.toList [91]
  · have hle := nmLen_le s.data.toList
    rw [← Lib.size_eq] at hle
    have htop := topOf_le s.data.toList
    obtain ⟨nm, hnm⟩ : ∃ nm : ByteArray, (⟨(Lib.trimSuffix s.data.toList [46]).toArray⟩ : ByteArray) = nm := ⟨_, rfl⟩
    have hnl : nm.data.toList = s.data.toList.take (nmLen s.data.toList) := by rw [← hnm]; exact trimSuffix_take _ _
    have hns : nm.size = nmLen s.data.toList := by rw [← hnm, Lib.size_eq]; rfl
    have hp : ∀ w, Calls Try.prog 11 #[.string s, .string ⟨#[91]⟩] w fun e w' => e = .returned (.bool false) ∧ w' = w := fun w => by
      have := hasPrefix_any s ⟨#[91]⟩ w
      rw [show Lib.hasPrefix s.data.toList (ByteArray.mk #[91]).data.toList = false from hb] at this
      exact this
    have htr : ∀ w, Calls Try.prog 12 #[.string s, .string ⟨#[46]⟩] w fun e w' => e = .returned (.string nm) ∧ w' = w := fun w => by
      have := trimSuffix_any s ⟨#[46]⟩ w (by unfold maxLen; omega)
      rw [show (⟨(Lib.trimSuffix s.data.toList (ByteArray.mk #[46]).data.toList).toArray⟩ : ByteArray) = nm from hnm] at this
      exact this
    have hld : ∀ w, Calls Try.prog 13 #[.string nm, .int .u8 46] w fun e w' => e = .returned (.int .i64 ((topOf s.data.toList : Int) - 1)) ∧ w' = w := fun w => by
      have := lastDot_any nm w (by unfold maxLen; omega)
      rw [hnl, hns] at this
      exact this
    have hx1 : (nm.extract (topOf s.data.toList) nm.size).data.toList = (s.data.toList.take (nmLen s.data.toList)).drop (topOf s.data.toList) := by
      rw [Lib.extract_to_end, hnl]
    have hi1 := fun w => indexAny_ae (nm.extract (topOf s.data.toList) nm.size) _ hx1 w (by rw [ByteArray.size_extract]; omega)
    rcases endOf_spec s.data.toList with h | ⟨k, b, h1, h2, h3, _, _⟩
    · have hc : cutLen s.data.toList = s.size := by
        unfold cutLen
        rw [if_neg (by rw [hb]; decide), if_pos (by rw [h]; decide), Lib.size_eq]
      rw [hc, extract_whole]
      refine host_none s nm (topOf s.data.toList) w hs (by omega) (by omega) hp htr hld fun w => ?_
      have := hi1 w
      rw [show Lib.indexAny ((s.data.toList.take (nmLen s.data.toList)).drop (topOf s.data.toList)) ae = -1 from h] at this
      exact this
    · have hi1' : ∀ w, Calls Try.prog 14 #[.string (nm.extract (topOf s.data.toList) nm.size), .string ⟨#[41, 62, 93, 124, 34, 39, 125, 44, 59, 42, 95, 126, 33]⟩] w fun e w' => e = .returned (.int .i64 k) ∧ Below w.heap.size w w' := fun w => by
        have := hi1 w
        rw [show Lib.indexAny ((s.data.toList.take (nmLen s.data.toList)).drop (topOf s.data.toList)) ae = k from h1] at this
        exact this
      have tk : ∀ n, (s.extract 0 n).data.toList = s.data.toList.take n := fun n => by rw [Lib.extract_data]; simp
      have hi2 : ∀ w, Calls Try.prog 14 #[.string (s.extract 0 (k + topOf s.data.toList)), .string ⟨#[41, 62, 93, 124, 34, 39, 125, 44, 59]⟩] w fun e w' => e = .returned (.int .i64 (firstOf s.data.toList)) ∧ Below w.heap.size w w' := fun w =>
        indexAny_he (s.extract 0 (k + topOf s.data.toList)) (s.data.toList.take (end1 s.data.toList)) (by rw [tk, h2]) w (by rw [ByteArray.size_extract]; omega)
      have htr2 : ∀ w, Calls Try.prog 12 #[.string (s.extract 0 (end2 s.data.toList)), .string ⟨#[46]⟩] w fun e w' => e = .returned (.string ⟨(Lib.trimSuffix (s.data.toList.take (end2 s.data.toList)) [46]).toArray⟩) ∧ w' = w := fun w => by
        have := trimSuffix_any (s.extract 0 (end2 s.data.toList)) ⟨#[46]⟩ w (by rw [ByteArray.size_extract]; unfold maxLen; omega)
        rw [tk] at this
        exact this
      have hf : firstOf s.data.toList = -1 ∧ end2 s.data.toList = k + topOf s.data.toList ∨ firstOf s.data.toList = (end2 s.data.toList : Int) ∧ end2 s.data.toList < k + topOf s.data.toList := by
        rcases firstOf_spec s.data.toList with ⟨f1, f2, _⟩ | ⟨m, c, f1, f2, f3, _⟩
        · exact .inl ⟨f1, by omega⟩
        · exact .inr ⟨by rw [f1, f2], by omega⟩
      refine (host_some s nm ⟨(Lib.trimSuffix (s.data.toList.take (end2 s.data.toList)) [46]).toArray⟩ (topOf s.data.toList) k (end2 s.data.toList) (firstOf s.data.toList) _ w hs (by omega) (by omega) (by omega) hf rfl hp htr hld hi1' hi2 htr2).mono ?_
      rintro e w' ⟨he, hw⟩
      refine ⟨?_, hw⟩
      rw [he]
      clear he hp htr hld hi1 hi1' hi2 htr2
      have hcl : cutLen s.data.toList = if Lib.trimSuffix (s.data.toList.take (end2 s.data.toList)) [46] = [] then s.data.toList.length else end2 s.data.toList := by
        unfold cutLen
        rw [if_neg (by rw [hb]; decide), if_neg (by rw [h1]; omega)]
      rw [hcl]
      by_cases hn : Lib.trimSuffix (s.data.toList.take (end2 s.data.toList)) [46] = []
      · rw [if_pos ((trim_nil_iff _).2 hn), if_pos hn, ← Lib.size_eq, extract_whole]
      · rw [if_neg (fun h => hn ((trim_nil_iff _).1 h)), if_neg hn]
  · have hc : cutLen s.data.toList = s.size := by
      unfold cutLen
      rw [if_pos hb, Lib.size_eq]
    rw [hc, extract_whole]
    exact host_bracket s w hb

theorem zzLinkedHost_any (s : ByteArray) (w : World) (hs : s.size ≤ 2097152) :
    Calls Try.prog 6 #[.string s] w fun e w' => e = .returned (.string (s.extract 0 (cutLen s.data.toList))) ∧ Below w.heap.size w w' := by
  go_enter Try.func6, Try.ntmps6
  go_wp2_with (go_at_call 10; refine (linkedHost_any _ _ hs).mono ?_; rintro e w' ⟨rfl, hw⟩)
  go_ret
  exact ⟨rfl, hw⟩

end Go.Proofs.Qxb6001580a
