/-
  SEAT b6001580a. strings.IndexAny at a string of at most 8 bytes, WHATEVER ITS BYTES, and ASCII chars of four bytes or more (the shelf has it at ASCII strings alone).
-/
import Derived.Test.Qxb6001580aRune2
import Derived.Lib.IndexAny
import Derived.Lib.IndexBytes
import Derived.Laws.RangeString
namespace Go.Proofs.Qxb6001580a
open Go.RowKit

set_option maxRecDepth 1000000 in
set_option maxHeartbeats 1000000 in
theorem indexRune_ascii (s : ByteArray) (r : Int) (w : World) (h0 : 0 ≤ r) (h1 : r < 128) :
    Calls Try.prog 18 #[.string s, .int .i32 r] w fun e w' => e = .returned (.int .i64 (Lib.indexByte s.data.toList r.toNat.toUInt8)) ∧ w' = w := by
  go_enter Try.func18, Try.ntmps18
  go_wp2_with (go_at_call 23; refine (indexByte_any _ _ _).mono ?_; rintro e w' ⟨rfl, hw⟩; rw [hw])
  go_ret
  exact ⟨rfl, rfl⟩

theorem indexRune_high (s : ByteArray) (r : Int) (w : World) (h128 : 128 ≤ r) (h4 : 4 ≤ s.size) (hs : ∀ b ∈ s.data.toList, b.toNat < 128) :
    Calls Try.prog 18 #[.string s, .int .i32 r] w fun e w' => e = .returned (.int .i64 (-1)) ∧ Below w.heap.size w w' := by
  by_cases he : r = 65533
  · subst he; exact indexRune_err s w hs
  · have hne : (r == 65533) = false := beq_eq_false_iff_ne.2 he
    cases hv : Go.validRune r
    · exact indexRune_bad s r w h128 hne hv
    · exact indexRune_ok s r w h128 h4 hne hv hs

theorem shouldUse_any (n : Int) (w : World) :
    Calls Try.prog 19 #[.int .i64 n] w fun e w' => e = .returned (.bool (decide (8 < n))) ∧ w' = w := by
  go_enter Try.func19, Try.ntmps19
  go_wp2
  go_ret
  exact ⟨rfl, rfl⟩

/-- A byte from 128 on: the rune that is decoded there is no ASCII, and all the bytes that it takes are from 128 on. -/
theorem decode_wide (s : ByteArray) (i : Nat) (hi : i < s.size) (h : 128 ≤ (s[i]'hi).toNat) :
    128 ≤ (Utf8.decode s i).1 ∧ 1 ≤ (Utf8.decode s i).2 ∧ i + (Utf8.decode s i).2 ≤ s.size ∧ ∀ j b, i ≤ j → j < i + (Utf8.decode s i).2 → s.data.toList[j]? = some b → 128 ≤ b.toNat := by
  have hd := decode_high s i hi h
  refine ⟨hd.1, hd.2, ?_⟩
  have hg : ∀ k, i + k < s.size → ∀ b, s.data.toList[i + k]? = some b → (s.get! (i + k)).toNat = b.toNat := fun k hk b hb => by
    have e1 : s.get! (i + k) = s[i + k]'hk := by simp [ByteArray.get!, getElem!_pos, hk]; rfl
    have e2 := Lib.data_getElem? s (i + k) hk
    rw [e2] at hb
    cases hb
    rw [e1]
  have h0 : ∀ b, s.data.toList[i]? = some b → 128 ≤ b.toNat := fun b hb => by
    have e2 := Lib.data_getElem? s i hi
    rw [e2] at hb
    cases hb
    exact h
  have hn : ¬ (s[i]'hi).toNat < 128 := by omega
  have one : i + 1 ≤ s.size ∧ ∀ j b, i ≤ j → j < i + 1 → s.data.toList[j]? = some b → 128 ≤ b.toNat :=
    ⟨hi, fun j b h1 h2 hb => by obtain rfl : j = i := by omega
                                exact h0 b hb⟩
  have cont : ∀ k, (decide (i + k < s.size) && ((s.get! (i + k)).toNat / 64 == 2)) = true → i + k < s.size ∧ ∀ b, s.data.toList[i + k]? = some b → 128 ≤ b.toNat := fun k hk => by
    simp only [Bool.and_eq_true, decide_eq_true_eq, beq_iff_eq] at hk
    refine ⟨hk.1, fun b hb => ?_⟩
    have := hg k hk.1 b hb
    omega
  simp only [Utf8.decode, get_at s i hi, hn, if_false]
  split
  · rename_i hc
    simp only [Bool.and_eq_true] at hc
    obtain ⟨c1, f1⟩ := cont 1 (by simpa using hc.2)
    split
    · exact ⟨by show i + 2 ≤ s.size; omega, fun j b h1 h2 hb => by
        have h2' : j < i + 2 := h2
        rcases (by omega : j = i ∨ j = i + 1) with rfl | rfl
        · exact h0 b hb
        · exact f1 b hb⟩
    · exact one
  · split
    · rename_i hc
      simp only [Bool.and_eq_true] at hc
      obtain ⟨c1, f1⟩ := cont 1 (by simpa using hc.1.2)
      obtain ⟨c2, f2⟩ := cont 2 (by simpa using hc.2)
      split
      · exact ⟨by show i + 3 ≤ s.size; omega, fun j b h1 h2 hb => by
          have h2' : j < i + 3 := h2
          rcases (by omega : j = i ∨ j = i + 1 ∨ j = i + 2) with rfl | rfl | rfl
          · exact h0 b hb
          · exact f1 b hb
          · exact f2 b hb⟩
      · exact one
    · split
      · rename_i hc
        simp only [Bool.and_eq_true] at hc
        obtain ⟨c1, f1⟩ := cont 1 (by simpa using hc.1.1.2)
        obtain ⟨c2, f2⟩ := cont 2 (by simpa using hc.1.2)
        obtain ⟨c3, f3⟩ := cont 3 (by simpa using hc.2)
        split
        · exact ⟨by show i + 4 ≤ s.size; omega, fun j b h1 h2 hb => by
            have h2' : j < i + 4 := h2
            rcases (by omega : j = i ∨ j = i + 1 ∨ j = i + 2 ∨ j = i + 3) with rfl | rfl | rfl | rfl
            · exact h0 b hb
            · exact f1 b hb
            · exact f2 b hb
            · exact f3 b hb⟩
        · exact one
      · exact one

theorem noAny_wide {s chars : List UInt8} {i n : Nat} (h : Lib.NoAny s chars i) (hch : ∀ b ∈ chars, b.toNat < 128) (hw : ∀ j b, i ≤ j → j < i + n → s[j]? = some b → 128 ≤ b.toNat) : Lib.NoAny s chars (i + n) := fun j b hj hb => by
  by_cases e : j < i
  · exact h j b e hb
  · have h1 := hw j b (by omega) hj hb
    cases hc : chars.contains b
    · rfl
    · have := hch b (by simpa using hc)
      omega

end Go.Proofs.Qxb6001580a
