/-
  SEAT b6001580a. THE PLAIN LAYER: what linkedHost computes, over lists of bytes; no Go in sight.
-/
import Derived.Test.Qxb6001580aStrs
import Derived.Lib.IndexAny
namespace Go.Proofs.Qxb6001580a

def ae : List UInt8 := [41, 62, 93, 124, 34, 39, 125, 44, 59, 42, 95, 126, 33]

/-- How many bytes are left when one full stop at the end is set aside. -/
def nmLen (l : List UInt8) : Nat := (Lib.trimSuffix l [46]).length
/-- Where the top-level label begins. -/
def topOf (l : List UInt8) : Nat := topIdx (l.take (nmLen l)) (nmLen l)
/-- The place, in the top-level label, of the first character that ends a host. -/
def endOf (l : List UInt8) : Int := Lib.indexAny ((l.take (nmLen l)).drop (topOf l)) ae
def end1 (l : List UInt8) : Nat := (endOf l).toNat + topOf l
def firstOf (l : List UInt8) : Int := Lib.indexAny (l.take (end1 l)) he
def end2 (l : List UInt8) : Nat := if firstOf l < 0 then end1 l else (firstOf l).toNat
/-- How many bytes of the host linkedHost hands back. -/
def cutLen (l : List UInt8) : Nat :=
  if Lib.hasPrefix l [91] = true then l.length
  else if endOf l < 0 then l.length
  else if Lib.trimSuffix (l.take (end2 l)) [46] = [] then l.length
  else end2 l

theorem trimSuffix_take (l p : List UInt8) : Lib.trimSuffix l p = l.take (Lib.trimSuffix l p).length := by
  unfold Lib.trimSuffix
  split
  · rw [List.length_take, Nat.min_eq_left (by omega)]
  · exact (List.take_of_length_le (Nat.le_refl _)).symm

theorem nmLen_le (l : List UInt8) : nmLen l ≤ l.length := by
  unfold nmLen Lib.trimSuffix
  split
  · rw [List.length_take]; omega
  · exact Nat.le_refl _

theorem topOf_le (l : List UInt8) : topOf l ≤ nmLen l := (topIdx_spec _ _).1

/-- -1, and none of chars is there; or the first place of one. -/
theorem indexAny_spec (l chars : List UInt8) : (Lib.indexAny l chars = -1 ∧ Lib.NoAny l chars l.length) ∨ ∃ (i : Nat) (b : UInt8), Lib.indexAny l chars = i ∧ i < l.length ∧ l[i]? = some b ∧ chars.contains b = true ∧ Lib.NoAny l chars i := by
  induction l with
  | nil => exact .inl ⟨rfl, fun j b h => absurd h (Nat.not_lt_zero _)⟩
  | cons b l ih =>
    cases hb : chars.contains b
    · rcases ih with ⟨h1, h2⟩ | ⟨i, c, h1, h2, h3, h4, h5⟩
      · refine .inl ⟨by rw [Lib.indexAny, hb, h1]; rfl, fun j c hj hc => ?_⟩
        cases j with
        | zero => simp at hc; subst hc; exact hb
        | succ j => exact h2 j c (by simp at hj; omega) (by simpa using hc)
      · refine .inr ⟨i + 1, c, ?_, by simp; omega, by simpa using h3, h4, fun j d hj hd => ?_⟩
        · rw [Lib.indexAny, hb, h1]
          have : ¬ ((i : Int) == -1) = true := by simp
          simp only [Bool.false_eq_true, if_false, if_neg this]
          omega
        · cases j with
          | zero => simp at hd; subst hd; exact hb
          | succ j => exact h5 j d (by omega) (by simpa using hd)
    · exact .inr ⟨0, b, by rw [Lib.indexAny, if_pos hb]; rfl, by simp, rfl, hb, Lib.NoAny.zero _ _⟩

/-- endOf: none, or a place inside the top-level label. -/
theorem endOf_spec (l : List UInt8) : endOf l = -1 ∨ ∃ (k : Nat) (b : UInt8), endOf l = k ∧ end1 l = k + topOf l ∧ end1 l < nmLen l ∧ l[end1 l]? = some b ∧ ae.contains b = true := by
  have hl := nmLen_le l
  rcases indexAny_spec ((l.take (nmLen l)).drop (topOf l)) ae with ⟨h1, _⟩ | ⟨i, b, h1, h2, h3, h4, _⟩
  · exact .inl h1
  · have e1 : endOf l = i := h1
    have e2 : end1 l = i + topOf l := by rw [end1, e1]; rfl
    rw [List.length_drop, List.length_take, Nat.min_eq_left hl] at h2
    refine .inr ⟨i, b, e1, e2, by omega, ?_, h4⟩
    rw [List.getElem?_drop, List.getElem?_take] at h3
    rw [if_pos (by omega)] at h3
    rw [e2, Nat.add_comm]
    exact h3

theorem firstOf_spec (l : List UInt8) : (firstOf l = -1 ∧ end2 l = end1 l ∧ Lib.NoAny l he (min (end1 l) l.length)) ∨ ∃ (k : Nat) (b : UInt8), firstOf l = k ∧ end2 l = k ∧ k < end1 l ∧ k < l.length ∧ l[k]? = some b ∧ he.contains b = true ∧ Lib.NoAny l he k := by
  have take : ∀ n i, Lib.NoAny (l.take n) he i → i ≤ n → Lib.NoAny l he i := fun n i h hi j b hj hb => h j b hj (by rw [List.getElem?_take, if_pos (by omega)]; exact hb)
  rcases indexAny_spec (l.take (end1 l)) he with ⟨h1, h2⟩ | ⟨i, b, h1, h2, h3, h4, h5⟩
  · have e : firstOf l = -1 := h1
    rw [List.length_take] at h2
    exact .inl ⟨e, by rw [end2, e]; rfl, take _ _ h2 (Nat.min_le_left _ _)⟩
  · have e : firstOf l = i := h1
    rw [List.length_take] at h2
    refine .inr ⟨i, b, e, ?_, by omega, by omega, ?_, h4, take _ _ h5 (by omega)⟩
    · rw [end2, e, if_neg (by omega)]; rfl
    · rw [List.getElem?_take, if_pos (by omega)] at h3
      exact h3

theorem he_in_ae (b : UInt8) (h : he.contains b = true) : ae.contains b = true := by
  simp [he] at h
  simp [ae]
  rcases h with h | h | h | h | h | h | h | h | h <;> simp [h]

theorem trim_empty (l : List UInt8) (h : Lib.trimSuffix l [46] ≠ []) : l ≠ [] ∧ l ≠ [46] := by
  refine ⟨fun e => h ?_, fun e => h ?_⟩
  · rw [e]; decide
  · rw [e]; decide

/-- THE FIRST LAW's PLAIN PART. -/
theorem cut_law (l : List UInt8) : cutLen l = l.length ∨
    (cutLen l < l.length ∧ Lib.hasPrefix l [91] = false ∧ Lib.NoAny l he (cutLen l) ∧ (∃ b, l[cutLen l]? = some b ∧ ae.contains b = true) ∧ l.take (cutLen l) ≠ [] ∧ l.take (cutLen l) ≠ [46]) := by
  unfold cutLen
  split
  · exact .inl rfl
  · rename_i hp
    split
    · exact .inl rfl
    · rename_i hend
      split
      · exact .inl rfl
      · rename_i htr
        have htr' := trim_empty _ htr
        rcases endOf_spec l with h | ⟨k, b, h1, h2, h3, h4, h5⟩
        · rw [h] at hend; exact absurd (by decide) hend
        · have hnl := nmLen_le l
          refine .inr ?_
          have hp' : Lib.hasPrefix l [91] = false := by simpa using hp
          rcases firstOf_spec l with ⟨f1, f2, f3⟩ | ⟨m, c, f1, f2, f3, f4, f5, f6, f7⟩
          · rw [Nat.min_eq_left (by omega)] at f3
            exact ⟨by omega, hp', by rw [f2]; exact f3, ⟨b, by rw [f2]; exact h4, h5⟩, htr'.1, htr'.2⟩
          · exact ⟨by omega, hp', by rw [f2]; exact f7, ⟨c, by rw [f2]; exact f5, he_in_ae c f6⟩, htr'.1, htr'.2⟩

end Go.Proofs.Qxb6001580a
