/-
  SEAT b6001580a. THE PLAIN LAYER of the law FnLinkedHostCutsInTopLabel.
-/
import Derived.Test.Qxb6001580aPlain
namespace Go.Proofs.Qxb6001580a

theorem cut_law2 (lo tp : List UInt8) (m : Nat) (b : UInt8) (hlo : lo ≠ []) (h91 : lo[0]? ≠ some 91) (hno : Lib.NoAny lo he lo.length) (hdot : ∀ j : Nat, tp[j]? ≠ some 46)
    (hm : m < tp.length) (hna : Lib.NoAny tp ae m) (hb : tp[m]? = some b) (hc : ae.contains b = true) : cutLen (lo ++ 46 :: tp) = lo.length + 1 + m := by
  obtain ⟨a, lo', rfl⟩ := List.exists_cons_of_ne_nil hlo
  have hp : Lib.hasPrefix ((a :: lo') ++ 46 :: tp) [91] = false := by
    have : a ≠ 91 := by simpa using h91
    have h9 : ((91 : UInt8) == a) = false := beq_eq_false_iff_ne.2 (Ne.symm this)
    show (((91 : UInt8) == a) && ([] : List UInt8).isPrefixOf (lo' ++ 46 :: tp)) = false
    rw [h9]
    rfl
  obtain ⟨L, hL⟩ : ∃ L, (a :: lo') = L := ⟨_, rfl⟩
  rw [hL] at hp hno ⊢
  have hL1 : 1 ≤ L.length := by rw [← hL]; simp
  have hlen : (L ++ 46 :: tp).length = L.length + 1 + tp.length := by simp; omega
  have hsuf : Lib.hasSuffix (L ++ 46 :: tp) [46] = false := by
    cases h : Lib.hasSuffix (L ++ 46 :: tp) [46]
    · rfl
    · unfold Lib.hasSuffix at h
      rw [List.isSuffixOf_iff_suffix] at h
      obtain ⟨x, hx⟩ := h
      have h1 := congrArg List.length hx
      rw [hlen] at h1
      simp at h1
      have h2 : (x ++ [46])[x.length]? = some 46 := by simp
      rw [hx, List.getElem?_append_right (by omega)] at h2
      obtain ⟨i, hi⟩ : ∃ i, x.length - L.length = i + 1 := ⟨x.length - L.length - 1, by omega⟩
      rw [hi, List.getElem?_cons_succ] at h2
      exact absurd h2 (hdot i)
  have hnm : nmLen (L ++ 46 :: tp) = (L ++ 46 :: tp).length := by
    unfold nmLen Lib.trimSuffix
    rw [hsuf]
    rfl
  have htk : (L ++ 46 :: tp).take (nmLen (L ++ 46 :: tp)) = L ++ 46 :: tp := by rw [hnm]; exact List.take_of_length_le (Nat.le_refl _)
  have htop : topOf (L ++ 46 :: tp) = L.length + 1 := by
    unfold topOf
    rw [htk, hnm]
    obtain ⟨t1, t2, t3⟩ := topIdx_spec (L ++ 46 :: tp) (L ++ 46 :: tp).length
    generalize topIdx (L ++ 46 :: tp) (L ++ 46 :: tp).length = t at t1 t2 t3
    have hat : (L ++ 46 :: tp)[L.length]? = some 46 := by rw [List.getElem?_append_right (Nat.le_refl _)]; simp
    have g1 : ¬ t ≤ L.length := fun h => t2 L.length h (by omega) hat
    rcases t3 with t3 | t3
    · omega
    · by_cases g2 : t = L.length + 1
      · exact g2
      · exfalso
        rw [List.getElem?_append_right (by omega)] at t3
        obtain ⟨i, hi⟩ : ∃ i, t - 1 - L.length = i + 1 := ⟨t - 1 - L.length - 1, by omega⟩
        rw [hi, List.getElem?_cons_succ] at t3
        exact hdot i t3
  have hend : endOf (L ++ 46 :: tp) = m := by
    unfold endOf
    rw [htk, htop]
    have : (L ++ 46 :: tp).drop (L.length + 1) = tp := by
      rw [← List.drop_drop]
      simp
    rw [this]
    exact Lib.indexAny_hit hna hb hc
  have he1 : end1 (L ++ 46 :: tp) = L.length + 1 + m := by
    unfold end1
    rw [hend, htop]
    simp
    omega
  have hft : (L ++ 46 :: tp).take (L.length + 1 + m) = L ++ 46 :: tp.take m := by
    rw [List.take_append, List.take_of_length_le (by omega)]
    rw [show L.length + 1 + m - L.length = m + 1 from by omega, List.take_succ_cons]
  have hfirst : firstOf (L ++ 46 :: tp) = -1 := by
    unfold firstOf
    rw [he1, hft]
    refine Lib.indexAny_none fun j c _ hc => ?_
    by_cases h1 : j < L.length
    · rw [List.getElem?_append_left h1] at hc
      exact hno j c h1 hc
    · rw [List.getElem?_append_right (by omega)] at hc
      cases h2 : j - L.length with
      | zero => rw [h2] at hc; simp at hc; subst hc; decide
      | succ i =>
        rw [h2, List.getElem?_cons_succ, List.getElem?_take] at hc
        split at hc
        · rename_i h3
          have := hna i c h3 hc
          cases h4 : he.contains c
          · rfl
          · rw [he_in_ae c h4] at this; exact this
        · simp at hc
  have he2 : end2 (L ++ 46 :: tp) = L.length + 1 + m := by
    unfold end2
    rw [hfirst, if_pos (by decide), he1]
  unfold cutLen
  rw [if_neg (by rw [hp]; decide), if_neg (by rw [hend]; omega), he2, if_neg]
  rw [hft]
  intro h
  have h1 := congrArg List.length h
  unfold Lib.trimSuffix at h1
  split at h1
  · rw [List.length_take, List.length_append, List.length_cons] at h1
    have : ([46] : List UInt8).length = 1 := rfl
    have : ([] : List UInt8).length = 0 := rfl
    omega
  · simp at h1

end Go.Proofs.Qxb6001580a
