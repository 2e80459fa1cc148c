/-
  SEAT b6003347a. THE PLAIN LAYER of memberStart and of the iterator traceStateMembers: where a member begins, what is yielded.
-/
import Derived.Test.Qxb6003347aText
import Derived.Lib.IndexMore
namespace Go.Proofs.Qxb6003347a

/-- The first byte that is no separator. -/
def ms0 (f : List UInt8) : Int := if f.dropWhile sep = [] then -1 else ((f.takeWhile sep).length : Int)

/-- Does a stamp member begin at i? -/
def startB (f : List UInt8) (i : Nat) : Bool := SP.isPrefixOf (f.drop i) && (decide (trimR (f.take i) = []) || decide ((trimR (f.take i)).getLast? = some 44))
/-- The first place at which one begins. -/
def msP (f : List UInt8) : Int := match (List.range (f.length + 1)).find? (startB f) with | some i => (i : Int) | none => -1

theorem msP_none {f : List UInt8} (h : ∀ i, i ≤ f.length → startB f i = false) : msP f = -1 := by
  unfold msP
  have : (List.range (f.length + 1)).find? (startB f) = none := by
    rw [List.find?_eq_none]
    intro i hi
    rw [h i (by have := List.mem_range.1 hi; omega)]
    decide
  rw [this]

theorem msP_some {f : List UInt8} {i : Nat} (hi : i ≤ f.length) (h : startB f i = true) (hb : ∀ j, j < i → startB f j = false) : msP f = i := by
  unfold msP
  have : (List.range (f.length + 1)).find? (startB f) = some i := by
    rw [List.find?_range_eq_some]
    exact ⟨h, List.mem_range.2 (by omega), fun j hj => by rw [hb j hj]; decide⟩
  rw [this]

theorem msP_spec (f : List UInt8) : (msP f = -1 ∧ ∀ i, i ≤ f.length → startB f i = false) ∨ ∃ i : Nat, msP f = i ∧ i ≤ f.length ∧ startB f i = true := by
  unfold msP
  cases h : (List.range (f.length + 1)).find? (startB f) with
  | none =>
    refine .inl ⟨rfl, fun i hi => ?_⟩
    have := List.find?_eq_none.1 h i (List.mem_range.2 (by omega))
    simpa using this
  | some i =>
    rw [List.find?_range_eq_some] at h
    exact .inr ⟨i, rfl, by have := List.mem_range.1 h.2.1; omega, h.1⟩

/-! ### A stamp member is among a field's members just where one begins -/

theorem segs_spec (f : List UInt8) : ∃ s0 t, segs f = s0 :: t ∧ (∃ b, f = s0 ++ b) ∧ ∀ s ∈ t, ∃ a b, f = a ++ 44 :: (s ++ b) := by
  induction f with
  | nil => exact ⟨[], [], rfl, ⟨[], rfl⟩, fun s hs => by simp at hs⟩
  | cons c r ih =>
    obtain ⟨s0, t, h1, ⟨b, h2⟩, h3⟩ := ih
    by_cases hc : c = 44
    · subst hc
      refine ⟨[], s0 :: t, ?_, ⟨_, rfl⟩, fun s hs => ?_⟩
      · rw [segs, if_pos (by decide), h1]
      · rcases List.mem_cons.1 hs with rfl | hs
        · exact ⟨[], b, by rw [h2]; rfl⟩
        · obtain ⟨a, b', h⟩ := h3 s hs
          exact ⟨44 :: a, b', by rw [h]; rfl⟩
    · refine ⟨c :: s0, t, ?_, ⟨b, by rw [h2]; rfl⟩, fun s hs => ?_⟩
      · rw [segs, if_neg (by simpa using hc), h1]
      · obtain ⟨a, b', h⟩ := h3 s hs
        exact ⟨c :: a, b', by rw [h]; rfl⟩

theorem trimR_prefix (l : List UInt8) : trimR l <+: l := by
  unfold trimR
  have := List.dropWhile_suffix (l := l.reverse) sp
  have h2 := List.reverse_prefix.2 this
  simpa using h2

theorem trimR_spaces {u : List UInt8} (h : ∀ c ∈ u, sp c = true) : ∀ (a : List UInt8), trimR (a ++ u) = trimR a := by
  intro a
  unfold trimR
  rw [List.reverse_append]
  congr 1
  have : ∀ v : List UInt8, (∀ c ∈ v, sp c = true) → ∀ b : List UInt8, (v ++ b).dropWhile sp = b.dropWhile sp := by
    intro v
    induction v with
    | nil => intro _ b; rfl
    | cons d v ih =>
      intro hv b
      rw [List.cons_append, List.dropWhile_cons, if_pos (hv d (by simp))]
      exact ih (fun c hc => hv c (by simp [hc])) b
  exact this _ (fun c hc => h c (by simpa using hc)) _

theorem spaces_of_takeWhile (l : List UInt8) : ∀ c ∈ l.takeWhile sp, sp c = true := by
  induction l with
  | nil => intro c hc; simp at hc
  | cons d r ih =>
    rw [List.takeWhile_cons]
    split
    · rename_i hd
      intro c hc
      rcases List.mem_cons.1 hc with rfl | hc
      · exact hd
      · exact ih c hc
    · intro c hc; simp at hc

theorem start_of_piece (a s b : List UInt8) (ha : a = [] ∨ ∃ a', a = a' ++ [44]) (h : SP.isPrefixOf (trim s) = true) : ∃ i, i ≤ (a ++ (s ++ b)).length ∧ startB (a ++ (s ++ b)) i = true := by
  have hs : s = s.takeWhile sp ++ trimL s := (List.takeWhile_append_dropWhile (p := sp) (l := s)).symm
  have hsp := spaces_of_takeWhile s
  generalize s.takeWhile sp = u at hs hsp
  generalize hv : trimL s = v at hs
  have hv2 : SP <+: v := by
    rw [List.isPrefixOf_iff_prefix] at h
    unfold trim at h
    rw [hv] at h
    exact h.trans (trimR_prefix v)
  refine ⟨a.length + u.length, by rw [hs]; simp, ?_⟩
  have hf : a ++ (s ++ b) = (a ++ u) ++ (v ++ b) := by rw [hs]; simp
  have ht : (a ++ (s ++ b)).take (a.length + u.length) = a ++ u := by
    rw [hf, ← List.length_append, List.take_left]
  have hd : (a ++ (s ++ b)).drop (a.length + u.length) = v ++ b := by
    rw [hf, ← List.length_append, List.drop_left]
  unfold startB
  rw [ht, hd, trimR_spaces hsp]
  have h1 : SP.isPrefixOf (v ++ b) = true := by
    rw [List.isPrefixOf_iff_prefix]
    exact hv2.trans (List.prefix_append v b)
  rw [h1]
  rcases ha with rfl | ⟨a', rfl⟩
  · simp [trimR_nil]
  · rw [trimR_no (show sp 44 = false from by decide)]
    simp

theorem segs_split (v x : List UInt8) : segs (v ++ 44 :: x) = segs v ++ segs x := by
  induction v with
  | nil => simp [segs]
  | cons c r ih =>
    rw [List.cons_append, segs, ih, segs.eq_2 c r]
    split
    · simp
    · cases hs : segs r with
      | nil => exact absurd hs (segs_ne r)
      | cons s t => simp

theorem mems_split (v x : List UInt8) : mems (v ++ 44 :: x) = mems v ++ mems x := by
  unfold mems
  rw [segs_split, List.map_append, List.filter_append]

theorem mems_spaces {u : List UInt8} (h : ∀ c ∈ u, sp c = true) (x : List UInt8) : mems (u ++ x) = mems x := by
  induction u with
  | nil => rfl
  | cons c u ih =>
    rw [List.cons_append, mems_drop_sp _ (h c (by simp))]
    exact ih fun d hd => h d (by simp [hd])

/-- What begins with the stamp's key still does when spaces are cut off its end. -/
theorem sp_keep : ∀ (n : Nat) (t : List UInt8), t.length = n → SP <+: trimR (SP ++ t) := by
  intro n
  induction n with
  | zero =>
    intro t ht
    obtain rfl := List.length_eq_zero_iff.1 ht
    rw [List.append_nil]
    have : trimR SP = SP := by decide
    rw [this]
    exact List.prefix_refl _
  | succ n ih =>
    intro t ht
    rcases last_cases t with rfl | ⟨r, d, rfl⟩
    · simp at ht
    · cases hd : sp d
      · rw [← List.append_assoc, trimR_no hd, List.append_assoc]
        exact List.prefix_append _ _
      · rw [← List.append_assoc, trimR_sp hd]
        exact ih r (by simp at ht; exact ht)

theorem cidx_SP (t : List UInt8) : cidx (SP ++ t) = 11 + cidx t := by
  unfold cidx SP
  simp
  omega

theorem mem_of_key (t : List UInt8) : ∃ m ∈ mems (SP ++ t), isSt m = true := by
  have hh := mems_head (c := 116) (r := [97, 108, 108, 121, 99, 108, 111, 99, 107, 61] ++ t) (by decide)
  have e : (116 : UInt8) :: ([97, 108, 108, 121, 99, 108, 111, 99, 107, 61] ++ t) = SP ++ t := rfl
  rw [e] at hh
  refine ⟨_, by rw [hh]; exact List.mem_cons_self, ?_⟩
  unfold isSt Lib.hasPrefix
  rw [List.isPrefixOf_iff_prefix, cidx_SP, show (SP ++ t).take (11 + cidx t) = SP ++ t.take (cidx t) from by rw [List.take_append, List.take_of_length_le (by show (11 : Nat) ≤ _; omega), show 11 + cidx t - SP.length = cidx t from by show 11 + cidx t - 11 = cidx t; omega]]
  exact sp_keep _ _ rfl

theorem trimR_rest (u : List UInt8) : ∃ s, u = trimR u ++ s ∧ ∀ c ∈ s, sp c = true := by
  refine ⟨(u.reverse.takeWhile sp).reverse, ?_, fun c hc => spaces_of_takeWhile _ c (by simpa using hc)⟩
  unfold trimR
  rw [← List.reverse_append, List.takeWhile_append_dropWhile, List.reverse_reverse]

/-- **THE FIELD HAS A STAMP MEMBER JUST WHERE ONE BEGINS SOMEWHERE.** -/
theorem has_iff (f : List UInt8) : hasSt (mems f) = true ↔ ∃ i, i ≤ f.length ∧ startB f i = true := by
  constructor
  · intro h
    obtain ⟨m, hm, hs⟩ := List.any_eq_true.1 h
    unfold mems at hm
    obtain ⟨hm1, _⟩ := List.mem_filter.1 hm
    obtain ⟨s, hsm, rfl⟩ := List.mem_map.1 hm1
    obtain ⟨s0, t, h1, ⟨b, h2⟩, h3⟩ := segs_spec f
    rw [h1] at hsm
    rcases List.mem_cons.1 hsm with rfl | hst
    · have := start_of_piece [] s b (.inl rfl) hs
      rw [List.nil_append, ← h2] at this
      exact this
    · obtain ⟨a, b', hf⟩ := h3 s hst
      have := start_of_piece (a ++ [44]) s b' (.inr ⟨a, rfl⟩) hs
      rw [List.append_assoc, List.cons_append, List.nil_append, ← hf] at this
      exact this
  · rintro ⟨i, hi, h⟩
    unfold startB at h
    simp only [Bool.and_eq_true, Bool.or_eq_true, decide_eq_true_eq] at h
    obtain ⟨h1, h2⟩ := h
    rw [List.isPrefixOf_iff_prefix] at h1
    obtain ⟨t, ht⟩ := h1
    have hf : f = f.take i ++ (SP ++ t) := by rw [ht, List.take_append_drop]
    obtain ⟨s, hs1, hs2⟩ := trimR_rest (f.take i)
    obtain ⟨m, hm1, hm2⟩ := mem_of_key t
    unfold hasSt
    rcases h2 with h2 | h2
    · rw [h2, List.nil_append] at hs1
      rw [hs1] at hf
      rw [hf, mems_spaces hs2]
      exact List.any_eq_true.2 ⟨m, hm1, hm2⟩
    · obtain ⟨v, hv⟩ : ∃ v, trimR (f.take i) = v ++ [44] := by
        rcases last_cases (trimR (f.take i)) with h | ⟨r, c, h⟩
        · rw [h] at h2; simp at h2
        · rw [h] at h2
          simp at h2
          exact ⟨r, by rw [h, h2]⟩
      rw [hv] at hs1
      have hf2 : f = v ++ 44 :: (s ++ (SP ++ t)) := by rw [hf, hs1]; simp
      rw [hf2, mems_split, mems_spaces hs2]
      exact List.any_eq_true.2 ⟨m, List.mem_append.2 (.inr hm1), hm2⟩

theorem msP_has (f : List UInt8) : (msP f < 0 ↔ hasSt (mems f) = false) := by
  rcases msP_spec f with ⟨h1, h2⟩ | ⟨i, h1, h2, h3⟩
  · rw [h1]
    refine ⟨fun _ => ?_, fun _ => by decide⟩
    cases h : hasSt (mems f)
    · rfl
    · obtain ⟨i, hi, hs⟩ := (has_iff f).1 h
      rw [h2 i hi] at hs
      cases hs
  · rw [h1]
    refine ⟨fun h => by omega, fun h => ?_⟩
    have := (has_iff f).2 ⟨i, h2, h3⟩
    rw [h] at this
    cases this

end Go.Proofs.Qxb6003347a
