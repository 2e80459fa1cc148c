/-
  SEAT b6003347a. THE PLAIN LAYER: spaces, commas, members of a list, over lists of bytes; no Go in sight.
-/
namespace Go.Proofs.Qxb6003347a

/-- A space or a tab. -/
def sp (c : UInt8) : Bool := c == 32 || c == 9
def trimL (l : List UInt8) : List UInt8 := l.dropWhile sp
def trimR (l : List UInt8) : List UInt8 := (l.reverse.dropWhile sp).reverse
def trim (l : List UInt8) : List UInt8 := trimR (trimL l)

theorem trimL_sp {c : UInt8} {l : List UInt8} (h : sp c = true) : trimL (c :: l) = trimL l := by unfold trimL; rw [List.dropWhile_cons, if_pos h]
theorem trimL_no {c : UInt8} {l : List UInt8} (h : sp c = false) : trimL (c :: l) = c :: l := by unfold trimL; rw [List.dropWhile_cons, if_neg (by rw [h]; decide)]
theorem trimR_sp {c : UInt8} {l : List UInt8} (h : sp c = true) : trimR (l ++ [c]) = trimR l := by unfold trimR; rw [List.reverse_append]; simp [h]
theorem trimR_no {c : UInt8} {l : List UInt8} (h : sp c = false) : trimR (l ++ [c]) = l ++ [c] := by unfold trimR; rw [List.reverse_append]; simp [h]
theorem trimL_nil : trimL [] = [] := rfl
theorem trimR_nil : trimR [] = [] := rfl

/-- Every list is empty or has a last byte. -/
theorem last_cases (l : List UInt8) : l = [] ∨ ∃ r c, l = r ++ [c] := by
  rcases List.eq_nil_or_concat l with h | ⟨r, c, h⟩
  · exact .inl h
  · exact .inr ⟨r, c, by simpa using h⟩

/-- The head stays when what is at the end is cut, if the head is no space. -/
theorem trimR_cons {c : UInt8} (h : sp c = false) : ∀ (n : Nat) (l : List UInt8), l.length = n → ∃ r, trimR (c :: l) = c :: r := by
  intro n
  induction n with
  | zero =>
    intro l hl
    obtain rfl := List.length_eq_zero_iff.1 hl
    exact ⟨[], by simpa using trimR_no (l := []) h⟩
  | succ n ih =>
    intro l hl
    rcases last_cases l with rfl | ⟨r, d, rfl⟩
    · simp at hl
    · simp at hl
      cases hd : sp d
      · exact ⟨r ++ [d], trimR_no (l := c :: r) hd⟩
      · obtain ⟨r', hr'⟩ := ih r hl
        exact ⟨r', by rw [← List.cons_append, trimR_sp hd]; exact hr'⟩

/-- The pieces between commas. -/
def segs : List UInt8 → List (List UInt8)
  | [] => [[]]
  | c :: r => if c == 44 then [] :: segs r else match segs r with | s :: t => (c :: s) :: t | [] => [[c]]

theorem segs_ne (l : List UInt8) : segs l ≠ [] := by
  cases l with
  | nil => simp [segs]
  | cons c r =>
    unfold segs
    split
    · simp
    · split <;> simp

/-- None or one. -/
def opt (m : List UInt8) : List (List UInt8) := if m = [] then [] else [m]

/-- The members of one field: the pieces, trimmed, the empty ones dropped. -/
def mems (l : List UInt8) : List (List UInt8) := ((segs l).map trim).filter fun m => decide (m ≠ [])

theorem mems_nil : mems [] = [] := by decide

theorem filter_opt (m : List UInt8) (t : List (List UInt8)) : (m :: t).filter (fun m => decide (m ≠ [])) = opt m ++ t.filter (fun m => decide (m ≠ [])) := by
  unfold opt
  by_cases h : m = []
  · rw [List.filter_cons_of_neg (by simp [h]), if_pos h]; rfl
  · rw [List.filter_cons_of_pos (by simp [h]), if_neg h]; rfl

/-- No comma. -/
def NoC (l : List UInt8) : Prop := ∀ c ∈ l, c ≠ 44

theorem segs_comma (s r : List UInt8) (h : NoC s) : segs (s ++ 44 :: r) = s :: segs r := by
  induction s with
  | nil => simp [segs]
  | cons c s ih =>
    have hc : (c == 44) = false := beq_eq_false_iff_ne.2 (h c (by simp))
    have := ih fun d hd => h d (by simp [hd])
    rw [List.cons_append, segs, if_neg (by rw [hc]; decide), this]

theorem segs_last (s : List UInt8) (h : NoC s) : segs s = [s] := by
  induction s with
  | nil => rfl
  | cons c s ih =>
    have hc : (c == 44) = false := beq_eq_false_iff_ne.2 (h c (by simp))
    have := ih fun d hd => h d (by simp [hd])
    rw [segs, if_neg (by rw [hc]; decide), this]

theorem mems_comma (s r : List UInt8) (h : NoC s) : mems (s ++ 44 :: r) = opt (trim s) ++ mems r := by
  unfold mems
  rw [segs_comma s r h, List.map_cons, filter_opt]

theorem mems_last (s : List UInt8) (h : NoC s) : mems s = opt (trim s) := by
  unfold mems
  rw [segs_last s h, List.map_cons, List.map_nil, filter_opt]
  simp

theorem mems_drop_comma (r : List UInt8) : mems (44 :: r) = mems r := by
  have := mems_comma [] r (fun c hc => by simp at hc)
  simpa [opt, trim, trimL, trimR] using this

theorem mems_drop_sp {c : UInt8} (r : List UInt8) (h : sp c = true) : mems (c :: r) = mems r := by
  have hc : (c == 44) = false := by
    rw [beq_eq_false_iff_ne]
    rintro rfl
    exact absurd h (by decide)
  unfold mems
  rw [segs, if_neg (by rw [hc]; decide)]
  cases hs : segs r with
  | nil => exact absurd hs (segs_ne r)
  | cons s t =>
    simp only [List.map_cons]
    rw [show trim (c :: s) = trim s from by unfold trim; rw [trimL_sp h]]

/-- A byte that stands between members. -/
def sep (c : UInt8) : Bool := c == 44 || sp c

theorem mems_skip (l : List UInt8) : mems (l.dropWhile sep) = mems l := by
  induction l with
  | nil => rfl
  | cons c r ih =>
    rw [List.dropWhile_cons]
    split
    · rename_i h
      rw [ih]
      unfold sep at h
      simp only [Bool.or_eq_true, beq_iff_eq] at h
      rcases h with rfl | h
      · exact (mems_drop_comma r).symm
      · exact (mems_drop_sp r h).symm
    · rfl

/-- How many bytes stand ahead of the first comma. -/
def cidx (l : List UInt8) : Nat := (l.takeWhile fun c => decide (c ≠ 44)).length

theorem take_cidx (l : List UInt8) : l.take (cidx l) = l.takeWhile fun c => decide (c ≠ 44) := by
  unfold cidx
  induction l with
  | nil => rfl
  | cons c r ih =>
    rw [List.takeWhile_cons]
    split
    · rw [List.length_cons, List.take_succ_cons, ih]
    · rfl
theorem drop_cidx (l : List UInt8) : l.drop (cidx l) = l.dropWhile fun c => decide (c ≠ 44) := by
  unfold cidx
  induction l with
  | nil => rfl
  | cons c r ih =>
    rw [List.takeWhile_cons, List.dropWhile_cons]
    split
    · rw [List.length_cons, List.drop_succ_cons, ih]
    · rfl
theorem cidx_le (l : List UInt8) : cidx l ≤ l.length := by
  unfold cidx
  exact (List.takeWhile_sublist _).length_le
theorem noC_take (l : List UInt8) : NoC (l.take (cidx l)) := by
  rw [take_cidx]
  induction l with
  | nil => intro c hc; simp at hc
  | cons d r ih =>
    rw [List.takeWhile_cons]
    split
    · rename_i hd
      intro c hc
      rcases List.mem_cons.1 hc with rfl | hc
      · simpa using hd
      · exact ih c hc
    · intro c hc; simp at hc

/-- A field whose first byte is no separator: its first member, and the rest. -/
theorem mems_head {c : UInt8} {r : List UInt8} (h : sep c = false) : mems (c :: r) = trimR ((c :: r).take (cidx (c :: r))) :: mems ((c :: r).drop (cidx (c :: r))) := by
  have hsp : sp c = false := by unfold sep at h; simp only [Bool.or_eq_false_iff] at h; exact h.2
  have hc : c ≠ 44 := by unfold sep at h; simp only [Bool.or_eq_false_iff, beq_eq_false_iff_ne] at h; exact h.1
  have hno := noC_take (c :: r)
  have hcat := List.take_append_drop (cidx (c :: r)) (c :: r)
  obtain ⟨s, hs⟩ : ∃ s, (c :: r).take (cidx (c :: r)) = c :: s := by
    rw [take_cidx, List.takeWhile_cons, if_pos (by simp [hc])]
    exact ⟨_, rfl⟩
  have ht : trim (c :: s) = trimR (c :: s) := by unfold trim; rw [trimL_no hsp]
  have hne : trimR (c :: s) ≠ [] := by
    obtain ⟨r', hr'⟩ := trimR_cons hsp _ s rfl
    rw [hr']; simp
  have ho : opt (trim (c :: s)) = [trimR (c :: s)] := by rw [ht]; unfold opt; rw [if_neg hne]
  rw [hs] at hno hcat ⊢
  cases hd : (c :: r).drop (cidx (c :: r)) with
  | nil =>
    rw [hd, List.append_nil] at hcat
    rw [← hcat, mems_last _ hno, ho, mems_nil]
  | cons d t =>
    have hd44 : d = 44 := by
      rw [drop_cidx] at hd
      have := List.head_dropWhile_not (fun c => decide (c ≠ 44)) (l := c :: r) (by rw [hd]; simp)
      simp only [hd, List.head_cons] at this
      simpa using this
    subst hd44
    rw [hd] at hcat
    rw [← hcat, mems_comma _ _ hno, ho, mems_drop_comma]
    rfl

end Go.Proofs.Qxb6003347a
