/-
  SEAT b6003347a. THE PLAIN LAYER of the iterator traceStateMembers: what it yields.
-/
import Derived.Test.Qxb6003347aStarts
namespace Go.Proofs.Qxb6003347a

/-- What the iterator yields out of one field, over the rule for where a member begins. -/
def ysF (ms : List UInt8 → Int) (pl : Nat) : Nat → List UInt8 → List (List UInt8)
  | 0, _ => []
  | n + 1, f => if ms f < 0 then [] else trimR (((f.drop (ms f).toNat).take (cidx (f.drop (ms f).toNat))).drop pl) :: ysF ms pl n ((f.drop (ms f).toNat).drop (cidx (f.drop (ms f).toNat)))

/-- A rule that finds a place in the field, with the prefix at it. -/
def Good (ms : List UInt8 → Int) (pl : Nat) : Prop := ∀ f, 0 ≤ ms f → (ms f).toNat ≤ f.length ∧ pl ≤ cidx (f.drop (ms f).toNat) ∧ 0 < cidx (f.drop (ms f).toNat)

theorem good_short {ms : List UInt8 → Int} {pl : Nat} (h : Good ms pl) (f : List UInt8) (h0 : 0 ≤ ms f) : ((f.drop (ms f).toNat).drop (cidx (f.drop (ms f).toNat))).length < f.length := by
  obtain ⟨h1, _, h3⟩ := h f h0
  have := cidx_le (f.drop (ms f).toNat)
  simp only [List.length_drop] at this ⊢
  omega

theorem ysF_fuel {ms : List UInt8 → Int} {pl : Nat} (h : Good ms pl) : ∀ (n m : Nat) (f : List UInt8), f.length < n → f.length < m → ysF ms pl n f = ysF ms pl m f := by
  intro n
  induction n with
  | zero => intro m f hn; omega
  | succ n ih =>
    intro m f hn hm
    cases m with
    | zero => omega
    | succ m =>
      rw [ysF, ysF]
      by_cases h0 : ms f < 0
      · rw [if_pos h0, if_pos h0]
      · rw [if_neg h0, if_neg h0]
        have := good_short h f (by omega)
        rw [ih m _ (by omega) (by omega)]

/-- What the iterator yields out of one field. -/
def ysOf (ms : List UInt8 → Int) (pl : Nat) (f : List UInt8) : List (List UInt8) := ysF ms pl (f.length + 1) f

theorem ysOf_none {ms : List UInt8 → Int} {pl : Nat} {f : List UInt8} (h : ms f < 0) : ysOf ms pl f = [] := by
  unfold ysOf
  rw [ysF, if_pos h]

theorem ysOf_some {ms : List UInt8 → Int} {pl : Nat} (hg : Good ms pl) {f : List UInt8} (h : 0 ≤ ms f) :
    ysOf ms pl f = trimR (((f.drop (ms f).toNat).take (cidx (f.drop (ms f).toNat))).drop pl) :: ysOf ms pl ((f.drop (ms f).toNat).drop (cidx (f.drop (ms f).toNat))) := by
  have hs := good_short hg f h
  unfold ysOf
  rw [ysF, if_neg (by omega), ysF_fuel hg f.length _ _ hs (Nat.lt_succ_self _)]

theorem drop_sep (f : List UInt8) : f.drop (f.takeWhile sep).length = f.dropWhile sep := by
  induction f with
  | nil => rfl
  | cons c r ih =>
    rw [List.takeWhile_cons, List.dropWhile_cons]
    split
    · rw [List.length_cons, List.drop_succ_cons, ih]
    · rfl

theorem head_sep (f : List UInt8) (c : UInt8) (r : List UInt8) (h : f.dropWhile sep = c :: r) : sep c = false := by
  induction f with
  | nil => simp at h
  | cons d f ih =>
    rw [List.dropWhile_cons] at h
    split at h
    · exact ih h
    · rename_i hd
      cases h
      simpa using hd

theorem ms0_pos {f : List UInt8} (h : 0 ≤ ms0 f) : ∃ c r, f.drop (ms0 f).toNat = c :: r ∧ f.dropWhile sep = c :: r ∧ sep c = false ∧ (ms0 f).toNat ≤ f.length := by
  unfold ms0 at h ⊢
  split at h
  · omega
  · rename_i hne
    rw [if_neg hne]
    cases hd : f.dropWhile sep with
    | nil => exact absurd hd hne
    | cons c r =>
      refine ⟨c, r, ?_, rfl, head_sep f c r hd, ?_⟩
      · rw [Int.toNat_natCast, drop_sep, hd]
      · rw [Int.toNat_natCast]
        exact (List.takeWhile_prefix (l := f) sep).length_le

theorem cidx_pos {c : UInt8} {r : List UInt8} (h : sep c = false) : 0 < cidx (c :: r) := by
  have hc : c ≠ 44 := by
    rintro rfl
    exact absurd h (by decide)
  unfold cidx
  rw [List.takeWhile_cons, if_pos (by simpa using hc)]
  simp

theorem good0 : Good ms0 0 := fun f h => by
  obtain ⟨c, r, h1, _, h3, h4⟩ := ms0_pos h
  rw [h1]
  exact ⟨h4, Nat.zero_le _, cidx_pos h3⟩

theorem goodP : Good msP 11 := fun f h => by
  rcases msP_spec f with ⟨h1, _⟩ | ⟨i, h1, h2, h3⟩
  · rw [h1] at h; omega
  · rw [h1, Int.toNat_natCast]
    unfold startB at h3
    simp only [Bool.and_eq_true] at h3
    have h4 := h3.1
    rw [List.isPrefixOf_iff_prefix] at h4
    obtain ⟨t, ht⟩ := h4
    rw [← ht, cidx_SP]
    exact ⟨h2, by omega, by omega⟩

/-- **WITH THE EMPTY PREFIX: the field's members.** -/
theorem ysOf_mems : ∀ (n : Nat) (f : List UInt8), f.length = n → ysOf ms0 0 f = mems f := by
  intro n
  induction n using Nat.strongRecOn with
  | _ n ih =>
    intro f hf
    by_cases h : ms0 f < 0
    · rw [ysOf_none h]
      unfold ms0 at h
      split at h
      · rename_i he
        rw [← mems_skip f, he]
        exact mems_nil.symm
      · omega
    · have h0 : 0 ≤ ms0 f := by omega
      have hs := good_short good0 f h0
      rw [ysOf_some good0 h0, ih _ (by rw [← hf]; exact hs) _ rfl]
      obtain ⟨c, r, h1, h2, h3, _⟩ := ms0_pos h0
      rw [h1, ← mems_skip f, h2, mems_head h3, List.drop_zero]

/-- **WITH THE STAMP'S KEY: something just where the field has a stamp member.** -/
theorem ysOf_key (f : List UInt8) : ysOf msP 11 f = [] ↔ hasSt (mems f) = false := by
  rw [← msP_has]
  by_cases h : msP f < 0
  · exact ⟨fun _ => h, fun _ => ysOf_none h⟩
  · rw [ysOf_some goodP (by omega)]
    exact ⟨fun e => by simp at e, fun e => absurd e h⟩

/-- Over all fields. -/
def ysAll (ms : List UInt8 → Int) (pl : Nat) (fs : List (List UInt8)) : List (List UInt8) := (fs.map (ysOf ms pl)).flatten
theorem ysAll_take_succ (ms : List UInt8 → Int) (pl : Nat) (fs : List (List UInt8)) (k : Nat) (f : List UInt8) (h : fs[k]? = some f) : ysAll ms pl (fs.take (k + 1)) = ysAll ms pl (fs.take k) ++ ysOf ms pl f := by
  unfold ysAll
  obtain ⟨hk, e⟩ := List.getElem?_eq_some_iff.1 h
  rw [List.take_succ_eq_append_getElem hk, e]
  simp
theorem ysAll_prefix (ms : List UInt8 → Int) (pl : Nat) (fs : List (List UInt8)) (k : Nat) : ysAll ms pl (fs.take k) <+: ysAll ms pl fs := by
  refine ⟨ysAll ms pl (fs.drop k), ?_⟩
  unfold ysAll
  rw [← List.flatten_append, ← List.map_append, List.take_append_drop]

end Go.Proofs.Qxb6003347a
