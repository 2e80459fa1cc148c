/-
  SEAT b6001714a. THE PLAIN LAW: a line that bears the three openings, in whatever order, names the three groups.
-/
import Derived.Test.Qxb6001714aNames
import Derived.Test.Qxb6001714aApp
import Derived.Test.Qxb6001714aPick
import Derived.Lib.IndexMore
namespace Go.Proofs.Qxb6001714a

theorem contains_mid (X S Y : List UInt8) : Lib.contains (X ++ (S ++ Y)) S = true := by
  unfold Lib.contains
  rcases Lib.index_spec (X ++ (S ++ Y)) S with ⟨_, h⟩ | ⟨i, h, _⟩
  · have := h X.length (by simp)
    unfold Lib.occAt at this
    rw [List.drop_left] at this
    have hp : S.isPrefixOf (S ++ Y) = true := by rw [List.isPrefixOf_iff_prefix]; exact List.prefix_append S Y
    rw [hp] at this
    cases this
  · rw [h]; simp

theorem bytesOf_append (X Y : List Int) : Lib.bytesOf (X ++ Y) = Lib.bytesOf X ++ Lib.bytesOf Y := by simp [Lib.bytesOf]

/-- An opening inside a line. -/
theorem open_in (X Y : List Int) (nm : ByteArray) (p : Bool) (l : List UInt8) (h : nm.data.toList = l) :
    Lib.contains (Lib.bytesOf (X ++ (openL (nm.data.toList.map fun b => (b.toNat : Int)) p ++ Y))) ([40, 63, 60] ++ l ++ [62]) = true ∨ Lib.contains (Lib.bytesOf (X ++ (openL (nm.data.toList.map fun b => (b.toNat : Int)) p ++ Y))) ([40, 63, 80, 60] ++ l ++ [62]) = true := by
  have hb : Lib.bytesOf (l.map fun b => (b.toNat : Int)) = l := by simp [Lib.bytesOf, Function.comp_def]
  rw [h, bytesOf_append, bytesOf_append]
  cases p
  · refine .inl ?_
    have e : Lib.bytesOf (openL (l.map fun b => (b.toNat : Int)) false) = [40, 63, 60] ++ l ++ [62] := by
      unfold openL
      simp only [bytesOf_append, hb]
      rfl
    rw [e]
    exact contains_mid _ _ _
  · refine .inr ?_
    have e : Lib.bytesOf (openL (l.map fun b => (b.toNat : Int)) true) = [40, 63, 80, 60] ++ l ++ [62] := by
      unfold openL
      simp only [bytesOf_append, hb]
      rfl
    rw [e]
    exact contains_mid _ _ _

theorem pick_all (a : Int) (h0 : 0 ≤ a) (h5 : a ≤ 5) (k : Nat) (hk : k < 3) : (gname (pick a 0)).data.toList = nameK k ∨ (gname (pick a 1)).data.toList = nameK k ∨ (gname (pick a 2)).data.toList = nameK k := by
  rcases (by omega : a = 0 ∨ a = 1 ∨ a = 2 ∨ a = 3 ∨ a = 4 ∨ a = 5) with rfl | rfl | rfl | rfl | rfl | rfl <;> rcases (by omega : k = 0 ∨ k = 1 ∨ k = 2) with rfl | rfl | rfl
  all_goals first | exact .inl rfl | exact .inr (.inl rfl) | exact .inr (.inr rfl)

def nm (a q : Int) : List Int := (gname (pick a q)).data.toList.map fun b => (b.toNat : Int)

theorem line_names (a : Int) (h0 : 0 ≤ a) (h5 : a ≤ 5) (A B C D : List Int) (x y z : Bool) (k : Nat) (hk : k < 3) :
    Lib.contains (Lib.bytesOf (A ++ openL (nm a 0) x ++ B ++ openL (nm a 1) y ++ C ++ openL (nm a 2) z ++ D)) ([40, 63, 60] ++ nameK k ++ [62]) = true ∨
    Lib.contains (Lib.bytesOf (A ++ openL (nm a 0) x ++ B ++ openL (nm a 1) y ++ C ++ openL (nm a 2) z ++ D)) ([40, 63, 80, 60] ++ nameK k ++ [62]) = true := by
  rcases pick_all a h0 h5 k hk with h | h | h
  · have := open_in A (B ++ openL (nm a 1) y ++ C ++ openL (nm a 2) z ++ D) (gname (pick a 0)) x (nameK k) h
    simpa only [nm, List.append_assoc] using this
  · have := open_in (A ++ openL (nm a 0) x ++ B) (C ++ openL (nm a 2) z ++ D) (gname (pick a 1)) y (nameK k) h
    simpa only [nm, List.append_assoc] using this
  · have := open_in (A ++ openL (nm a 0) x ++ B ++ openL (nm a 1) y ++ C) D (gname (pick a 2)) z (nameK k) h
    simpa only [nm, List.append_assoc] using this

theorem gname_size (k : Int) : (gname k).size ≤ 5 := by
  unfold gname
  split
  · decide
  · split <;> decide

theorem nm_length (a q : Int) : (nm a q).length ≤ 5 := by
  have h := gname_size (pick a q)
  have e : (gname (pick a q)).data.toList.length = (gname (pick a q)).size := Array.length_toList
  unfold nm
  rw [List.length_map]
  omega

theorem openL_length (l : List Int) (p : Bool) : (openL l p).length ≤ l.length + 5 := by
  unfold openL
  cases p <;> simp

theorem nm_byte (a q : Int) : ∀ x ∈ nm a q, 0 ≤ x ∧ x < 256 := by
  intro x hx
  obtain ⟨b, _, rfl⟩ := List.mem_map.1 hx
  have := b.toNat_lt
  omega

theorem openL_byte (l : List Int) (p : Bool) (h : ∀ x ∈ l, 0 ≤ x ∧ x < 256) : ∀ x ∈ openL l p, 0 ≤ x ∧ x < 256 := by
  intro x hx
  unfold openL at hx
  simp only [List.mem_append, List.mem_cons, List.not_mem_nil, or_false] at hx
  rcases hx with (((hx | hx) | rfl) | hx) | rfl
  · rcases hx with rfl | rfl <;> decide
  · cases p
    · simp at hx
    · simp at hx; subst hx; decide
  · decide
  · exact h x hx
  · decide

end Go.Proofs.Qxb6001714a
