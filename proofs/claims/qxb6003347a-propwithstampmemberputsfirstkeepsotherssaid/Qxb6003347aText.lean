/-
  SEAT b6003347a. THE PLAIN LAYER of the text: which members are kept, how they are joined.
-/
import Derived.Test.Qxb6003347aListM
import Derived.Lib.Join
namespace Go.Proofs.Qxb6003347a

/-- The members, a comma between them. -/
def joinC (l : List (List UInt8)) : List UInt8 := Lib.join l [44]

theorem joinC_nil : joinC [] = [] := rfl
theorem joinC_one (x : List UInt8) : joinC [x] = x := Lib.join_one x [44]
theorem joinC_cons (x y : List UInt8) (r : List (List UInt8)) : joinC (x :: y :: r) = x ++ 44 :: joinC (y :: r) := by
  unfold joinC
  rw [Lib.join_cons, Lib.join_cons]
  simp [Lib.joinTail]
theorem joinC_snoc (l : List (List UInt8)) (x : List UInt8) : joinC (l ++ [x]) = if l = [] then x else joinC l ++ 44 :: x := by
  induction l with
  | nil => simp [joinC_one]
  | cons a r ih =>
    rw [if_neg (by simp)]
    cases r with
    | nil => simp only [List.cons_append, List.nil_append]; rw [joinC_cons, joinC_one, joinC_one]
    | cons b r =>
      rw [if_neg (by simp)] at ih
      simp only [List.cons_append] at ih ⊢
      rw [joinC_cons, ih, joinC_cons]
      simp

/-- How many bytes they have together. -/
def tl : List (List UInt8) → Nat
  | [] => 0
  | m :: r => m.length + tl r

theorem tl_append (a b : List (List UInt8)) : tl (a ++ b) = tl a + tl b := by
  induction a with
  | nil => simp [tl]
  | cons f r ih => simp only [List.cons_append, tl, ih]; omega

theorem tl_filter (p : List UInt8 → Bool) (l : List (List UInt8)) : tl (l.filter p) ≤ tl l := by
  induction l with
  | nil => simp [tl]
  | cons m r ih =>
    rw [List.filter_cons]
    split
    · simp only [tl]; omega
    · simp only [tl]; omega

theorem tl_take (l : List (List UInt8)) (k : Nat) : tl (l.take k) ≤ tl l := by
  have := tl_append (l.take k) (l.drop k)
  rw [List.take_append_drop] at this
  omega

theorem joinC_length (l : List (List UInt8)) : (joinC l).length ≤ tl l + l.length := by
  induction l with
  | nil => simp [joinC_nil]
  | cons a r ih =>
    cases r with
    | nil => rw [joinC_one]; simp [tl]
    | cons b r =>
      rw [joinC_cons]
      simp only [tl, List.length_append, List.length_cons] at ih ⊢
      omega

theorem tl_segs (l : List UInt8) : tl (segs l) ≤ l.length := by
  induction l with
  | nil => simp [segs, tl]
  | cons c r ih =>
    unfold segs
    split
    · simp only [tl, List.length_cons, List.length_nil]; omega
    · cases hs : segs r with
      | nil => simp [tl]
      | cons s t =>
        rw [hs] at ih
        simp only [tl, List.length_cons] at ih ⊢
        omega

theorem tl_trim (l : List (List UInt8)) : tl (l.map trim) ≤ tl l := by
  induction l with
  | nil => simp [tl]
  | cons m r ih =>
    have := trim_length m
    simp only [List.map_cons, tl]
    omega

theorem tl_mems (l : List UInt8) : tl (mems l) ≤ l.length := by
  unfold mems
  exact Nat.le_trans (tl_filter _ _) (Nat.le_trans (tl_trim _) (tl_segs l))

theorem tl_memsAll (fs : List ByteArray) : tl (memsAll fs) ≤ tot fs := by
  induction fs with
  | nil => simp [memsAll, tot, tl]
  | cons f r ih =>
    have h := tl_mems f.data.toList
    rw [sz] at h
    have e : memsAll (f :: r) = mems f.data.toList ++ memsAll r := by simp [memsAll]
    rw [e, tl_append, tot]
    omega

theorem tl_mem {m : List UInt8} {l : List (List UInt8)} (h : m ∈ l) : m.length ≤ tl l := by
  induction l with
  | nil => simp at h
  | cons a r ih =>
    simp only [tl]
    rcases List.mem_cons.1 h with rfl | h
    · omega
    · have := ih h; omega

/-- The stamp's own member, where there is a stamp. -/
def K0 (st : List UInt8) : List (List UInt8) := if st = [] then [] else [SP ++ st]
/-- What is kept of the members that are no stamp member. -/
def others (ms : List (List UInt8)) : List (List UInt8) := ms.filter fun m => !isSt m
def keptOf (st : List UInt8) (ms : List (List UInt8)) : List (List UInt8) := (K0 st ++ others ms).take 32
def textOf (st : List UInt8) (ms : List (List UInt8)) : List UInt8 := joinC (keptOf st ms)

theorem K0_length (st : List UInt8) : (K0 st).length ≤ 1 := by unfold K0; split <;> simp
theorem tl_K0 (st : List UInt8) : tl (K0 st) ≤ 11 + st.length := by
  unfold K0
  split
  · simp [tl]
  · simp [tl, SP]; omega

theorem others_append (a b : List (List UInt8)) : others (a ++ b) = others a ++ others b := by simp [others]
theorem others_hit (a : List (List UInt8)) {m : List UInt8} (h : isSt m = true) : others (a ++ [m]) = others a := by rw [others_append]; simp [others, h]
theorem others_miss (a : List (List UInt8)) {m : List UInt8} (h : isSt m = false) : others (a ++ [m]) = others a ++ [m] := by rw [others_append]; simp [others, h]

/-- All have been read. -/
theorem kept_all {st : List UInt8} {ms : List (List UInt8)} (h : (K0 st ++ others ms).length ≤ 32) : keptOf st ms = K0 st ++ others ms := List.take_of_length_le h
/-- A part has been read, and 32 are kept. -/
theorem kept_part {st : List UInt8} {ms pre rest : List (List UInt8)} (hm : ms = pre ++ rest) (h : (K0 st ++ others pre).length = 32) : keptOf st ms = K0 st ++ others pre := by
  unfold keptOf
  rw [hm, others_append, ← List.append_assoc, List.take_append, h]
  rw [List.take_of_length_le (by omega)]
  simp

end Go.Proofs.Qxb6003347a
