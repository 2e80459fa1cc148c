/-
  SEAT b6003347a. zzHasStampMember; append onto a []string of the call's own; zzListMembers with the empty prefix.
-/
import Derived.Test.Qxb6003347aFields
import Derived.Laws.AppendOwnNone
namespace Go.Proofs.Qxb6003347a
open Go.RowKit

/-- Is it a stamp member? -/
def isSt (m : List UInt8) : Bool := Lib.hasPrefix m SP
def hasSt (ms : List (List UInt8)) : Bool := ms.any isSt

theorem getD_S (ms : List (List UInt8)) (k : Nat) (h : k < ms.length) : (ms.map S).getD k ByteArray.empty = S (ms[k]'h) := by
  simp [List.getD, h]

set_option maxHeartbeats 2000000 in
theorem zzHasStampMember_any (p : Option Addr) (n c : Nat) (ms : List (List UInt8)) (w : World) (h : Strs w p n (ms.map S)) (hn : n ≤ maxLen) (hbig : ∀ m ∈ ms, m.length ≤ 1048576) :
    Calls Try.prog 16 #[.slice p n c] w fun e w' => e = .returned (.bool (hasSt ms)) ∧ ∃ q, w' = w.drewN q := by
  unfold maxLen at hn
  obtain ⟨hlen, hcase⟩ := h
  rw [List.length_map] at hlen
  by_cases hn0 : n = 0
  · subst hn0
    obtain rfl : ms = [] := List.length_eq_zero_iff.1 hlen
    rw [show hasSt [] = false from rfl]
    go_enter Try.func16, Try.ntmps16
    go_wp2
    refine wp_loop_rounds 1 ?_; rw [rounds_succ]
    go_wp2
    go_ret
    exact ⟨rfl, 0, rfl⟩
  · rcases hcase with h0 | ⟨b, off, rfl, hcell⟩
    · exact absurd h0 hn0
    have HC : Hid (∀ i, i < n → w.cell? ⟨b, off + i, none⟩ = some (.string ((ms.map S).getD i ByteArray.empty))) := hcell
    have HL : Hid (ms.length = n) := hlen
    have HB : Hid (∀ m ∈ ms, m.length ≤ 1048576) := hbig
    clear hcell hn0 hlen hbig
    go_enter Try.func16, Try.ntmps16
    go_wp2
    go_loopw [3] (fun i wr => ∃ (k q : Nat), k ≤ n ∧ i = .int .i64 k ∧ wr = w.drewN q ∧ Hid (∀ m ∈ ms.take k, isSt m = false)) (fun i _ => n - (intOf i).toNat)
    case atStart => exact ⟨0, 0, Nat.zero_le _, rfl, rfl, fun m hm => by simp at hm⟩
    case round =>
      obtain ⟨k, q, hk, rfl, rfl, HN⟩ := hrel
      by_cases hlt : k < n
      · have hkl : k < ms.length := by rw [HL.out]; exact hlt
        obtain ⟨m, hm⟩ : ∃ m, ms[k]'hkl = m := ⟨_, rfl⟩
        have hc := HC.out k hlt
        rw [getD_S ms k hkl, hm] at hc
        have HM : Hid (m ∈ ms) := by rw [← hm]; exact List.getElem_mem hkl
        have HT : Hid (ms.take (k + 1) = ms.take k ++ [m]) := by show _ = _; rw [List.take_succ_eq_append_getElem hkl, hm]
        have hms : (S m).size ≤ maxLen := by rw [S_size]; have := HB.out m HM.out; unfold maxLen; omega
        have hpre := fun wx => zzHasPrefix_any (S m) ⟨#[116, 97, 108, 108, 121, 99, 108, 111, 99, 107, 61]⟩ wx hms
        generalize hsm : S m = s at hc hpre hms
        clear hm hms
        cases hst : isSt m
        · have hf : Lib.hasPrefix s.data.toList (⟨#[116, 97, 108, 108, 121, 99, 108, 111, 99, 107, 61]⟩ : ByteArray).data.toList = false := by rw [← hsm]; exact hst
          rw [hf] at hpre
          have HST : Hid (isSt m = false) := hst
          clear hsm hf hst
          go_wp2_with (go_at_call 22; refine (hpre _).mono ?_; rintro e w' ⟨rfl, q2, rfl⟩)
          go_roundw
          case rel => exact ⟨k + 1, q + q2, by omega, by go_num, rfl, fun m' hm' => by
            rw [HT.out] at hm'
            rcases List.mem_append.1 hm' with h | h
            · exact HN.out m' h
            · simp at h; subst h; exact HST.out⟩
          case measure => simp [intOf]; omega
        · have ht : Lib.hasPrefix s.data.toList (⟨#[116, 97, 108, 108, 121, 99, 108, 111, 99, 107, 61]⟩ : ByteArray).data.toList = true := by rw [← hsm]; exact hst
          rw [ht] at hpre
          have HA : Hid (hasSt ms = true) := by
            show _ = _
            exact List.any_eq_true.2 ⟨m, HM.out, hst⟩
          clear hsm ht hst
          go_wp2_with (go_at_call 22; refine (hpre _).mono ?_; rintro e w' ⟨rfl, q2, rfl⟩)
          go_ret
          exact ⟨by rw [HA.out]; rfl, q + q2, rfl⟩
      · obtain rfl : k = n := by omega
        have HF : Hid (hasSt ms = false) := by
          show _ = _
          unfold hasSt
          rw [List.any_eq_false]
          intro m hm
          rw [HN.out m (by rw [List.take_of_length_le (by rw [HL.out]; exact Nat.le_refl _)]; exact hm)]
          decide
        have hkn : ¬ (k : Int) < (k : Int) := by omega
        go_wp2
        go_ret
        exact ⟨by rw [HF.out]; rfl, _, rfl⟩

theorem Try.info9 : (Try.prog.info? 9).map (fun i => (i.zero, i.size, i.bytes)) = some (some (.string ByteArray.empty), 1, 16) := by kernel_rfl

/-- v is a slice of the call's own (in blocks from B on) that holds the strings ms. -/
def MineS (B : Nat) (w : World) (v : Value) (ms : List (List UInt8)) : Prop := w.ownsRow B 9 1 v ms.length (ms.map fun m => Value.string (S m))

theorem MineS.alloc {B : Nat} {w : World} {v : Value} {ms : List (List UInt8)} (h : MineS B w v ms) (o : Obj) : MineS B (w.alloc o) v ms := World.ownsRow.alloc h o

/-- 'append(v, s)', s a string that has just been laid. -/
theorem wp_push (w : World) {ops : Array Oper} {rest : List Oper} {o : Oper} {a : Act} {Q : Exit → Act → World → Prop} (hgd : o.guard = none) (s x : Operand)
    (ho : o.op = .call { callee := .builtin .append, args := #[s, x], argTypes := #[36, 36] })
    (B : Nat) (v : Value) (ms : List (List UInt8)) (hs : a.eval s = v) (hown : MineS B w v ms) (t : ByteArray)
    (hx : a.eval x = .slice (some ⟨w.heap.size, 0, none⟩) 1 1) (hfit : ms.length + 1 ≤ 16777216) (hB : B ≤ w.heap.size)
    (h : ∀ v' w', MineS B w' v' (ms ++ [t.data.toList]) → Below B (w.alloc (.cells #[.string t] 9)) w' → wpList Try.prog ops Q rest (a.put o.dst v') w') : wpList Try.prog ops Q (o :: rest) a (w.alloc (.cells #[.string t] 9)) := by
  obtain ⟨i0, hi, hz0, hz1, hz2⟩ := info_parts Try.info9
  refine wpList_append_own _ hgd s x 36 ho B 9 i0 (.string ByteArray.empty) 1 16 Try.underlying36 hi hz0 hz1 hz2 rfl (by decide) v _ _ hs (World.ownsRow.alloc hown _) ⟨w.heap.size, 0, none⟩ 1 1 [.string t] hx rfl (cell_one_new _ _ _) (by intro u hu; simp at hu; subst hu; rfl) (by unfold maxLen; omega) (by omega) (by simp; omega) ?_
  intro v' w' h1 h2 _
  refine h v' w' ?_ ((Below.refl B _).grown h2 (by simp; omega) fun k hk => (World.ownsRow.lt hown k hk).1)
  unfold MineS
  rw [List.length_append, List.map_append]
  simp only [List.map_cons, List.map_nil, List.length_cons, List.length_nil, S_of]
  exact h1

/-- The members of all fields. -/
def memsAll (fs : List ByteArray) : List (List UInt8) := fs.flatMap fun f => mems f.data.toList

theorem segs_length (l : List UInt8) : (segs l).length ≤ l.length + 1 := by
  induction l with
  | nil => simp [segs]
  | cons c r ih =>
    unfold segs
    split
    · simp; omega
    · cases hs : segs r with
      | nil => simp
      | cons s t =>
        rw [hs] at ih
        simp only [List.length_cons] at ih ⊢
        omega

theorem mems_length (l : List UInt8) : (mems l).length ≤ l.length + 1 := by
  unfold mems
  refine Nat.le_trans (List.length_filter_le _ _) ?_
  rw [List.length_map]
  exact segs_length l

theorem memsAll_length (fs : List ByteArray) : (memsAll fs).length ≤ fs.length + tot fs := by
  induction fs with
  | nil => simp [memsAll, tot]
  | cons f r ih =>
    have h := mems_length f.data.toList
    rw [sz] at h
    have e : memsAll (f :: r) = mems f.data.toList ++ memsAll r := by simp [memsAll]
    rw [e, List.length_append, tot, List.length_cons]
    omega

theorem memsAll_take_succ (fs : List ByteArray) (k : Nat) (h : k < fs.length) : memsAll (fs.take (k + 1)) = memsAll (fs.take k) ++ mems (fs.getD k ByteArray.empty).data.toList := by
  unfold memsAll
  rw [List.take_succ_eq_append_getElem h, List.flatMap_append, List.flatMap_cons, List.flatMap_nil, List.append_nil]
  simp only [List.getD, List.getElem?_eq_getElem h, Option.getD_some]

end Go.Proofs.Qxb6003347a
