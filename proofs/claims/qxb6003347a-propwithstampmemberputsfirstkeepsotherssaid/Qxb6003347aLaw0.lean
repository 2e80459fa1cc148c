/-
  SEAT b6003347a. What the law's walk leans on: the plain shape of the text, the members' slice kept, ZZWithStampMember.
-/
import Derived.Test.Qxb6003347aWith
import Derived.Test.Qxb6003347aListM
import Derived.Test.Qxb6003347aW3C
namespace Go.Proofs.Qxb6003347a
open Go.RowKit

/-- With a stamp the text begins with the stamp's member; what follows begins with a comma. -/
theorem text_first {st : List UInt8} (h : st ≠ []) (ms : List (List UInt8)) : ∃ rest, textOf st ms = (SP ++ st) ++ rest ∧ (rest = [] ∨ ∃ r, rest = 44 :: r) := by
  have hk : keptOf st ms = (SP ++ st) :: (others ms).take 31 := by
    unfold keptOf K0
    rw [if_neg h]
    rfl
  unfold textOf
  rw [hk]
  cases hr : (others ms).take 31 with
  | nil => exact ⟨[], by rw [joinC_one, List.append_nil], .inl rfl⟩
  | cons y r => exact ⟨44 :: joinC (y :: r), joinC_cons _ _ _, .inr ⟨_, rfl⟩⟩

/-- What ZZWithStampMember's text is. -/
def wt (st : List UInt8) (ms : List (List UInt8)) : List UInt8 := if st = [] ∧ hasSt ms = false then [] else textOf st ms

theorem withRes_wt {st : List UInt8} {fs : List ByteArray} {e : Ending} (h : WithRes st fs e) : e = .returned (.tuple #[.string (S (wt st (memsAll fs))), .bool (hasSt (memsAll fs))]) := by
  unfold WithRes at h
  rw [h]
  unfold wt
  split
  · rename_i hc
    rw [hc.2]
    rfl
  · rfl

theorem MineS.below {B : Nat} {w w' : World} {v : Value} {ms : List (List UInt8)} (h : MineS B w v ms) (hb : Below w.heap.size w w') : MineS B w' v ms := by
  refine ⟨h.1, ?_⟩
  rcases h.2 with h2 | ⟨g, cap, cur, h1, h2, h3, h4⟩
  · exact .inl h2
  · exact .inr ⟨g, cap, cur, h1, h2, (hb.block g (Array.getElem?_eq_some_iff.1 h3).1).trans h3, h4⟩

theorem zzHasStampMember_mine (B : Nat) (v : Value) (ms : List (List UInt8)) (w : World) (h : MineS B w v ms) (hn : ms.length ≤ maxLen) (hbig : ∀ m ∈ ms, m.length ≤ 1048576) :
    Calls Try.prog 16 #[v] w fun e w' => e = .returned (.bool (hasSt ms)) ∧ ∃ q, w' = w.drewN q := by
  have hcells := fun {g : Nat} (hg : v.ownBlock = some g) => World.ownsRow.cells h hg
  rcases h.2 with ⟨rfl, h2⟩ | ⟨g, cap, cur, rfl, _⟩
  · exact zzHasStampMember_any none 0 0 ms w ⟨by rw [List.length_map]; exact h2, .inl rfl⟩ (Nat.zero_le _) hbig
  · refine zzHasStampMember_any (some ⟨g, 0, none⟩) ms.length cap ms w ⟨List.length_map _, .inr ⟨g, 0, rfl, fun i hi => ?_⟩⟩ hn hbig
    have := hcells (g := g) rfl i (.string (S (ms[i]'hi))) (by rw [List.getElem?_map, List.getElem?_eq_getElem hi]; rfl)
    rw [getD_S ms i hi, ← this, Addr.add_lit]

set_option maxHeartbeats 1000000 in
theorem zzWith_any (p : Option Addr) (n c : Nat) (m : Int) (fs : List ByteArray) (st : ByteArray) (w : World) (hst : Strs w p n fs) (hbe : ∀ b off, p = some ⟨b, off, none⟩ → b < w.heap.size)
    (hbd : n + tot fs + st.size ≤ 1048576) (hm : w.cell? ⟨0, 0, none⟩ = some (.int .i64 m)) :
    Calls Try.prog 17 #[.slice p n c, .string st] w fun e w' => e = .returned (.tuple #[.string (S (wt st.data.toList (memsAll fs))), .bool (hasSt (memsAll fs))]) ∧ Below w.heap.size w w' := by
  have hlen := hst.1
  have hsz : ∀ f ∈ fs, f.size < 4294967281 := fun f hf => by
    have : f.size ≤ tot fs := by
      clear hst hbd hlen
      induction fs with
      | nil => simp at hf
      | cons g r ih =>
        rw [tot]
        rcases List.mem_cons.1 hf with rfl | h
        · omega
        · have := ih h; omega
    omega
  subst hlen
  have hW := (callsIn_wide (n := 6)).1 ((with_in 6 (by omega) p c m fs st w hsz (by omega) (World.block_lt_of_cell? w _ hm) hm hst hbe (by omega) (by omega)).mono fun e w' h => (⟨withRes_wt h.1, h.2⟩ : e = .returned (.tuple #[.string (S (wt st.data.toList (memsAll fs))), .bool (hasSt (memsAll fs))]) ∧ Below w.heap.size w w'))
  obtain ⟨t, ht⟩ : ∃ t, S (wt st.data.toList (memsAll fs)) = t := ⟨_, rfl⟩
  obtain ⟨r, hr⟩ : ∃ r, hasSt (memsAll fs) = r := ⟨_, rfl⟩
  rw [ht, hr] at hW ⊢
  clear hm hst hbe hsz
  go_enter Try.func17, Try.ntmps17
  go_wp2_with (go_at_call 29; refine hW.mono ?_; rintro e w' ⟨rfl, hw⟩)
  go_ret2
  exact ⟨rfl, hw⟩

end Go.Proofs.Qxb6003347a
