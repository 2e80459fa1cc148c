/-
  SEAT b6003347a. Walks over a []string: the bounds, the search for a stamp member.
-/
import Derived.Test.Qxb6003347aW3C
namespace Go.Proofs.Qxb6003347a
open Go.RowKit

/-- A slice of n strings, fs; where there is one, at an address, its cells. -/
def Strs (W : World) (p : Option Addr) (n : Nat) (fs : List ByteArray) : Prop :=
  fs.length = n ∧ (n = 0 ∨ ∃ b off, p = some ⟨b, off, none⟩ ∧ ∀ i, i < n → W.cell? ⟨b, off + i, none⟩ = some (.string (fs.getD i ByteArray.empty)))

theorem Strs.keep {W W' : World} {p : Option Addr} {n : Nat} {fs : List ByteArray} (h : Strs W p n fs) (k : ∀ q v, W.cell? q = some v → W'.cell? q = some v) : Strs W' p n fs := by
  refine ⟨h.1, ?_⟩
  rcases h.2 with h2 | ⟨b, off, h2, h3⟩
  · exact .inl h2
  · exact .inr ⟨b, off, h2, fun i hi => k _ _ (h3 i hi)⟩

theorem keep_below {W W' : World} (h : Below W.heap.size W W') : ∀ q v, W.cell? q = some v → W'.cell? q = some v := fun q v hq => by
  rw [h.cell (World.block_lt_of_cell? W q hq)]; exact hq

/-- How many bytes they have together. -/
def tot : List ByteArray → Nat
  | [] => 0
  | f :: r => f.size + tot r

theorem tot_append (a b : List ByteArray) : tot (a ++ b) = tot a + tot b := by
  induction a with
  | nil => simp [tot]
  | cons f r ih => simp only [List.cons_append, tot, ih]; omega

theorem tot_take_succ (fs : List ByteArray) (k : Nat) (h : k < fs.length) : tot (fs.take (k + 1)) = tot (fs.take k) + (fs.getD k ByteArray.empty).size := by
  rw [List.take_succ_eq_append_getElem h, tot_append]
  simp [tot, List.getD, h]

theorem tot_take_le (fs : List ByteArray) (k : Nat) : tot (fs.take k) ≤ tot fs := by
  have := tot_append (fs.take k) (fs.drop k)
  rw [List.take_append_drop] at this
  omega

def BytesRes (n : Nat) (fs : List ByteArray) (st : Nat) (e : Ending) : Prop := ∃ b, e = .returned (.bool b) ∧ (b = true → n + tot fs + st ≤ 1048576)

set_option maxHeartbeats 2000000 in
theorem zzBytes_any (p : Option Addr) (n c : Nat) (fs : List ByteArray) (st : ByteArray) (w : World) (h : Strs w p n fs) (hn : n ≤ maxLen) (hst : st.size ≤ maxLen) (hbig : ∀ f ∈ fs, f.size ≤ maxLen) :
    Calls Try.prog 15 #[.slice p n c, .string st] w fun e w' => BytesRes n fs st.size e ∧ w' = w := by
  have HB : Hid (∀ f ∈ fs, f.size ≤ maxLen) := hbig
  unfold maxLen at hn hst
  obtain ⟨hlen, hcase⟩ := h
  have NO : Hid (∀ b, b = false → BytesRes n fs st.size (.returned (.bool b))) := fun b hb => ⟨b, rfl, fun h => by rw [hb] at h; cases h⟩
  have HL : Hid (fs.length = n) := hlen
  clear hlen hbig
  by_cases hbn : 1048576 < n
  · go_enter Try.func15, Try.ntmps15
    go_wp2
    go_ret
    exact ⟨NO.out _ rfl, rfl⟩
  by_cases hn0 : n = 0
  · subst hn0
    obtain rfl : fs = [] := List.length_eq_zero_iff.1 HL.out
    by_cases hs1 : 1048576 < st.size
    · go_enter Try.func15, Try.ntmps15
      go_wp2
      refine wp_loop_rounds 1 ?_; rw [rounds_succ]
      go_wp2
      go_ret
      exact ⟨NO.out _ rfl, rfl⟩
    · go_enter Try.func15, Try.ntmps15
      go_wp2
      refine wp_loop_rounds 1 ?_; rw [rounds_succ]
      go_wp2
      go_ret
      exact ⟨⟨true, rfl, fun _ => by simp only [tot]; omega⟩, rfl⟩
  · rcases hcase with h0 | ⟨b, off, rfl, hcell⟩
    · exact absurd h0 hn0
    have HC : Hid (∀ i, i < n → w.cell? ⟨b, off + i, none⟩ = some (.string (fs.getD i ByteArray.empty))) := hcell
    clear hcell hn0
    go_enter Try.func15, Try.ntmps15
    go_wp2
    go_loop [5, 6] (fun z i => ∃ (k T : Nat), k ≤ n ∧ i = .int .i64 k ∧ z = .int .i64 T ∧ T ≤ 1048576 ∧ Hid (T = n + tot (fs.take k))) (fun _ i => n - (intOf i).toNat)
    case atStart => exact ⟨0, n, Nat.zero_le _, rfl, rfl, by omega, by show n = n + tot (fs.take 0); simp [tot]⟩
    case round =>
      obtain ⟨k, T, hk, rfl, rfl, hT, HT⟩ := hrel
      by_cases hlt : k < n
      · obtain ⟨f, hf⟩ : ∃ f, fs.getD k ByteArray.empty = f := ⟨_, rfl⟩
        have hc := HC.out k hlt
        rw [hf] at hc
        have HS : Hid (tot (fs.take (k + 1)) = tot (fs.take k) + f.size) := by
          show _ = _
          rw [tot_take_succ fs k (by rw [HL.out]; exact hlt), hf]
        have hfm : f ∈ fs := by
          have hk' : k < fs.length := by rw [HL.out]; exact hlt
          rw [← hf]
          simp only [List.getD, List.getElem?_eq_getElem hk', Option.getD_some]
          exact List.getElem_mem hk'
        have hfs := HB.out f hfm
        unfold maxLen at hfs
        clear hf hfm
        by_cases hb1 : 1048576 < f.size
        · go_wp2
          go_ret
          exact ⟨NO.out _ rfl, rfl⟩
        · by_cases hb2 : 1048576 < T + f.size
          · go_wp2
            go_ret
            exact ⟨NO.out _ rfl, rfl⟩
          · go_wp2
            go_round
            case rel => exact ⟨k + 1, T + f.size, by omega, by go_num, by go_num, by omega, by show _ = _; rw [HS.out, HT.out]; omega⟩
            case measure => simp [intOf]; omega
      · obtain rfl : k = n := by omega
        have HT2 : Hid (T = k + tot fs) := by
          show _ = _
          have := HT.out
          rwa [List.take_of_length_le (by rw [HL.out]; exact Nat.le_refl _)] at this
        have hkn : ¬ (k : Int) < (k : Int) := by omega
        by_cases hs1 : 1048576 < st.size
        · go_wp2
          go_ret
          exact ⟨NO.out _ rfl, rfl⟩
        · by_cases hs2 : 1048576 < T + st.size
          · go_wp2
            go_ret
            exact ⟨NO.out _ rfl, rfl⟩
          · go_wp2
            go_ret
            exact ⟨⟨true, rfl, fun _ => by have := HT2.out; omega⟩, rfl⟩

/-- A bool. -/
def IsB (e : Ending) : Prop := ∃ b, e = .returned (.bool b)

set_option maxHeartbeats 2000000 in
theorem zzFieldsTooBig_any (p : Option Addr) (n c : Nat) (fs : List ByteArray) (w : World) (h : Strs w p n fs) (hn : n ≤ maxLen) :
    Calls Try.prog 12 #[.slice p n c] w fun e w' => IsB e ∧ w' = w := by
  unfold maxLen at hn
  obtain ⟨_, hcase⟩ := h
  by_cases hbn : 4096 < n
  · go_enter Try.func12, Try.ntmps12
    go_wp2
    go_ret
    exact ⟨⟨_, rfl⟩, rfl⟩
  by_cases hn0 : n = 0
  · subst hn0
    go_enter Try.func12, Try.ntmps12
    go_wp2
    refine wp_loop_rounds 1 ?_; rw [rounds_succ]
    go_wp2
    go_ret
    exact ⟨⟨_, rfl⟩, rfl⟩
  · rcases hcase with h0 | ⟨b, off, rfl, hcell⟩
    · exact absurd h0 hn0
    have HC : Hid (∀ i, i < n → w.cell? ⟨b, off + i, none⟩ = some (.string (fs.getD i ByteArray.empty))) := hcell
    clear hcell hn0
    go_enter Try.func12, Try.ntmps12
    go_wp2
    go_loop [3] (fun i => ∃ (k : Nat), k ≤ n ∧ i = .int .i64 k) (fun i => n - (intOf i).toNat)
    case atStart => exact ⟨0, Nat.zero_le _, rfl⟩
    case round =>
      obtain ⟨k, hk, rfl⟩ := hrel
      by_cases hlt : k < n
      · obtain ⟨f, hf⟩ : ∃ f, fs.getD k ByteArray.empty = f := ⟨_, rfl⟩
        have hc := HC.out k hlt
        rw [hf] at hc
        clear hf
        by_cases hb1 : 4096 < f.size
        · go_wp2
          go_ret
          exact ⟨⟨_, rfl⟩, rfl⟩
        · go_wp2
          go_round
          case rel => exact ⟨k + 1, by omega, by go_num⟩
          case measure => simp [intOf]; omega
      · obtain rfl : k = n := by omega
        have hkn : ¬ (k : Int) < (k : Int) := by omega
        go_wp2
        go_ret
        exact ⟨⟨_, rfl⟩, rfl⟩

end Go.Proofs.Qxb6003347a
