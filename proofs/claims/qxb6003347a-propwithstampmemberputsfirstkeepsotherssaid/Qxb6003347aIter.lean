/-
  SEAT b6003347a. THE ITERATOR traceStateMembers: its contract.
-/
import Derived.RangeFuncNested
import Derived.RangeFuncBound
import Derived.RangeFuncCalls
import Derived.RangeFuncLeaves
import Derived.RangeFuncBox
import Derived.Shelf.Abstract
import Derived.Shelf.RegionOpen
import Derived.WalkKit
import Derived.OwnWalkIn
import Derived.TacticsInMore
import Derived.LoopNIn
import Derived.LoopIn
import Derived.Test.Qxb6003347aStart
import Derived.Test.Qxb6003347aYields
import Derived.Test.Qxb6003347aMembers
namespace Go.Proofs.Qxb6003347a
open Go.RowKit Go.Shelf

attribute [local go_sem] Oper.semAt_some

/-- What a round that goes on keeps: what lay below n₀, and the box of the prefix. -/
def KP (n₀ Bp : Nat) (pv : Value) (W W' : World) : Prop := Below n₀ W W' ∧ (W.cell? ⟨Bp, 0, none⟩ = some pv → W'.cell? ⟨Bp, 0, none⟩ = some pv)

theorem KP.refl (n₀ Bp : Nat) (pv : Value) (W : World) : KP n₀ Bp pv W W := ⟨Below.refl _ _, id⟩
theorem KP.t {n₀ Bp : Nat} {pv : Value} {A B C : World} (h : KP n₀ Bp pv A B) (k : KP n₀ Bp pv B C) : KP n₀ Bp pv A C := ⟨h.1.trans k.1, fun e => k.2 (h.2 e)⟩
theorem KP.b {n₀ Bp : Nat} {pv : Value} {w : World} (hn : n₀ ≤ w.heap.size) (W : World) (l : Nat) (o o' : Obj) (hl : w.heap.size ≤ l) (h : W.heap[l]? = some o) (h1 : o.isCells = false) (h2 : o.isWalk = false) : KP n₀ Bp pv W (W.putObj l o') :=
  ⟨belowK_b hn W l o o' hl h h1 h2, fun e => cell_kept e (grownBy_putObj' W l o') (fun r e => by cases e; exact ⟨_, h, h1⟩)⟩

/-- What lies in the field at place k. -/
def datas (fs : List ByteArray) : List (List UInt8) := fs.map fun f => f.data.toList

/-- IndexByte of a comma, and the length where there is none. -/
theorem comma_at (l : List UInt8) : (Lib.indexByte l 44 = -1 ∧ cidx l = l.length) ∨ (Lib.indexByte l 44 = (cidx l : Int) ∧ cidx l < l.length) := by
  induction l with
  | nil => exact .inl ⟨rfl, rfl⟩
  | cons d r ih =>
    unfold Lib.indexByte
    by_cases hd : d = 44
    · subst hd
      refine .inr ⟨?_, ?_⟩
      · rw [if_pos (by decide)]; rfl
      · show 0 < _; simp
    · have hd1 : (d == 44) = false := by simpa using hd
      have hd2 : cidx (d :: r) = cidx r + 1 := by
        unfold cidx
        rw [List.takeWhile_cons, if_pos (by simpa using hd), List.length_cons]
      rw [hd1, hd2, List.length_cons]
      rcases ih with ⟨h1, h2⟩ | ⟨h1, h2⟩
      · rw [h1, h2]
        exact .inl ⟨rfl, rfl⟩
      · refine .inr ⟨?_, by omega⟩
        rw [h1]
        have : ((cidx r : Int) == -1) = false := by
          rw [beq_eq_false_iff_ne]
          omega
        rw [this]
        simp

set_option maxRecDepth 100000 in
set_option maxHeartbeats 4000000 in
theorem iter1 (n : Nat) (hn : 1 ≤ n) (l Bf Bp n₀ b off c : Nat) (ms : List UInt8 → Int) (pv : ByteArray) (m : Int) (fs : List ByteArray)
    (hgood : Good ms pv.size)
    (hM : ∀ (s : ByteArray) (W : World), s.size < 4294967281 → W.cell? ⟨0, 0, none⟩ = some (.int .i64 m) → Calls Try.prog 38 #[.string s, .string pv] W fun e w' => e = .returned (.int .i64 (ms s.data.toList)) ∧ w' = W)
    (hsz : ∀ f ∈ fs, f.size < 4294967281) (hlen : fs.length * 16 ≤ 140737488351232) (hb : b < n₀) (h00 : 0 < n₀)
    (J Jx : List (List UInt8) → World → Prop)
    (hY : ∀ pre x W, J pre W → pre.length < (ysAll ms pv.size (datas fs)).length → YieldAt Fence.wide (n - 1) Try.prog l #[.string (S x)] W fun e W' =>
      (e = .returned (.bool true) ∧ J (pre ++ [x]) W' ∧ KP n₀ Bp (.string pv) W W') ∨ (e = .returned (.bool false) ∧ Jx (pre ++ [x]) W'))
    (W : World) (hBf : W.cell? ⟨Bf, 0, none⟩ = some (.slice (some ⟨b, off, none⟩) fs.length c)) (hBp : W.cell? ⟨Bp, 0, none⟩ = some (.string pv)) (hm : W.cell? ⟨0, 0, none⟩ = some (.int .i64 m))
    (hc : ∀ j, j < fs.length → W.cell? ⟨b, off + j, none⟩ = some (.string (fs.getD j ByteArray.empty))) (h0 : J [] W) :
    CallsIn Fence.wide n Try.prog 37 #[.func (.yield l) #[] #[], .pointer (some ⟨Bf, 0, none⟩), .pointer (some ⟨Bp, 0, none⟩)] W fun e W' => (∃ v, e = .returned v) ∧
      ((∃ ys, ys = ysAll ms pv.size (datas fs) ∧ J ys W') ∨ (∃ pre, pre <+: ysAll ms pv.size (datas fs) ∧ Jx pre W')) := by
  refine callsIn_of_wp Try.func37 rfl trivial ?_ rfl
  simp only [Try.ntmps37, List.size_toArray, List.length_cons, List.length_nil, Nat.reduceAdd, Nat.reduceSub, Array.replicate_succ, Array.replicate_zero, List.push_toArray, List.append_toArray, List.nil_append, List.cons_append]
  obtain ⟨N, hN⟩ : ∃ N, fs.length = N := ⟨_, rfl⟩
  rw [hN] at hBf hlen hc
  gi_wp2
  gi_loopw [10] (fun i wr => ∃ k : Nat, k ≤ N ∧ i = .int .i64 k ∧ Hid (J (ysAll ms pv.size ((datas fs).take k)) wr) ∧ Hid (KP n₀ Bp (.string pv) W wr))
    (fun i _ => N - (intOf i).toNat)
  case atStart => exact ⟨0, Nat.zero_le _, rfl, h0, KP.refl _ _ _ _⟩
  case round =>
    obtain ⟨k, hk, rfl, hJs, hnx⟩ := hrel
    by_cases hlt : k < N
    · have hcx : wr.cell? ⟨b, off + k, none⟩ = some (.string (fs.getD k ByteArray.empty)) := (hnx.out.1.cell (p := ⟨b, off + k, none⟩) hb).trans (hc k hlt)
      have hpx : wr.cell? ⟨Bp, 0, none⟩ = some (.string pv) := hnx.out.2 hBp
      have hmx' : wr.cell? ⟨0, 0, none⟩ = some (.int .i64 m) := (hnx.out.1.cell (p := ⟨0, 0, none⟩) h00).trans hm
      obtain ⟨f, hf⟩ : ∃ f, fs.getD k ByteArray.empty = f := ⟨_, rfl⟩
      rw [hf] at hcx
      have hfz : f.size < 4294967281 := by
        have : f ∈ fs := by
          rw [← hf, List.getD_eq_getElem?_getD, List.getElem?_eq_getElem (by omega)]
          exact List.getElem_mem _
        exact hsz f this
      have hTk : Hid (ysAll ms pv.size ((datas fs).take (k + 1)) = ysAll ms pv.size ((datas fs).take k) ++ ysOf ms pv.size f.data.toList) := by
        refine ysAll_take_succ _ _ _ _ _ ?_
        unfold datas
        rw [List.getElem?_map, List.getElem?_eq_getElem (by omega), ← hf, List.getD_eq_getElem?_getD, List.getElem?_eq_getElem (by omega)]
        rfl
      gi_wp2_with (refine ⟨trivial, ?_⟩; gi_at_call 38; refine (callsIn_wide.2 (hM _ _ hfz hmx')).mono ?_; rintro e w' ⟨rfl, hw⟩; rw [hw]; clear hw)
      gi_loopw [5, 6] (fun v5 v6 wr2 => ∃ (s : ByteArray) (pre : List (List UInt8)), v5 = .string s ∧ v6 = .int .i64 (ms s.data.toList) ∧ s.size < 4294967281 ∧ Hid (pre ++ ysOf ms pv.size s.data.toList = ysAll ms pv.size ((datas fs).take (k + 1))) ∧ Hid (J pre wr2) ∧ Hid (KP n₀ Bp (.string pv) W wr2))
        (fun v5 _ _ => match v5 with | .string s => s.size | _ => 0)
      case atStart => exact ⟨f, _, rfl, rfl, hfz, hTk.out.symm, hJs, hnx⟩
      case round =>
        obtain ⟨s, pre, rfl, rfl, hs, hpre, hJ2, hK2⟩ := hrel
        clear hJs hnx hcx hpx hmx' hTk hf hfz
        obtain ⟨v, hv⟩ : ∃ v, ms s.data.toList = v := ⟨_, rfl⟩
        by_cases hneg : v < 0
        · rw [hv]
          have hge : decide (0 ≤ v) = false := decide_eq_false (by omega)
          gi_wp2
          go_roundw
          case rel =>
            refine ⟨k + 1, by omega, by simp, ?_, hK2⟩
            have h1 := hpre.out
            rw [ysOf_none (by rw [hv]; exact hneg), List.append_nil] at h1
            show J _ _
            rw [← h1]
            exact hJ2.out
          case measure => simp [intOf]; omega
        · obtain ⟨i, rfl⟩ : ∃ i : Nat, v = i := ⟨v.toNat, by omega⟩
          clear hneg
          have hpos : 0 ≤ ms s.data.toList := by rw [hv]; omega
          obtain ⟨hg1, hg2, hg3⟩ := hgood _ hpos
          have hY1 := ysOf_some hgood hpos
          rw [hv, Int.toNat_natCast] at hg1 hg2 hg3 hY1
          rw [sz] at hg1
          obtain ⟨g, hg⟩ : ∃ g, s.extract i s.size = g := ⟨_, rfl⟩
          have hgd : s.data.toList.drop i = g.data.toList := by rw [← hg]; exact (Lib.extract_to_end s i).symm
          rw [hgd] at hg2 hg3 hY1
          have hgz : g.size = s.size - i := by rw [← hg, ByteArray.size_extract]; omega
          have hce := cidx_le g.data.toList
          have hcm := comma_at g.data.toList
          rw [sz] at hce
          obtain ⟨e, he⟩ : ∃ e, cidx g.data.toList = e := ⟨_, rfl⟩
          rw [he, sz] at hcm
          rw [he] at hg2 hg3 hY1 hce
          obtain ⟨t, ht⟩ : ∃ t, g.extract pv.size e = t := ⟨_, rfl⟩
          have htd : (g.data.toList.take e).drop pv.size = t.data.toList := by rw [← ht, Lib.extract_data, List.drop_take]
          have htz : t.size ≤ 2 ^ 63 - 1 := by rw [← ht, ByteArray.size_extract]; omega
          obtain ⟨r, hr⟩ : ∃ r, g.extract e g.size = r := ⟨_, rfl⟩
          have hrd : g.data.toList.drop e = r.data.toList := by rw [← hr]; exact (Lib.extract_to_end g e).symm
          have hrz : r.size = g.size - e := by rw [← hr, ByteArray.size_extract]; omega
          rw [htd, hrd] at hY1
          obtain ⟨x, hx⟩ : ∃ x, trimR t.data.toList = x := ⟨_, rfl⟩
          rw [hx] at hY1
          have hpre2 : Hid (pre ++ x :: ysOf ms pv.size r.data.toList = ysAll ms pv.size ((datas fs).take (k + 1))) := by
            have := hpre.out
            rw [hY1] at this
            exact this
          have hlt2 : pre.length < (ysAll ms pv.size (datas fs)).length := by
            have h1 := (ysAll_prefix ms pv.size (datas fs) (k + 1)).length_le
            rw [← hpre2.out, List.length_append, List.length_cons] at h1
            omega
          obtain ⟨fn, tmps, assign, body, hy, hR⟩ := hY pre x wr hJ2.out hlt2
          have hpx : wr.cell? ⟨Bp, 0, none⟩ = some (.string pv) := hK2.out.2 hBp
          have hT : Calls Try.prog 40 #[.string t] wr fun e w' => e = .returned (.string (S x)) ∧ w' = wr := by
            have := trimSpacesRight_any t wr htz
            rw [hx] at this
            exact this
          have hB : ∃ q : Int, (Calls Try.prog 39 #[.string g, .int .u8 44] wr fun e w' => e = .returned (.int .i64 q) ∧ w' = wr) ∧ ((q = -1 ∧ e = g.size) ∨ q = (e : Int)) := by
            refine ⟨_, Try.strings_IndexByte g 44 wr, ?_⟩
            show (Lib.indexByte g.data.toList 44 = -1 ∧ _) ∨ Lib.indexByte g.data.toList 44 = _
            rcases hcm with h | h
            · exact .inl h
            · exact .inr h.1
          obtain ⟨q, hB, hq⟩ := hB
          have HX : Hid (ysOf ms pv.size s.data.toList = x :: ysOf ms pv.size r.data.toList) := hY1
          clear hY1 hcm hpre
          rw [hv]
          have q1 : (0 : Int) ≤ (i : Int) := by omega
          have q2 : (i : Int) ≤ (s.size : Int) := by omega
          have q3 : (0 : Int) ≤ (e : Int) := by omega
          have q4 : (e : Int) ≤ (g.size : Int) := by omega
          have q5 : (pv.size : Int) ≤ (e : Int) := by omega
          have hgz2 : g.size ≤ 2 ^ 63 - 1 := by omega
          have hez2 : e ≤ 2 ^ 63 - 1 := by omega
          have hrz2 : r.size < 4294967281 := by omega
          have hrz3 : r.size < s.size := by omega
          clear hv hpos hgd htd hrd hx hs hgz hrz he hlt2
          rcases hq with ⟨rfl, heq⟩ | rfl
          · subst heq
            obtain rfl : r = ByteArray.empty := by rw [← hr]; simp
            gi_wp2_with first
              | (refine ⟨trivial, ?_⟩; gi_at_call 39; refine (callsIn_wide.2 hB).mono ?_; clear hB; rintro e w' ⟨rfl, hw⟩; rw [hw]; clear hw)
              | (refine ⟨trivial, ?_⟩; gi_at_call 40; refine (callsIn_wide.2 hT).mono ?_; clear hT; rintro e w' ⟨rfl, hw⟩; rw [hw]; clear hw)
            refine hR.mono ?_
            rintro e' W3 (⟨rfl, hJ3, hk3⟩ | ⟨rfl, hJx3⟩)
            · have hK3 : Hid (KP n₀ Bp (.string pv) W W3) := hK2.out.t hk3
              have hp3 : W3.cell? ⟨Bp, 0, none⟩ = some (.string pv) := hK3.out.2 hBp
              have hm3 : W3.cell? ⟨0, 0, none⟩ = some (.int .i64 m) := (hK3.out.1.cell (p := ⟨0, 0, none⟩) h00).trans hm
              have hJ3' : Hid (J (pre ++ [x]) W3) := hJ3
              clear hJ3 hk3 hR hJ2 hK2 hpx
              have hM3 := hM ByteArray.empty W3 hrz2 hm3
              gi_wp2_with (refine ⟨trivial, ?_⟩; gi_at_call 38; refine (callsIn_wide.2 hM3).mono ?_; rintro e w' ⟨rfl, hw⟩; rw [hw]; clear hw)
              go_roundw
              case rel =>
                refine ⟨ByteArray.empty, pre ++ [x], rfl, rfl, hrz2, ?_, hJ3', hK3⟩
                show _ = _
                rw [← hpre2.out, List.append_assoc]
                rfl
              case measure => dsimp only; exact hrz3
            · gi_wp2
              refine bodyPost_ret (results_none rfl _ _ _) rfl ?_
              refine ⟨⟨_, rfl⟩, .inr ⟨pre ++ [x], ?_, hJx3⟩⟩
              refine List.IsPrefix.trans ?_ (ysAll_prefix ms pv.size (datas fs) (k + 1))
              exact ⟨ysOf ms pv.size ByteArray.empty.data.toList, by rw [← hpre2.out, List.append_assoc]; rfl⟩
          · have qn : ¬ (e : Int) < 0 := by omega
            gi_wp2_with first
              | (refine ⟨trivial, ?_⟩; gi_at_call 39; refine (callsIn_wide.2 hB).mono ?_; clear hB; rintro e w' ⟨rfl, hw⟩; rw [hw]; clear hw)
              | (refine ⟨trivial, ?_⟩; gi_at_call 40; refine (callsIn_wide.2 hT).mono ?_; clear hT; rintro e w' ⟨rfl, hw⟩; rw [hw]; clear hw)
            refine hR.mono ?_
            rintro e' W3 (⟨rfl, hJ3, hk3⟩ | ⟨rfl, hJx3⟩)
            · have hK3 : Hid (KP n₀ Bp (.string pv) W W3) := hK2.out.t hk3
              have hp3 : W3.cell? ⟨Bp, 0, none⟩ = some (.string pv) := hK3.out.2 hBp
              have hm3 : W3.cell? ⟨0, 0, none⟩ = some (.int .i64 m) := (hK3.out.1.cell (p := ⟨0, 0, none⟩) h00).trans hm
              have hJ3' : Hid (J (pre ++ [x]) W3) := hJ3
              clear hJ3 hk3 hR hJ2 hK2 hpx
              have hM3 := hM r W3 hrz2 hm3
              gi_wp2_with (refine ⟨trivial, ?_⟩; gi_at_call 38; refine (callsIn_wide.2 hM3).mono ?_; rintro e w' ⟨rfl, hw⟩; rw [hw]; clear hw)
              go_roundw
              case rel =>
                refine ⟨r, pre ++ [x], rfl, rfl, hrz2, ?_, hJ3', hK3⟩
                show _ = _
                rw [← hpre2.out, List.append_assoc]
                rfl
              case measure => dsimp only; exact hrz3
            · gi_wp2
              refine bodyPost_ret (results_none rfl _ _ _) rfl ?_
              refine ⟨⟨_, rfl⟩, .inr ⟨pre ++ [x], ?_, hJx3⟩⟩
              refine List.IsPrefix.trans ?_ (ysAll_prefix ms pv.size (datas fs) (k + 1))
              exact ⟨ysOf ms pv.size r.data.toList, by rw [← hpre2.out, List.append_assoc]; rfl⟩
    · obtain rfl : k = N := by omega
      gi_wp2
      go_end0
      refine ⟨⟨_, rfl⟩, .inl ⟨_, rfl, ?_⟩⟩
      have := hJs.out
      rw [List.take_of_length_le (by unfold datas; rw [List.length_map, hN]; exact Nat.le_refl _)] at this
      exact this

set_option maxRecDepth 100000 in
set_option maxHeartbeats 1000000 in
/-- .. at no field: no round. -/
theorem iter0 (n : Nat) (l Bf Bp c : Nat) (p : Option Addr) (J : List (List UInt8) → World → Prop) (W : World) (hBf : W.cell? ⟨Bf, 0, none⟩ = some (.slice p 0 c)) (h0 : J [] W) :
    CallsIn Fence.wide n Try.prog 37 #[.func (.yield l) #[] #[], .pointer (some ⟨Bf, 0, none⟩), .pointer (some ⟨Bp, 0, none⟩)] W fun e W' => (∃ v, e = .returned v) ∧ J [] W' := by
  refine callsIn_of_wp Try.func37 rfl trivial ?_ rfl
  simp only [Try.ntmps37, List.size_toArray, List.length_cons, List.length_nil, Nat.reduceAdd, Nat.reduceSub, Array.replicate_succ, Array.replicate_zero, List.push_toArray, List.append_toArray, List.nil_append, List.cons_append]
  gi_wp2
  gi_loopw [10] (fun i wr => i = .int .i64 0 ∧ Hid (J [] wr)) (fun _ _ => 0)
  case atStart => exact ⟨rfl, h0⟩
  case round =>
    obtain ⟨rfl, hJs⟩ := hrel
    gi_wp2
    go_end0
    exact ⟨⟨_, rfl⟩, hJs.out⟩

/-- **THE ITERATOR's CONTRACT**: every yield in order; or a part of them, where a round has said 'no more'. -/
theorem iter_stops (n : Nat) (hn : 1 ≤ n) (Bf Bp n₀ : Nat) (p : Option Addr) (c : Nat) (ms : List UInt8 → Int) (pv : ByteArray) (m : Int) (fs : List ByteArray) (w : World)
    (hgood : Good ms pv.size)
    (hM : ∀ (s : ByteArray) (W : World), s.size < 4294967281 → W.cell? ⟨0, 0, none⟩ = some (.int .i64 m) → Calls Try.prog 38 #[.string s, .string pv] W fun e w' => e = .returned (.int .i64 (ms s.data.toList)) ∧ w' = W)
    (hsz : ∀ f ∈ fs, f.size < 4294967281) (hlen : fs.length * 16 ≤ 140737488351232) (h00 : 0 < n₀) (hn0 : n₀ ≤ w.heap.size) (hBfl : Bf < w.heap.size) (hBpl : Bp < w.heap.size)
    (hBf : w.cell? ⟨Bf, 0, none⟩ = some (.slice p fs.length c)) (hBp : w.cell? ⟨Bp, 0, none⟩ = some (.string pv)) (hm : w.cell? ⟨0, 0, none⟩ = some (.int .i64 m))
    (hst : Strs w p fs.length fs) (hbe : ∀ b off, p = some ⟨b, off, none⟩ → b < n₀) :
    SeqStopsK Fence.wide n Try.prog 37 #[.pointer (some ⟨Bf, 0, none⟩), .pointer (some ⟨Bp, 0, none⟩)] (fun x : List UInt8 => #[Value.string (S x)]) (KP n₀ Bp (.string pv)) (fun ys => ys = ysAll ms pv.size (datas fs)) (fun pre => pre <+: ysAll ms pv.size (datas fs)) (ysAll ms pv.size (datas fs)).length w := fun l J Jx W hW _ _ hY h0 => by
  have hc1 := (hW.cell (p := ⟨Bf, 0, none⟩) hBfl).trans hBf
  have hc2 := (hW.cell (p := ⟨Bp, 0, none⟩) hBpl).trans hBp
  have hc3 := (hW.cell (p := ⟨0, 0, none⟩) (Nat.lt_of_lt_of_le h00 hn0)).trans hm
  rcases hst.2 with hz | ⟨b, off, rfl, hcs⟩
  · rw [hz] at hc1
    obtain rfl := List.length_eq_zero_iff.1 hz
    exact (iter0 n l Bf Bp c p J W hc1 h0).mono fun e W' ⟨he, hj⟩ => ⟨he, .inl ⟨_, rfl, hj⟩⟩
  · have hb := hbe b off rfl
    exact iter1 n hn l Bf Bp n₀ b off c ms pv m fs hgood hM hsz hlen hb h00 J Jx hY W hc1 hc2 hc3 (fun j hj => (hW.cell (p := ⟨b, off + j, none⟩) (Nat.lt_of_lt_of_le hb hn0)).trans (hcs j hj)) h0

set_option maxHeartbeats 1000000 in
/-- traceStateMembers: two boxes and a function value. -/
theorem make_in (n : Nat) (p : Option Addr) (k c : Nat) (pv : ByteArray) (w : World) :
    CallsIn Fence.wide n Try.prog 28 #[.slice p k c, .string pv] w fun e w' => e = .returned (.func (.func 37) #[] #[.pointer (some ⟨w.heap.size, 0, none⟩), .pointer (some ⟨w.heap.size + 1, 0, none⟩)]) ∧ w' = (w.alloc (.cells #[.slice p k c] 36)).alloc (.cells #[.string pv] 9) := by
  refine callsIn_of_wp Try.func28 rfl trivial ?_ rfl
  simp only [Try.ntmps28, List.size_toArray, List.length_cons, List.length_nil, Nat.reduceAdd, Nat.reduceSub, Array.replicate_succ, Array.replicate_zero, List.push_toArray, List.append_toArray, List.nil_append, List.cons_append]
  gi_wp2
  go_ret
  exact ⟨rfl, rfl⟩

end Go.Proofs.Qxb6003347a
