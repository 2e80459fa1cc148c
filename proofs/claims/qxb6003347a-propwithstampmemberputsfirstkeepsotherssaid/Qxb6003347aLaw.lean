/-
  SEAT b6003347a. THE LAW's WALK.
-/
import Derived.Test.Qxb6003347aLaw0
import Derived.Laws.CopyOwn
namespace Go.Proofs.Qxb6003347a
open Go.RowKit

/-- The copy of the fields. -/
theorem copied {w w1 : World} {n : Nat} {fs : List ByteArray} {cur : Array Value} (hl : fs.length = n) (hgrow : w.grownBy w1 none) (hg : w1.heap[w.heap.size]? = some (.cells cur 9 (0, 0))) (hcs : cur.size = n) :
    Below w.heap.size w (w1.setRow w.heap.size (cur.toList.take 0 ++ fs.map Value.string ++ cur.toList.drop (0 + (fs.map Value.string).length)).toArray) ∧
      Strs (w1.setRow w.heap.size (cur.toList.take 0 ++ fs.map Value.string ++ cur.toList.drop (0 + (fs.map Value.string).length)).toArray) (some ⟨w.heap.size, 0, none⟩) n fs ∧ w.heap.size < (w1.setRow w.heap.size (cur.toList.take 0 ++ fs.map Value.string ++ cur.toList.drop (0 + (fs.map Value.string).length)).toArray).heap.size := by
  refine ⟨below_setRow ((Below.refl _ w).grown hgrow (Nat.le_refl _) (fun k e => by cases e)) (Nat.le_refl _) _, ⟨hl, .inr ⟨w.heap.size, 0, rfl, fun i hi => ?_⟩⟩, by simpa [World.setRow] using (Array.getElem?_eq_some_iff.1 hg).1⟩
  rw [cell_setRow_same _ _ _ _ _ _ _ hg]
  have h1 : i < fs.length := by omega
  simp [h1]
  rw [List.getElem?_append_left (by rw [List.length_map]; exact h1), List.getElem?_map, List.getElem?_eq_getElem h1]
  rfl

set_option maxRecDepth 100000 in
set_option maxHeartbeats 4000000 in
theorem law_walk (p : Option Addr) (n c : Nat) (fs : List ByteArray) (st : ByteArray) (m : Int) (w : World) (hn : n ≤ maxLen) (hst : st.size ≤ maxLen) (hfs : ∀ f ∈ fs, f.size ≤ maxLen) (h : Strs w p n fs) (hnil : p = none → n = 0)
    (hm : w.cell? ⟨0, 0, none⟩ = some (.int .i64 m)) :
    Calls Try.prog 5 #[.slice p n c, .string st] w fun e w' => e = .returned (.bool true) ∧ Below w.heap.size w w' := by
  have hC15 := zzBytes_any p n c fs st w h hn hst hfs
  have hC12 := zzFieldsTooBig_any p n c fs w h hn
  have HM : Hid (w.cell? ⟨0, 0, none⟩ = some (.int .i64 m)) := hm
  have HS : Hid (Strs w p n fs) := h
  have hn' : n ≤ 2 ^ 63 - 1 := hn
  have hst' : st.size ≤ 2 ^ 63 - 1 := hst
  clear h hm hn hst hfs
  go_enter Try.func5, Try.ntmps5
  go_wp2_with fail
  go_at_call 15
  refine hC15.mono ?_
  rintro e w' ⟨⟨b, rfl, hb⟩, hw⟩
  rw [hw]
  clear hw w' hC15
  cases b
  · go_wp2
    go_ret
    exact ⟨rfl, Below.refl _ _⟩
  have hbd : n + tot fs + st.size ≤ 1048576 := hb rfl
  clear hb
  go_wp2_with fail
  go_at_call 12
  refine hC12.mono ?_
  rintro e w' ⟨⟨b, rfl⟩, hw⟩
  rw [hw]
  clear hw w' hC12
  cases b
  case true =>
    go_wp2
    go_ret
    exact ⟨rfl, Below.refl _ _⟩
  by_cases h4096 : 4096 < (st.size : Int)
  · have hd : decide ((4096 : Int) < (st.size : Int)) = true := decide_eq_true h4096
    go_wp2
    go_ret
    exact ⟨rfl, Below.refl _ _⟩
  have hd : decide ((4096 : Int) < (st.size : Int)) = false := decide_eq_false h4096
  have hwz : 0 < w.heap.size := World.block_lt_of_cell? w _ HM.out
  have hlt : tl (memsAll fs) ≤ 1048576 := by
    have := tl_memsAll fs
    omega
  have hll : (memsAll fs).length ≤ 1048576 := by
    have := memsAll_length fs
    have := HS.out.1
    omega
  have HBG : Hid (∀ x ∈ memsAll fs, x.length ≤ 1048576) := fun x hx => Nat.le_trans (tl_mem hx) hlt
  cases p
  case' none =>
    obtain rfl : n = 0 := hnil rfl
    have hB2 : Hid (Below w.heap.size w w) := Below.refl _ _
    have HS2 : Hid (Strs w none 0 fs) := HS
    have hbe : Hid (∀ b off, (none : Option Addr) = some ⟨b, off, none⟩ → b < w.heap.size) := fun b off e => by cases e
    have hC13 := zzListMembers_any none 0 c fs w HS2.out (by omega)
    have HC17 : Hid (∀ W, Below w.heap.size w W → Calls Try.prog 17 #[.slice none 0 c, .string st] W fun e w' => e = .returned (.tuple #[.string (S (wt st.data.toList (memsAll fs))), .bool (hasSt (memsAll fs))]) ∧ Below W.heap.size W w') := fun W hW =>
      zzWith_any none 0 c m fs st W (Strs.keep HS2.out (keep_below hW)) (fun b off e => by cases e) (by omega) (keep_below hW _ _ HM.out)
    have HUP : Hid (∀ W, Below w.heap.size w W → Below w.heap.size w W) := fun W h => h
    go_wp2_with fail
    go_at_call 13
    refine hC13.mono ?_
  case' some ad =>
    obtain ⟨i, hi, hz0, hz1, hz2⟩ := info_parts Try.info9
    have hlen := HS.out.1
    obtain ⟨w1, hmk, hown, hgrow⟩ := run_make_full (P := Try.prog) w w.heap.size 36 9 i _ 1 Try.underlying36 hi hz0 hz1 .i64 .i64 n (by rw [hz2]; omega) (by unfold maxLen; omega) (Nat.le_refl _)
    obtain ⟨cur, hg, hcs⟩ : ∃ cur, w1.heap[w.heap.size]? = some (.cells cur 9 (0, 0)) ∧ cur.size = n := by
      rcases hown.2 with ⟨hx, _⟩ | ⟨g, cap, cur, hx, _, hg, _, _, hcs, _⟩
      · cases hx
      · cases hx
        exact ⟨cur, hg, by omega⟩
    have hcp := copied hlen hgrow hg hcs
    have hsrc : ∀ j v, (fs.map Value.string)[j]? = some v → w1.cell? (ad.add j) = some v := fun j v hj => by
      rw [List.getElem?_map, Option.map_eq_some_iff] at hj
      obtain ⟨x, hx, rfl⟩ := hj
      have hjl := (List.getElem?_eq_some_iff.1 hx).1
      rcases HS.out.2 with h0 | ⟨b, off, e, hcell⟩
      · omega
      · cases e
        have := hcell j (by omega)
        rw [List.getD_eq_getElem?_getD, hx] at this
        rw [Addr.add_lit]
        exact cell_kept this hgrow (fun r e => by cases e)
    have hrun := run_copy_row (P := Try.prog) w1 36 36 3 9 w.heap.size 0 n n ad n c cur 9 (fs.map Value.string) Try.underlying36 (by kernel_rfl) hg (by rw [List.length_map, hlen]; exact (Nat.min_self n).symm) hsrc (by rw [List.length_map]; omega) (fun v hv => by obtain ⟨x, _, rfl⟩ := List.mem_map.1 hv; rfl)
    obtain ⟨w2, hw2⟩ : ∃ w2, w1.setRow w.heap.size (cur.toList.take 0 ++ fs.map Value.string ++ cur.toList.drop (0 + (fs.map Value.string).length)).toArray = w2 := ⟨_, rfl⟩
    obtain ⟨k, hk⟩ : ∃ k, goInt ((fs.map Value.string).length : Int) = k := ⟨_, rfl⟩
    rw [hw2, hk] at hrun
    rw [hw2] at hcp
    have hB2 : Hid (Below w.heap.size w w2) := hcp.1
    have HS2 : Hid (Strs w2 (some ⟨w.heap.size, 0, none⟩) n fs) := hcp.2.1
    have hw2z : w.heap.size < w2.heap.size := hcp.2.2
    clear hown hw2 hsrc hcp hk hg hcs hgrow
    have hC13 := zzListMembers_any (some ⟨w.heap.size, 0, none⟩) n n fs w2 HS2.out (by omega)
    have HC17 : Hid (∀ W, Below w2.heap.size w2 W → Calls Try.prog 17 #[.slice (some ⟨w.heap.size, 0, none⟩) n n, .string st] W fun e w' => e = .returned (.tuple #[.string (S (wt st.data.toList (memsAll fs))), .bool (hasSt (memsAll fs))]) ∧ Below W.heap.size W w') := fun W hW =>
      zzWith_any (some ⟨w.heap.size, 0, none⟩) n n m fs st W (Strs.keep HS2.out (keep_below hW)) (fun b off e => by cases e; exact Nat.lt_of_lt_of_le hw2z hW.size) (by omega) (keep_below hW _ _ (keep_below hB2.out _ _ HM.out))
    have HUP : Hid (∀ W, Below w2.heap.size w2 W → Below w.heap.size w W) := fun W h => hB2.out.trans (h.mono hB2.out.size)
    go_wp2_with fail
    go_at_call 13
    refine hC13.mono ?_
  all_goals
    rintro e w3 ⟨v, rfl, hM3, hB3⟩
    have HM3 : Hid (MineS _ w3 v (memsAll fs)) := hM3
    have HB3 : Hid (Below _ _ w3) := hB3
    clear hM3 hB3 hC13
    have hC16 := zzHasStampMember_mine _ v (memsAll fs) w3 HM3.out (by unfold maxLen; omega) HBG.out
    go_wp2_with fail
    go_at_call 16
    refine hC16.mono ?_
    rintro e w' ⟨rfl, q, hw⟩
    rw [hw]
    clear hw w' hC16
    have hC17 := HC17.out (w3.drewN q) (below_drewN HB3.out q)
    go_wp2_with fail
    go_at_call 17
    refine hC17.mono ?_
    rintro e w4 ⟨rfl, hB4⟩
    have HB4 : Hid (Below w.heap.size w w4) := HUP.out w4 ((below_drewN HB3.out q).trans (hB4.mono (below_drewN HB3.out q).size))
    have hC18 := zzExpectedText_any _ v (memsAll fs) st w4 ((HM3.out.below (below_drewN (Below.refl _ _) q)).below hB4) (by omega) (by omega)
    clear hC17 HC17 hB4 HM3 HB3 HUP HBG HS2 hB2
    have hC19 := fun W => zzValidStamp_any st W (by unfold maxLen; omega)
    have hC20 := fun W => zzHasCommaOrEquals_any st W (by unfold maxLen; omega)
    cases hr : hasSt (memsAll fs)
    · cases he : st.toList.isEmpty
      · have hsn : st.data.toList ≠ [] := fun e => by
          rw [Lib.toList_data, e] at he
          cases he
        have HT : S (wt st.data.toList (memsAll fs)) = S (textOf st.data.toList (memsAll fs)) := by
          unfold wt
          rw [if_neg (fun h => hsn h.1)]
        rw [HT]
        obtain ⟨T, hT⟩ : ∃ T, S (textOf st.data.toList (memsAll fs)) = T := ⟨_, rfl⟩
        have HTL : Hid (T.data.toList = textOf st.data.toList (memsAll fs)) := by show _ = _; rw [← hT, S_data]
        have HTZ : Hid (T.size ≤ 1048576 + 1048576) := by
          show _ ≤ _
          rw [← sz, HTL.out]
          have e1 := kept_tl st.data.toList fs
          have e2 := joinC_length (keptOf st.data.toList (memsAll fs))
          have e3 : (keptOf st.data.toList (memsAll fs)).length ≤ 32 := List.length_take_le _ _
          rw [sz] at e1
          unfold textOf
          omega
        rw [hT] at hC18 ⊢
        clear HT hT
        go_wp2_with fail
        go_at_call 18
        refine hC18.mono ?_
        rintro e w5 ⟨rfl, hB5⟩
        have HB5 : Hid (Below w.heap.size w w5) := HB4.out.trans (hB5.mono HB4.out.size)
        clear hC18 hB5 HB4
        go_wp2_with fail
        go_at_call 19
        refine (hC19 _).mono ?_
        rintro e w' ⟨⟨b, rfl, hb⟩, q2, hw⟩
        rw [hw]
        have HB6 : Hid (Below w.heap.size w (w5.drewN q2)) := below_drewN HB5.out q2
        obtain ⟨w6, hw6⟩ : ∃ w6, w5.drewN q2 = w6 := ⟨_, rfl⟩
        rw [hw6] at HB6 ⊢
        clear hw6 hw w' hC19 HB5
        cases b
        · go_wp2
          go_ret
          exact ⟨rfl, HB6.out⟩
        have HVS : Hid (VS st.data.toList) := hb rfl
        clear hb
        cases hce : ce st.data.toList
        case true =>
          have hC20' := hC20 w6
          rw [hce] at hC20'
          go_wp2_with (go_at_call 20; refine hC20'.mono ?_; rintro e w' ⟨rfl, hw⟩; rw [hw])
          go_ret
          exact ⟨rfl, HB6.out⟩
        have hC20' := hC20 w6
        rw [hce] at hC20'
        have hC21 := zzW3CMember_stamp st w6 HVS.out hce
        obtain ⟨M, hM⟩ : ∃ M : ByteArray, (⟨#[116, 97, 108, 108, 121, 99, 108, 111, 99, 107, 61]⟩ ++ st : ByteArray) = M := ⟨_, rfl⟩
        rw [hM] at hC21
        have HMD : Hid (M.data.toList = SP ++ st.data.toList) := by
          show _ = _
          rw [← hM, data_append]
          rfl
        obtain ⟨rest, HR1, HR2⟩ := text_first HVS.out.1 (memsAll fs)
        rw [← HTL.out, ← HMD.out] at HR1
        have HR1' : Hid (T.data.toList = M.data.toList ++ rest) := HR1
        have HR2' : Hid (rest = [] ∨ ∃ r, rest = 44 :: r) := HR2
        have hMz : M.size ≤ T.size := by rw [← sz M, ← sz T, HR1'.out, List.length_append]; omega
        have hTz := HTZ.out
        have hC22 := fun W => (zzHasPrefix_any T M W (by unfold maxLen; omega)).mono fun e w' hh => (show e = .returned (.bool true) ∧ ∃ n, w' = W.drewN n from ⟨hh.1.trans (by
          have : Lib.hasPrefix T.data.toList M.data.toList = true := by
            unfold Lib.hasPrefix
            rw [List.isPrefixOf_iff_prefix, HR1'.out]
            exact List.prefix_append _ _
          rw [this]), hh.2⟩)
        have hst2 : st.size ≤ 4096 := by omega
        clear HR1 HR2 hC20 HTL HMD HVS HTZ hce
        go_wp2_with fail
        go_at_call 20
        refine hC20'.mono ?_
        rintro e w' ⟨rfl, hw⟩
        rw [hw]
        clear hw w' hC20'
        go_wp2_with fail
        go_at_call 21
        refine hC21.mono ?_
        rintro e w' ⟨rfl, q3, hw⟩
        rw [hw]
        clear hw w' hC21
        go_wp2_with fail
        go_at_call 22
        refine (hC22 _).mono ?_
        rintro e w' ⟨rfl, q4, hw⟩
        rw [hw]
        have HB7 : Hid (Below w.heap.size w ((w6.drewN q3).drewN q4)) := below_drewN (below_drewN HB6.out q3) q4
        obtain ⟨w7, hw7⟩ : ∃ w7, (w6.drewN q3).drewN q4 = w7 := ⟨_, rfl⟩
        rw [hw7] at HB7 ⊢
        clear hw7 hw w' hC22 HB6
        by_cases hgt : (M.size : Int) < (T.size : Int)
        · have hdt : decide ((M.size : Int) < (T.size : Int)) = true := decide_eq_true hgt
          have hgt' : M.size < T.size := by omega
          obtain ⟨x, hx⟩ : ∃ x : UInt8, T[M.size]'hgt' = x := ⟨_, rfl⟩
          have hx44 : (x.toNat : Int) = 44 := by
            have h1 := at_list T M.size hgt'
            rw [hx, HR1'.out, List.getElem?_append_right (by rw [sz]; omega), sz, Nat.sub_self] at h1
            rcases HR2'.out with h0 | ⟨r, h0⟩
            · rw [h0] at h1; cases h1
            · rw [h0] at h1
              cases h1
              rfl
          have hx44' : ((x.toNat : Int) != 44) = false := by rw [hx44]; rfl
          have q1 : (0 : Int) ≤ (M.size : Int) := by omega
          go_wp2
          go_ret
          exact ⟨rfl, HB7.out⟩
        · have hdt : decide ((M.size : Int) < (T.size : Int)) = false := decide_eq_false hgt
          go_wp2
          go_ret
          exact ⟨rfl, HB7.out⟩
      · have hsn : st.data.toList = [] := by rw [Lib.toList_data, List.isEmpty_iff] at he; exact he
        have HT : S (wt st.data.toList (memsAll fs)) = ⟨#[]⟩ := by
          unfold wt
          rw [if_pos ⟨hsn, hr⟩]
          rfl
        rw [HT]
        clear HT hC18
        go_wp2_with fail
        go_at_call 19
        refine (hC19 _).mono ?_
        rintro e w' ⟨⟨b, rfl, hb⟩, q2, hw⟩
        rw [hw]
        cases b
        · go_wp2
          go_ret
          exact ⟨rfl, below_drewN HB4.out q2⟩
        · exact absurd hsn (hb rfl).1
    · cases he : st.toList.isEmpty
      · have hsn : st.data.toList ≠ [] := fun e => by
          rw [Lib.toList_data, e] at he
          cases he
        have HT : S (wt st.data.toList (memsAll fs)) = S (textOf st.data.toList (memsAll fs)) := by
          unfold wt
          rw [if_neg (fun h => by rw [hr] at h; cases h.2)]
        rw [HT]
        obtain ⟨T, hT⟩ : ∃ T, S (textOf st.data.toList (memsAll fs)) = T := ⟨_, rfl⟩
        have HTL : Hid (T.data.toList = textOf st.data.toList (memsAll fs)) := by show _ = _; rw [← hT, S_data]
        have HTZ : Hid (T.size ≤ 1048576 + 1048576) := by
          show _ ≤ _
          rw [← sz, HTL.out]
          have e1 := kept_tl st.data.toList fs
          have e2 := joinC_length (keptOf st.data.toList (memsAll fs))
          have e3 : (keptOf st.data.toList (memsAll fs)).length ≤ 32 := List.length_take_le _ _
          rw [sz] at e1
          unfold textOf
          omega
        rw [hT] at hC18 ⊢
        clear HT hT
        go_wp2_with fail
        go_at_call 18
        refine hC18.mono ?_
        rintro e w5 ⟨rfl, hB5⟩
        have HB5 : Hid (Below w.heap.size w w5) := HB4.out.trans (hB5.mono HB4.out.size)
        clear hC18 hB5 HB4
        go_wp2_with fail
        go_at_call 19
        refine (hC19 _).mono ?_
        rintro e w' ⟨⟨b, rfl, hb⟩, q2, hw⟩
        rw [hw]
        have HB6 : Hid (Below w.heap.size w (w5.drewN q2)) := below_drewN HB5.out q2
        obtain ⟨w6, hw6⟩ : ∃ w6, w5.drewN q2 = w6 := ⟨_, rfl⟩
        rw [hw6] at HB6 ⊢
        clear hw6 hw w' hC19 HB5
        cases b
        · go_wp2
          go_ret
          exact ⟨rfl, HB6.out⟩
        have HVS : Hid (VS st.data.toList) := hb rfl
        clear hb
        cases hce : ce st.data.toList
        case true =>
          have hC20' := hC20 w6
          rw [hce] at hC20'
          go_wp2_with (go_at_call 20; refine hC20'.mono ?_; rintro e w' ⟨rfl, hw⟩; rw [hw])
          go_ret
          exact ⟨rfl, HB6.out⟩
        have hC20' := hC20 w6
        rw [hce] at hC20'
        have hC21 := zzW3CMember_stamp st w6 HVS.out hce
        obtain ⟨M, hM⟩ : ∃ M : ByteArray, (⟨#[116, 97, 108, 108, 121, 99, 108, 111, 99, 107, 61]⟩ ++ st : ByteArray) = M := ⟨_, rfl⟩
        rw [hM] at hC21
        have HMD : Hid (M.data.toList = SP ++ st.data.toList) := by
          show _ = _
          rw [← hM, data_append]
          rfl
        obtain ⟨rest, HR1, HR2⟩ := text_first HVS.out.1 (memsAll fs)
        rw [← HTL.out, ← HMD.out] at HR1
        have HR1' : Hid (T.data.toList = M.data.toList ++ rest) := HR1
        have HR2' : Hid (rest = [] ∨ ∃ r, rest = 44 :: r) := HR2
        have hMz : M.size ≤ T.size := by rw [← sz M, ← sz T, HR1'.out, List.length_append]; omega
        have hTz := HTZ.out
        have hC22 := fun W => (zzHasPrefix_any T M W (by unfold maxLen; omega)).mono fun e w' hh => (show e = .returned (.bool true) ∧ ∃ n, w' = W.drewN n from ⟨hh.1.trans (by
          have : Lib.hasPrefix T.data.toList M.data.toList = true := by
            unfold Lib.hasPrefix
            rw [List.isPrefixOf_iff_prefix, HR1'.out]
            exact List.prefix_append _ _
          rw [this]), hh.2⟩)
        have hst2 : st.size ≤ 4096 := by omega
        clear HR1 HR2 hC20 HTL HMD HVS HTZ hce
        go_wp2_with fail
        go_at_call 20
        refine hC20'.mono ?_
        rintro e w' ⟨rfl, hw⟩
        rw [hw]
        clear hw w' hC20'
        go_wp2_with fail
        go_at_call 21
        refine hC21.mono ?_
        rintro e w' ⟨rfl, q3, hw⟩
        rw [hw]
        clear hw w' hC21
        go_wp2_with fail
        go_at_call 22
        refine (hC22 _).mono ?_
        rintro e w' ⟨rfl, q4, hw⟩
        rw [hw]
        have HB7 : Hid (Below w.heap.size w ((w6.drewN q3).drewN q4)) := below_drewN (below_drewN HB6.out q3) q4
        obtain ⟨w7, hw7⟩ : ∃ w7, (w6.drewN q3).drewN q4 = w7 := ⟨_, rfl⟩
        rw [hw7] at HB7 ⊢
        clear hw7 hw w' hC22 HB6
        by_cases hgt : (M.size : Int) < (T.size : Int)
        · have hdt : decide ((M.size : Int) < (T.size : Int)) = true := decide_eq_true hgt
          have hgt' : M.size < T.size := by omega
          obtain ⟨x, hx⟩ : ∃ x : UInt8, T[M.size]'hgt' = x := ⟨_, rfl⟩
          have hx44 : (x.toNat : Int) = 44 := by
            have h1 := at_list T M.size hgt'
            rw [hx, HR1'.out, List.getElem?_append_right (by rw [sz]; omega), sz, Nat.sub_self] at h1
            rcases HR2'.out with h0 | ⟨r, h0⟩
            · rw [h0] at h1; cases h1
            · rw [h0] at h1
              cases h1
              rfl
          have hx44' : ((x.toNat : Int) != 44) = false := by rw [hx44]; rfl
          have q1 : (0 : Int) ≤ (M.size : Int) := by omega
          go_wp2
          go_ret
          exact ⟨rfl, HB7.out⟩
        · have hdt : decide ((M.size : Int) < (T.size : Int)) = false := decide_eq_false hgt
          go_wp2
          go_ret
          exact ⟨rfl, HB7.out⟩
      · have hsn : st.data.toList = [] := by rw [Lib.toList_data, List.isEmpty_iff] at he; exact he
        have HT : S (wt st.data.toList (memsAll fs)) = S (textOf st.data.toList (memsAll fs)) := by
          unfold wt
          rw [if_neg (fun h => by rw [hr] at h; cases h.2)]
        rw [HT]
        obtain ⟨T, hT⟩ : ∃ T, S (textOf st.data.toList (memsAll fs)) = T := ⟨_, rfl⟩
        have HTL : Hid (T.data.toList = textOf st.data.toList (memsAll fs)) := by show _ = _; rw [← hT, S_data]
        have HTZ : Hid (T.size ≤ 1048576 + 1048576) := by
          show _ ≤ _
          rw [← sz, HTL.out]
          have e1 := kept_tl st.data.toList fs
          have e2 := joinC_length (keptOf st.data.toList (memsAll fs))
          have e3 : (keptOf st.data.toList (memsAll fs)).length ≤ 32 := List.length_take_le _ _
          rw [sz] at e1
          unfold textOf
          omega
        rw [hT] at hC18 ⊢
        clear HT hT
        go_wp2_with fail
        go_at_call 18
        refine hC18.mono ?_
        rintro e w5 ⟨rfl, hB5⟩
        have HB5 : Hid (Below w.heap.size w w5) := HB4.out.trans (hB5.mono HB4.out.size)
        clear hC18 hB5 HB4
        go_wp2_with fail
        go_at_call 19
        refine (hC19 _).mono ?_
        rintro e w' ⟨⟨b, rfl, hb⟩, q2, hw⟩
        rw [hw]
        have HB6 : Hid (Below w.heap.size w (w5.drewN q2)) := below_drewN HB5.out q2
        obtain ⟨w6, hw6⟩ : ∃ w6, w5.drewN q2 = w6 := ⟨_, rfl⟩
        rw [hw6] at HB6 ⊢
        clear hw6 hw w' hC19 HB5
        cases b
        · go_wp2
          go_ret
          exact ⟨rfl, HB6.out⟩
        · exact absurd hsn (hb rfl).1

end Go.Proofs.Qxb6003347a
