/-
  SEAT b6003347a. THE WALK of withStampMember.
-/
import Derived.Test.Qxb6003347aLeave
import Derived.Test.Qxb6003347aExpect
import Derived.Stop.RegionWithIn
namespace Go.Proofs.Qxb6003347a
open Go.RowKit Go.Shelf

attribute [local go_sem] Oper.semAt_some

theorem ysAll_mems (fs : List ByteArray) : ysAll ms0 0 (datas fs) = memsAll fs := by
  unfold ysAll datas memsAll
  rw [List.map_map, List.flatMap_def]
  congr 1
  refine List.map_congr_left fun f _ => ?_
  exact ysOf_mems _ _ rfl

theorem ysAll_key (fs : List ByteArray) : ysAll msP 11 (datas fs) = [] ↔ hasSt (memsAll fs) = false := by
  unfold ysAll datas memsAll
  induction fs with
  | nil => exact ⟨fun _ => rfl, fun _ => rfl⟩
  | cons f r ih =>
    rw [List.map_cons, List.map_cons, List.flatten_cons, List.flatMap_cons, List.append_eq_nil_iff, ih, ysOf_key]
    unfold hasSt
    rw [List.any_append, Bool.or_eq_false_iff]

/-- What withStampMember hands back. -/
def WithRes (st : List UInt8) (fs : List ByteArray) (e : Ending) : Prop :=
  e = .returned (if st = [] ∧ hasSt (memsAll fs) = false then .tuple #[.string ⟨#[]⟩, .bool false] else .tuple #[.string (S (textOf st (memsAll fs))), .bool (hasSt (memsAll fs))])

theorem kept_tl (st : List UInt8) (fs : List ByteArray) : tl (keptOf st (memsAll fs)) ≤ 11 + st.length + tot fs := by
  unfold keptOf
  have e1 := tl_take (K0 st ++ others (memsAll fs)) 32
  rw [tl_append] at e1
  have e2 := tl_K0 st
  have e3 : tl (others (memsAll fs)) ≤ tl (memsAll fs) := tl_filter _ _
  have e4 := tl_memsAll fs
  omega

theorem Kept.drew {W : World} {Bk Bm : Nat} {ks : List (List UInt8)} (h : Kept W Bk Bm ks) : Kept W.drew Bk Bm ks := ⟨h.box, h.boxf, h.len, h.at_, h.some_⟩

/-- A walk that comes to no panic need not say what lies behind one. -/
theorem wpIn_noPanic {F : Fence} {n : Nat} {P : Program} {c : Code} {K : Act → World → Prop} {Q : Exit → Act → World → Prop} {a : Act} {w : World} (h : c.wpIn F n P (Exit.then K (fun _ _ _ => False)) a w) : c.wpIn F n P (Exit.then K Q) a w :=
  Code.wpIn_mono (fun e a w h => by cases e <;> first | exact h | exact h.elim) h

theorem join_kept {W : World} {Bk Bm : Nat} {ks : List (List UInt8)} (h : Kept W Bk Bm ks) (hl : tl ks + ks.length ≤ 140737488355328) :
    Calls Try.prog 42 #[.slice (some ⟨Bk, 0, none⟩) ks.length 32, .string ⟨#[44]⟩] W fun e w' => e = .returned (.string (S (joinC ks))) ∧ Below W.heap.size W w' := by
  have hB : Bk < W.heap.size := by
    obtain ⟨v, hv⟩ := Option.isSome_iff_exists.1 (h.some_ 0 (by omega)).1
    exact World.block_lt_of_cell? W _ hv
  have hm : (ks.map S).map (fun x => x.data.toList) = ks := by
    rw [List.map_map]
    exact List.map_id _
  have := Try.strings_Join Bk 0 32 (ks.map S) ⟨#[44]⟩ W (fun j x hj => by
      rw [List.getElem?_map, Option.map_eq_some_iff] at hj
      obtain ⟨y, hy, rfl⟩ := hj
      rw [Nat.zero_add]
      exact h.at_ j y hy) hB (by rw [List.length_map]; have := h.len; omega) (by rw [List.length_map]; exact h.len) (by
      rw [hm]
      exact Nat.le_trans (joinC_length ks) hl)
  rw [hm, List.length_map] at this
  exact this

set_option maxRecDepth 100000 in
set_option maxHeartbeats 4000000 in
theorem with_in (n : Nat) (hn : 6 ≤ n) (p : Option Addr) (c : Nat) (m : Int) (fs : List ByteArray) (st : ByteArray) (w : World)
    (hsz : ∀ f ∈ fs, f.size < 4294967281) (hlen : fs.length * 16 ≤ 140737488351232) (h00 : 0 < w.heap.size) (hm : w.cell? ⟨0, 0, none⟩ = some (.int .i64 m))
    (hst : Strs w p fs.length fs) (hbe : ∀ b off, p = some ⟨b, off, none⟩ → b < w.heap.size) (hstz : st.size ≤ 70368744177664) (htot : tot fs ≤ 70368744177000) :
    CallsIn Fence.wide n Try.prog 29 #[.slice p fs.length c, .string st] w fun e W' => WithRes st.data.toList fs e ∧ Below w.heap.size w W' := by
  have h1 : 1 ≤ n := by omega
  refine callsIn_of_wp_marks Try.func29 rfl trivial ?_ rfl
  simp only [Try.ntmps29, List.size_toArray, List.length_cons, List.length_nil, Nat.reduceAdd, Nat.reduceSub, Array.replicate_succ, Array.replicate_zero, List.push_toArray, List.append_toArray, List.nil_append, List.cons_append]
  obtain ⟨N, hN⟩ : ∃ N, fs.length = N := ⟨_, rfl⟩
  rw [hN] at hlen hst ⊢
  gi_wp2_with (refine ⟨trivial, ?_⟩; gi_at_call 28; refine (make_in _ _ _ _ _ _).mono ?_; rintro e w' ⟨rfl, rfl⟩)
  obtain ⟨H, hH⟩ : ∃ H, w.heap.size = H := ⟨_, rfl⟩
  rw [hH] at h00 hbe ⊢
  obtain ⟨W0, hW0⟩ : ∃ W0, ((w.alloc (.cells #[.bool false] 4)).alloc (.cells #[.slice p N c] 36)).alloc (.cells #[.string ⟨#[116, 97, 108, 108, 121, 99, 108, 111, 99, 107, 61]⟩] 9) = W0 := ⟨_, rfl⟩
  have hB0 : Below H w W0 := by
    rw [← hW0, ← hH]
    exact (((Below.refl _ w).alloc (Nat.le_refl _) _).alloc (by simp) _).alloc (by simp; omega) _
  have hz0 : W0.heap.size = H + 3 := by rw [← hW0, ← hH]; simp
  have b0 : Boxed W0 H 4 (.bool false) := by rw [← hW0, ← hH]; exact ((Boxed.new w 4 _).alloc _).alloc _
  have b1 : Boxed W0 (H + 1) 36 (.slice p N c) := by
    rw [← hW0, ← hH]
    have := (Boxed.new (w.alloc (.cells #[.bool false] 4)) 36 (.slice p N c)).alloc (.cells #[.string ⟨#[116, 97, 108, 108, 121, 99, 108, 111, 99, 107, 61]⟩] 9)
    rw [World.size_alloc] at this
    exact this
  have b2 : Boxed W0 (H + 2) 9 (.string ⟨#[116, 97, 108, 108, 121, 99, 108, 111, 99, 107, 61]⟩) := by
    rw [← hW0, ← hH]
    have := Boxed.new ((w.alloc (.cells #[.bool false] 4)).alloc (.cells #[.slice p N c] 36)) 9 (.string ⟨#[116, 97, 108, 108, 121, 99, 108, 111, 99, 107, 61]⟩)
    rw [World.size_alloc, World.size_alloc] at this
    exact this
  rw [hW0]
  clear hW0
  have hseq1 := iter_stops (n - 1) (by omega) (H + 1) (H + 2) H p c msP ⟨#[116, 97, 108, 108, 121, 99, 108, 111, 99, 107, 61]⟩ m fs W0 goodP (fun s W h1 h2 => memberStart_key s m W h1 h2) hsz (by rw [hN]; exact hlen) h00 (by omega) (by omega) (by omega)
    (by rw [hN]; exact b1.cell) b2.cell ((hB0.cell (p := ⟨0, 0, none⟩) h00).trans hm) (by rw [hN]; exact Strs.keep hst (keep_below (by rw [hH]; exact hB0))) hbe
  refine wpIn_rangeFunc_ownF rfl h1 (gf := 37) (lb := #[.pointer (some ⟨H + 1, 0, none⟩), .pointer (some ⟨H + 2, 0, none⟩)]) rfl trivial (enters_of Try.func37 (by kernel_rfl) rfl)
    hseq1 KP.t (KP.b (by omega)) (Below.refl _ _) (fun _ => rfl)
    (fun pre W => (pre = [] ∧ W.cell? ⟨H, 0, none⟩ = some (.bool false) ∧ W.frozen? ⟨H, 0, none⟩ = false) ∧ Below H w W)
    (fun c pre W => ((c = .exit 0 ∧ pre ≠ []) ∧ W.cell? ⟨H, 0, none⟩ = some (.bool true) ∧ W.frozen? ⟨H, 0, none⟩ = false) ∧ Below H w W)
    (OwnFrom.and (Own.from (fun s A B row hs hg hr => ⟨hs.1, cell_kept hs.2.1 hg hr, (frozen_kept hs.2.1 hg hr).trans hs.2.2⟩) _) (ownFrom_below (by omega) (by omega)))
    (fun c => OwnFrom.and (Own.from (fun s A B row hs hg hr => ⟨hs.1, cell_kept hs.2.1 hg hr, (frozen_kept hs.2.1 hg hr).trans hs.2.2⟩) _) (ownFrom_below (by omega) (by omega)))
    ⟨⟨rfl, b0.cell, b0.frozen⟩, hB0⟩
    (fun x => { tmps := #[.slice p N c, .string st, undef, undef, .string ⟨#[]⟩, .pointer (some ⟨H, 0, none⟩), undef, undef, undef, .slice p N c, .func (.func 37) #[] #[.pointer (some ⟨H + 1, 0, none⟩), .pointer (some ⟨H + 2, 0, none⟩)], .string (S x), undef, undef, undef, undef, undef, undef, undef, undef, undef, undef, undef, undef, undef, undef, undef, undef, undef, undef, undef, undef, undef, undef, undef, undef, undef, undef, undef, undef, undef, undef], defers := [] }) ?assign ?body ?done ?stop
  case assign =>
    intro l x W K hK
    gi_wp2
    exact hK
  case body =>
    rintro l pre x W ⟨⟨rfl, hc, hf⟩, hB⟩ _
    gi_wp2
    exact ⟨KeepsOthers.setCell _ _ _, ⟨⟨rfl, by simp⟩, World.cell?_setCell_same' _ _ _ (by rw [hc]; rfl), by rw [World.frozen?_setCell]; exact hf⟩, hB.setCell (p := ⟨H, 0, none⟩) (Nat.le_refl _) _⟩
  case' done =>
    rintro D ys W hD hys ⟨⟨hnil, hc, hf⟩, hB⟩ hK
    obtain ⟨rm, hrm⟩ : ∃ rm, rm = false := ⟨_, rfl⟩
    have hrs : Hid (rm = hasSt (memsAll fs)) := by
      show _ = _
      rw [hrm]
      exact ((ysAll_key fs).1 (hys.symm.trans hnil)).symm
    rw [← hrm] at hc
    clear hnil hys ys
  case' stop =>
    rintro D c' pre W hD hpre ⟨⟨⟨rfl, hne⟩, hc, hf⟩, hB⟩ hK
    obtain ⟨rm, hrm⟩ : ∃ rm, rm = true := ⟨_, rfl⟩
    have hrs : Hid (rm = hasSt (memsAll fs)) := by
      show _ = _
      rw [hrm]
      cases h : hasSt (memsAll fs)
      · have h0 := (ysAll_key fs).2 h
        have h1 : pre <+: ysAll msP 11 (datas fs) := hpre
        rw [h0, List.prefix_nil] at h1
        exact absurd h1 hne
      · rfl
    rw [← hrm] at hc
    clear hne hpre pre
  all_goals
    rw [hz0] at hD
    have hDl : D < W.heap.size := (Array.getElem?_eq_some_iff.1 hK).1
    clear hB0 b0 b1 b2 hseq1
    cases he : st.toList.isEmpty
    case false =>
      clear hrm
      gi_wp2_with (refine ⟨trivial, ?_⟩; gi_at_call 28; refine (make_in _ _ _ _ _ _).mono ?_; rintro e w' ⟨rfl, rfl⟩)
      have hK0 : K0 st.data.toList = [SP ++ st.data.toList] := K0_some he
      have hS0 : (⟨#[116, 97, 108, 108, 121, 99, 108, 111, 99, 107, 61]⟩ ++ st : ByteArray) = S (SP ++ st.data.toList) := by
        apply eq_S
        rw [data_append]
        rfl
      have hks : Kept ((W.alloc (.cells #[Value.string (⟨#[116, 97, 108, 108, 121, 99, 108, 111, 99, 107, 61]⟩ ++ st), Value.string ⟨#[]⟩, Value.string ⟨#[]⟩, Value.string ⟨#[]⟩, Value.string ⟨#[]⟩, Value.string ⟨#[]⟩, Value.string ⟨#[]⟩, Value.string ⟨#[]⟩, Value.string ⟨#[]⟩, Value.string ⟨#[]⟩, Value.string ⟨#[]⟩, Value.string ⟨#[]⟩, Value.string ⟨#[]⟩, Value.string ⟨#[]⟩, Value.string ⟨#[]⟩, Value.string ⟨#[]⟩, Value.string ⟨#[]⟩, Value.string ⟨#[]⟩, Value.string ⟨#[]⟩, Value.string ⟨#[]⟩, Value.string ⟨#[]⟩, Value.string ⟨#[]⟩, Value.string ⟨#[]⟩, Value.string ⟨#[]⟩, Value.string ⟨#[]⟩, Value.string ⟨#[]⟩, Value.string ⟨#[]⟩, Value.string ⟨#[]⟩, Value.string ⟨#[]⟩, Value.string ⟨#[]⟩, Value.string ⟨#[]⟩, Value.string ⟨#[]⟩] 61)).alloc (.cells #[.slice (some ⟨W.heap.size, 0, none⟩) 1 32] 36)) W.heap.size (W.heap.size + 1) (K0 st.data.toList) := by
        rw [hK0]
        refine Kept.start W _ [SP ++ st.data.toList] rfl (by simp) (fun j x hj => ?_)
        cases j with
        | zero => cases hj; rw [← hS0]; rfl
        | succ j => simp at hj
      have hHW : H ≤ W.heap.size := by omega
      obtain ⟨W3, hW3⟩ : ∃ W3, ((((W.alloc (.cells #[Value.string (⟨#[116, 97, 108, 108, 121, 99, 108, 111, 99, 107, 61]⟩ ++ st), Value.string ⟨#[]⟩, Value.string ⟨#[]⟩, Value.string ⟨#[]⟩, Value.string ⟨#[]⟩, Value.string ⟨#[]⟩, Value.string ⟨#[]⟩, Value.string ⟨#[]⟩, Value.string ⟨#[]⟩, Value.string ⟨#[]⟩, Value.string ⟨#[]⟩, Value.string ⟨#[]⟩, Value.string ⟨#[]⟩, Value.string ⟨#[]⟩, Value.string ⟨#[]⟩, Value.string ⟨#[]⟩, Value.string ⟨#[]⟩, Value.string ⟨#[]⟩, Value.string ⟨#[]⟩, Value.string ⟨#[]⟩, Value.string ⟨#[]⟩, Value.string ⟨#[]⟩, Value.string ⟨#[]⟩, Value.string ⟨#[]⟩, Value.string ⟨#[]⟩, Value.string ⟨#[]⟩, Value.string ⟨#[]⟩, Value.string ⟨#[]⟩, Value.string ⟨#[]⟩, Value.string ⟨#[]⟩, Value.string ⟨#[]⟩, Value.string ⟨#[]⟩] 61)).alloc (.cells #[.slice (some ⟨W.heap.size, 0, none⟩) 1 32] 36)).alloc (.cells #[.string (⟨#[116, 97, 108, 108, 121, 99, 108, 111, 99, 107, 61]⟩ ++ st)] 9)).alloc (.cells #[.slice p N c] 36)).alloc (.cells #[.string ⟨#[]⟩] 9) = W3 := ⟨_, rfl⟩
      have hL0 : Loop2 w H D W.heap.size (W.heap.size + 1) rm (K0 st.data.toList) W3 := by
        rw [← hW3]
        exact ⟨(((hks.alloc _).alloc _).alloc _), cell_alloc_l _ (cell_alloc_l _ (cell_alloc_l _ (cell_alloc_l _ (cell_alloc_l _ hc)))), frozen_alloc_l _ (cell_alloc_l _ (cell_alloc_l _ (cell_alloc_l _ (cell_alloc_l _ hc)))) (frozen_alloc_l _ (cell_alloc_l _ (cell_alloc_l _ (cell_alloc_l _ hc))) (frozen_alloc_l _ (cell_alloc_l _ (cell_alloc_l _ hc)) (frozen_alloc_l _ (cell_alloc_l _ hc) (frozen_alloc_l _ hc hf)))), (((((hB.alloc hHW _).alloc (by simp; omega) _).alloc (by simp; omega) _).alloc (by simp; omega) _).alloc (by simp; omega) _), (((((KeepsOthers.alloc _ _).trans (KeepsOthers.alloc _ _)).trans (KeepsOthers.alloc _ _)).trans (KeepsOthers.alloc _ _)).trans (KeepsOthers.alloc _ _)).same D _ hK rfl⟩
      have hz3 : W3.heap.size = W.heap.size + 5 := by rw [← hW3]; simp
      have c1 : W3.cell? ⟨W.heap.size + 1 + 1 + 1, 0, none⟩ = some (.slice p N c) := by
        rw [← hW3]
        have := (Boxed.new (((W.alloc (.cells #[Value.string (⟨#[116, 97, 108, 108, 121, 99, 108, 111, 99, 107, 61]⟩ ++ st), Value.string ⟨#[]⟩, Value.string ⟨#[]⟩, Value.string ⟨#[]⟩, Value.string ⟨#[]⟩, Value.string ⟨#[]⟩, Value.string ⟨#[]⟩, Value.string ⟨#[]⟩, Value.string ⟨#[]⟩, Value.string ⟨#[]⟩, Value.string ⟨#[]⟩, Value.string ⟨#[]⟩, Value.string ⟨#[]⟩, Value.string ⟨#[]⟩, Value.string ⟨#[]⟩, Value.string ⟨#[]⟩, Value.string ⟨#[]⟩, Value.string ⟨#[]⟩, Value.string ⟨#[]⟩, Value.string ⟨#[]⟩, Value.string ⟨#[]⟩, Value.string ⟨#[]⟩, Value.string ⟨#[]⟩, Value.string ⟨#[]⟩, Value.string ⟨#[]⟩, Value.string ⟨#[]⟩, Value.string ⟨#[]⟩, Value.string ⟨#[]⟩, Value.string ⟨#[]⟩, Value.string ⟨#[]⟩, Value.string ⟨#[]⟩, Value.string ⟨#[]⟩] 61)).alloc (.cells #[.slice (some ⟨W.heap.size, 0, none⟩) 1 32] 36)).alloc (.cells #[.string (⟨#[116, 97, 108, 108, 121, 99, 108, 111, 99, 107, 61]⟩ ++ st)] 9)) 36 (.slice p N c)).alloc (.cells #[.string ⟨#[]⟩] 9)
        simp only [World.size_alloc] at this
        exact this.cell
      have c2 : W3.cell? ⟨W.heap.size + 1 + 1 + 1 + 1, 0, none⟩ = some (.string ⟨#[]⟩) := by
        rw [← hW3]
        have := Boxed.new ((((W.alloc (.cells #[Value.string (⟨#[116, 97, 108, 108, 121, 99, 108, 111, 99, 107, 61]⟩ ++ st), Value.string ⟨#[]⟩, Value.string ⟨#[]⟩, Value.string ⟨#[]⟩, Value.string ⟨#[]⟩, Value.string ⟨#[]⟩, Value.string ⟨#[]⟩, Value.string ⟨#[]⟩, Value.string ⟨#[]⟩, Value.string ⟨#[]⟩, Value.string ⟨#[]⟩, Value.string ⟨#[]⟩, Value.string ⟨#[]⟩, Value.string ⟨#[]⟩, Value.string ⟨#[]⟩, Value.string ⟨#[]⟩, Value.string ⟨#[]⟩, Value.string ⟨#[]⟩, Value.string ⟨#[]⟩, Value.string ⟨#[]⟩, Value.string ⟨#[]⟩, Value.string ⟨#[]⟩, Value.string ⟨#[]⟩, Value.string ⟨#[]⟩, Value.string ⟨#[]⟩, Value.string ⟨#[]⟩, Value.string ⟨#[]⟩, Value.string ⟨#[]⟩, Value.string ⟨#[]⟩, Value.string ⟨#[]⟩, Value.string ⟨#[]⟩, Value.string ⟨#[]⟩] 61)).alloc (.cells #[.slice (some ⟨W.heap.size, 0, none⟩) 1 32] 36)).alloc (.cells #[.string (⟨#[116, 97, 108, 108, 121, 99, 108, 111, 99, 107, 61]⟩ ++ st)] 9)).alloc (.cells #[.slice p N c] 36)) 9 (.string ⟨#[]⟩)
        simp only [World.size_alloc] at this
        exact this.cell
      rw [hW3]
      clear hW3 hks hc hf hK hB
      obtain ⟨G, hG⟩ : ∃ G, W.heap.size = G := ⟨_, rfl⟩
      rw [hG] at hHW hL0 hz3 c1 c2 hDl ⊢
      clear hG W
      have hseq2 := iter_stops (n - 1) (by omega) (G + 1 + 1 + 1) (G + 1 + 1 + 1 + 1) H p c ms0 ⟨#[]⟩ m fs W3 good0 (fun s W h1 h2 => memberStart_none s W (by unfold maxLen; omega)) hsz (by rw [hN]; exact hlen) h00 (by omega) (by omega) (by omega)
        (by rw [hN]; exact c1) c2 ((hL0.below.cell (p := ⟨0, 0, none⟩) h00).trans hm) (by rw [hN]; exact Strs.keep hst (keep_below (by rw [hH]; exact hL0.below))) hbe
      have hk01 := K0_length st.data.toList
      refine wpIn_rangeFunc_ownF rfl h1 (gf := 37) (lb := #[.pointer (some ⟨G + 1 + 1 + 1, 0, none⟩), .pointer (some ⟨G + 1 + 1 + 1 + 1, 0, none⟩)]) rfl trivial (enters_of Try.func37 (by kernel_rfl) rfl)
        hseq2 KP.t (KP.b (by omega)) (Below.refl _ _) (fun _ => rfl)
        (fun pre W => (K0 st.data.toList ++ others pre).length < 32 ∧ Loop2 w H D G (G + 1) rm (K0 st.data.toList ++ others pre) W)
        (fun c pre W => (c = .exit 2 ∧ (K0 st.data.toList ++ others pre).length = 32) ∧ Loop2 w H D G (G + 1) rm (K0 st.data.toList ++ others pre) W)
        (OwnFrom.and (ownFrom_pure _ _) (Loop2.own (fun pre => K0 st.data.toList ++ others pre) (by omega) (by omega) (by omega)))
        (fun c => OwnFrom.and (ownFrom_pure _ _) (Loop2.own (fun pre => K0 st.data.toList ++ others pre) (by omega) (by omega) (by omega)))
        ⟨by show (K0 st.data.toList ++ []).length < 32; rw [List.append_nil]; omega, by show Loop2 w H D G (G + 1) rm (K0 st.data.toList ++ []) W3; rw [List.append_nil]; exact hL0⟩
        (fun x => { tmps := #[.slice p N c, .string st, undef, undef, .string ⟨#[]⟩, .pointer (some ⟨H, 0, none⟩), .pointer (some ⟨G, 0, none⟩), .pointer (some ⟨G + 1, 0, none⟩), .string (S x), .slice p N c, .func (.func 37) #[] #[.pointer (some ⟨H + 1, 0, none⟩), .pointer (some ⟨H + 1 + 1, 0, none⟩)], undef, .string st, .bool false, .bool false, undef, undef, .bool false, .slice (some ⟨G, 0, none⟩) 0 32, .string st, .bool true, .slice (some ⟨G, 0, none⟩) 0 32, .string st, .string (⟨#[116, 97, 108, 108, 121, 99, 108, 111, 99, 107, 61]⟩ ++ st), .slice (some ⟨G + 1 + 1, 0, none⟩) 1 1, .slice (some ⟨G, 0, none⟩) 1 32, .slice p N c, .func (.func 37) #[] #[.pointer (some ⟨G + 1 + 1 + 1, 0, none⟩), .pointer (some ⟨G + 1 + 1 + 1 + 1, 0, none⟩)], .string (S x), undef, undef, undef, undef, undef, undef, undef, undef, undef, undef, undef, undef, undef], defers := [] }) ?_ ?_ ?_ ?_
      · intro l x W K hK
        gi_wp2
        exact hK
      · rintro l pre x W ⟨hl32, hL⟩ _
        have h1' : 1 ≤ n - 1 - 1 := by omega
        obtain ⟨ks, hks⟩ : ∃ ks, K0 st.data.toList ++ others pre = ks := ⟨_, rfl⟩
        rw [hks] at hl32 hL
        have hbx := hL.kept.box
        have hbf := hL.kept.boxf
        have hGw : G < W.heap.size := by
          obtain ⟨v, hv⟩ := Option.isSome_iff_exists.1 (hL.kept.some_ 0 (by omega)).1
          exact World.block_lt_of_cell? W _ hv
        have hG1w : G + 1 < W.heap.size := World.block_lt_of_cell? W _ hbx
        cases hx : isSt x
        · have hP' : Calls Try.prog 41 #[.string (S x), .string ⟨#[116, 97, 108, 108, 121, 99, 108, 111, 99, 107, 61]⟩] W fun e w' => e = .returned (.bool false) ∧ w' = W :=
            (Try.strings_HasPrefix (S x) ⟨#[116, 97, 108, 108, 121, 99, 108, 111, 99, 107, 61]⟩ W).mono fun e w' h => ⟨h.1.trans (congrArg (fun b => Ending.returned (.bool b)) hx), h.2⟩
          have hca : (W.alloc (.cells #[.string (S x)] 9)).cell? ((⟨W.heap.size, 0, none⟩ : Addr).add 0) = some (.string (S x)) := (Boxed.new W 9 (.string (S x))).cell
          have hka := hL.kept.alloc (.cells #[.string (S x)] 9)
          have hsm := (hka.some_ ks.length hl32).1
          have hfz := (hka.some_ ks.length hl32).2
          have hb2 : ((W.alloc (.cells #[.string (S x)] 9)).setCell ⟨G, ks.length, none⟩ (.string (S x))).cell? ⟨G + 1, 0, none⟩ = some (.slice (some ⟨G, 0, none⟩) ks.length 32) := by
            rw [World.cell?_setCell_other _ _ _ _ (fun e => by cases e)]
            exact hka.box
          have hf2 : ((W.alloc (.cells #[.string (S x)] 9)).setCell ⟨G, ks.length, none⟩ (.string (S x))).frozen? ⟨G + 1, 0, none⟩ = false := by
            rw [World.frozen?_setCell]
            exact hka.boxf
          have HE : Hid (K0 st.data.toList ++ others (pre ++ [x]) = ks ++ [x]) := by
            show _ = _
            rw [others_miss pre hx, ← List.append_assoc, hks]
          have HL3 : Hid (∀ k1, k1 = ks.length + 1 → Loop2 w H D G (G + 1) rm (ks ++ [x]) (pushed W G (G + 1) ks.length k1 x)) := fun k1 h => hL.push (by omega) hl32 (by omega) (by omega) (by omega) h x
          have HKP : Hid (KP H (G + 1 + 1 + 1 + 1) (.string ⟨#[]⟩) W (pushed W G (G + 1) ks.length (ks.length + 1) x)) := ⟨pushed_below x (by omega) (by omega) (by omega), fun e => pushed_cell x e (by omega) (by omega)⟩
          clear hka hks hL
          by_cases h32 : ks.length + 1 = 32
          · have h32' : ((ks.length : Int) + 1 == 32) = true := by rw [beq_iff_eq]; omega
            have h32'' : (ks.length : Int) + 1 = 32 := by omega
            gi_wp2_with first
              | (refine ⟨trivial, ?_⟩; gi_at_call 41; refine (CallsIn.inRound l (callsIn_wide.2 hP')).mono ?_; clear hP'; rintro e w' ⟨rfl, hw⟩; rw [hw]; clear hw)
              | (gi_at_builtin; refine wpListIn_push1 _ rfl (.tmp 32) (.tmp 34) rfl G ks.length 32 rfl ⟨W.heap.size, 0, none⟩ 1 rfl (.string (S x)) rfl hca (by omega) hsm hfz ?_)
            refine ⟨pushed_keeps W G (G + 1) ks.length 32 x, ⟨rfl, ?_⟩, ?_⟩
            · show (K0 st.data.toList ++ others (pre ++ [x])).length = 32
              rw [HE.out, List.length_append]
              exact h32
            · show Loop2 w H D G (G + 1) rm (K0 st.data.toList ++ others (pre ++ [x])) (pushed W G (G + 1) ks.length 32 x)
              rw [HE.out]
              exact HL3.out 32 h32.symm
          · have h32' : ((ks.length : Int) + 1 == 32) = false := by rw [beq_eq_false_iff_ne]; omega
            have h32'' : ¬ (ks.length : Int) + 1 = 32 := by omega
            gi_wp2_with first
              | (refine ⟨trivial, ?_⟩; gi_at_call 41; refine (CallsIn.inRound l (callsIn_wide.2 hP')).mono ?_; clear hP'; rintro e w' ⟨rfl, hw⟩; rw [hw]; clear hw)
              | (gi_at_builtin; refine wpListIn_push1 _ rfl (.tmp 32) (.tmp 34) rfl G ks.length 32 rfl ⟨W.heap.size, 0, none⟩ 1 rfl (.string (S x)) rfl hca (by omega) hsm hfz ?_)
            refine ⟨pushed_keeps W G (G + 1) ks.length (ks.length + 1) x, HKP.out, ?_, ?_⟩
            · show (K0 st.data.toList ++ others (pre ++ [x])).length < 32
              rw [HE.out, List.length_append, List.length_singleton]
              omega
            · show Loop2 w H D G (G + 1) rm (K0 st.data.toList ++ others (pre ++ [x])) (pushed W G (G + 1) ks.length (ks.length + 1) x)
              rw [HE.out]
              exact HL3.out _ rfl
        · have hP' : Calls Try.prog 41 #[.string (S x), .string ⟨#[116, 97, 108, 108, 121, 99, 108, 111, 99, 107, 61]⟩] W fun e w' => e = .returned (.bool true) ∧ w' = W :=
            (Try.strings_HasPrefix (S x) ⟨#[116, 97, 108, 108, 121, 99, 108, 111, 99, 107, 61]⟩ W).mono fun e w' h => ⟨h.1.trans (congrArg (fun b => Ending.returned (.bool b)) hx), h.2⟩
          have HE : Hid (K0 st.data.toList ++ others (pre ++ [x]) = ks) := by
            show _ = _
            rw [others_hit pre hx, hks]
          have HL : Hid (Loop2 w H D G (G + 1) rm ks W) := hL
          have h32' : ((ks.length : Int) == 32) = false := by rw [beq_eq_false_iff_ne]; omega
          have h32'' : ¬ (ks.length : Int) = 32 := by omega
          clear hks hL
          gi_wp2_with first
            | (refine ⟨trivial, ?_⟩; gi_at_call 41; refine (CallsIn.inRound l (callsIn_wide.2 hP')).mono ?_; clear hP'; rintro e w' ⟨rfl, hw⟩; rw [hw]; clear hw)
          refine ⟨KeepsOthers.refl _, KP.refl _ _ _ _, ?_⟩
          show (K0 st.data.toList ++ others (pre ++ [x])).length < 32 ∧ Loop2 w H D G (G + 1) rm (K0 st.data.toList ++ others (pre ++ [x])) W
          rw [HE.out]
          exact ⟨hl32, HL.out⟩
      · rintro D2 ys W hD2 hys ⟨hl32, hL⟩ hK2
        have hks' : Hid (keptOf st.data.toList (memsAll fs) = K0 st.data.toList ++ others ys) := by
          have e1 : ys = memsAll fs := hys.trans (ysAll_mems fs)
          show _ = _
          rw [← e1]
          exact kept_all (Nat.le_of_lt hl32)
        clear hys
        obtain ⟨ks, hks⟩ : ∃ ks, K0 st.data.toList ++ others ys = ks := ⟨_, rfl⟩
        rw [hks] at hL hks'
        clear hks hl32 ys
        rw [hz3] at hD2
        have hlt : tl ks + ks.length ≤ 140737488355328 := by
          have e1 := hL.kept.len
          have e2 := kept_tl st.data.toList fs
          rw [hks'.out, sz] at e2
          omega
        have hJ := join_kept hL.kept.drew hlt
        have hT : Hid (textOf st.data.toList (memsAll fs) = joinC ks) := by
          show joinC _ = _
          rw [hks'.out]
        have hbx := hL.kept.box
        have hrc := hL.rmc
        have hrf := hL.rmf
        have hdd := hL.defer
        have hHw : H < W.drew.heap.size := World.block_lt_of_cell? W _ hrc
        have HB : Hid (Below H w W) := hL.below
        clear hks' hlt hseq2 c1 c2 hL0 hL
        gi_wp2
        refine wpIn_noPanic ?_
        gi_region_with (refine ⟨trivial, ?_⟩; gi_at_call 42; refine (callsIn_wide.2 hJ).mono ?_; rintro e w' ⟨rfl, hw⟩; have hrc' : w'.cell? ⟨H, 0, none⟩ = some (.bool rm) := (hw.cell (p := ⟨H, 0, none⟩) hHw).trans hrc; have hrf' : w'.frozen? ⟨H, 0, none⟩ = false := (hw.frozen (p := ⟨H, 0, none⟩) hHw).trans hrf)
        all_goals gi_wp2
        all_goals
          refine leave_far hH HB.out (by assumption) hrc hdd hK2 (by omega) (by omega) rfl rfl ?_
          unfold WithRes
          rw [hT.out, ← hrs.out, if_neg (fun h => by have := (K0_some he); rw [h.1] at this; exact absurd this (by decide))]
          rfl
      · rintro D2 c' pre W hD2 hpre ⟨⟨rfl, hl32⟩, hL⟩ hK2
        have hks' : Hid (keptOf st.data.toList (memsAll fs) = K0 st.data.toList ++ others pre) := by
          obtain ⟨rest, hr⟩ := hpre
          exact kept_part (rest := rest) ((ysAll_mems fs).symm.trans hr.symm) hl32
        clear hpre
        obtain ⟨ks, hks⟩ : ∃ ks, K0 st.data.toList ++ others pre = ks := ⟨_, rfl⟩
        rw [hks] at hL hks'
        clear hks hl32 pre
        rw [hz3] at hD2
        have hlt : tl ks + ks.length ≤ 140737488355328 := by
          have e1 := hL.kept.len
          have e2 := kept_tl st.data.toList fs
          rw [hks'.out, sz] at e2
          omega
        have hJ := join_kept hL.kept.drew hlt
        have hT : Hid (textOf st.data.toList (memsAll fs) = joinC ks) := by
          show joinC _ = _
          rw [hks'.out]
        have hbx := hL.kept.box
        have hrc := hL.rmc
        have hrf := hL.rmf
        have hdd := hL.defer
        have hHw : H < W.drew.heap.size := World.block_lt_of_cell? W _ hrc
        have HB : Hid (Below H w W) := hL.below
        clear hks' hlt hseq2 c1 c2 hL0 hL
        gi_wp2
        refine wpIn_noPanic ?_
        gi_region_with (refine ⟨trivial, ?_⟩; gi_at_call 42; refine (callsIn_wide.2 hJ).mono ?_; rintro e w' ⟨rfl, hw⟩; have hrc' : w'.cell? ⟨H, 0, none⟩ = some (.bool rm) := (hw.cell (p := ⟨H, 0, none⟩) hHw).trans hrc; have hrf' : w'.frozen? ⟨H, 0, none⟩ = false := (hw.frozen (p := ⟨H, 0, none⟩) hHw).trans hrf)
        all_goals gi_wp2
        all_goals
          refine leave_far hH HB.out (by assumption) hrc hdd hK2 (by omega) (by omega) rfl rfl ?_
          unfold WithRes
          rw [hT.out, ← hrs.out, if_neg (fun h => by have := (K0_some he); rw [h.1] at this; exact absurd this (by decide))]
          rfl
  · subst hrm
    gi_wp2_with (refine ⟨trivial, ?_⟩; gi_at_call 28; refine (make_in _ _ _ _ _ _).mono ?_; rintro e w' ⟨rfl, rfl⟩)
    have hK0 : K0 st.data.toList = [] := K0_none he
    have hks : Kept ((W.alloc (.cells #[Value.string ⟨#[]⟩, Value.string ⟨#[]⟩, Value.string ⟨#[]⟩, Value.string ⟨#[]⟩, Value.string ⟨#[]⟩, Value.string ⟨#[]⟩, Value.string ⟨#[]⟩, Value.string ⟨#[]⟩, Value.string ⟨#[]⟩, Value.string ⟨#[]⟩, Value.string ⟨#[]⟩, Value.string ⟨#[]⟩, Value.string ⟨#[]⟩, Value.string ⟨#[]⟩, Value.string ⟨#[]⟩, Value.string ⟨#[]⟩, Value.string ⟨#[]⟩, Value.string ⟨#[]⟩, Value.string ⟨#[]⟩, Value.string ⟨#[]⟩, Value.string ⟨#[]⟩, Value.string ⟨#[]⟩, Value.string ⟨#[]⟩, Value.string ⟨#[]⟩, Value.string ⟨#[]⟩, Value.string ⟨#[]⟩, Value.string ⟨#[]⟩, Value.string ⟨#[]⟩, Value.string ⟨#[]⟩, Value.string ⟨#[]⟩, Value.string ⟨#[]⟩, Value.string ⟨#[]⟩] 61)).alloc (.cells #[.slice (some ⟨W.heap.size, 0, none⟩) 0 32] 36)) W.heap.size (W.heap.size + 1) (K0 st.data.toList) := by
      rw [hK0]
      exact Kept.start W _ [] rfl (by simp) (fun j x hj => by simp at hj)
    have hHW : H ≤ W.heap.size := by omega
    obtain ⟨W3, hW3⟩ : ∃ W3, (((W.alloc (.cells #[Value.string ⟨#[]⟩, Value.string ⟨#[]⟩, Value.string ⟨#[]⟩, Value.string ⟨#[]⟩, Value.string ⟨#[]⟩, Value.string ⟨#[]⟩, Value.string ⟨#[]⟩, Value.string ⟨#[]⟩, Value.string ⟨#[]⟩, Value.string ⟨#[]⟩, Value.string ⟨#[]⟩, Value.string ⟨#[]⟩, Value.string ⟨#[]⟩, Value.string ⟨#[]⟩, Value.string ⟨#[]⟩, Value.string ⟨#[]⟩, Value.string ⟨#[]⟩, Value.string ⟨#[]⟩, Value.string ⟨#[]⟩, Value.string ⟨#[]⟩, Value.string ⟨#[]⟩, Value.string ⟨#[]⟩, Value.string ⟨#[]⟩, Value.string ⟨#[]⟩, Value.string ⟨#[]⟩, Value.string ⟨#[]⟩, Value.string ⟨#[]⟩, Value.string ⟨#[]⟩, Value.string ⟨#[]⟩, Value.string ⟨#[]⟩, Value.string ⟨#[]⟩, Value.string ⟨#[]⟩] 61)).alloc (.cells #[.slice (some ⟨W.heap.size, 0, none⟩) 0 32] 36)).alloc (.cells #[.slice p N c] 36)).alloc (.cells #[.string ⟨#[]⟩] 9) = W3 := ⟨_, rfl⟩
    have hL0 : Loop2 w H D W.heap.size (W.heap.size + 1) true (K0 st.data.toList) W3 := by
      rw [← hW3]
      exact ⟨((hks.alloc _).alloc _), cell_alloc_l _ (cell_alloc_l _ (cell_alloc_l _ (cell_alloc_l _ hc))), frozen_alloc_l _ (cell_alloc_l _ (cell_alloc_l _ (cell_alloc_l _ hc))) (frozen_alloc_l _ (cell_alloc_l _ (cell_alloc_l _ hc)) (frozen_alloc_l _ (cell_alloc_l _ hc) (frozen_alloc_l _ hc hf))), ((((hB.alloc hHW _).alloc (by simp; omega) _).alloc (by simp; omega) _).alloc (by simp; omega) _), ((((KeepsOthers.alloc _ _).trans (KeepsOthers.alloc _ _)).trans (KeepsOthers.alloc _ _)).trans (KeepsOthers.alloc _ _)).same D _ hK rfl⟩
    have hz3 : W3.heap.size = W.heap.size + 4 := by rw [← hW3]; simp
    have c1 : W3.cell? ⟨W.heap.size + 1 + 1, 0, none⟩ = some (.slice p N c) := by
      rw [← hW3]
      have := (Boxed.new ((W.alloc (.cells #[Value.string ⟨#[]⟩, Value.string ⟨#[]⟩, Value.string ⟨#[]⟩, Value.string ⟨#[]⟩, Value.string ⟨#[]⟩, Value.string ⟨#[]⟩, Value.string ⟨#[]⟩, Value.string ⟨#[]⟩, Value.string ⟨#[]⟩, Value.string ⟨#[]⟩, Value.string ⟨#[]⟩, Value.string ⟨#[]⟩, Value.string ⟨#[]⟩, Value.string ⟨#[]⟩, Value.string ⟨#[]⟩, Value.string ⟨#[]⟩, Value.string ⟨#[]⟩, Value.string ⟨#[]⟩, Value.string ⟨#[]⟩, Value.string ⟨#[]⟩, Value.string ⟨#[]⟩, Value.string ⟨#[]⟩, Value.string ⟨#[]⟩, Value.string ⟨#[]⟩, Value.string ⟨#[]⟩, Value.string ⟨#[]⟩, Value.string ⟨#[]⟩, Value.string ⟨#[]⟩, Value.string ⟨#[]⟩, Value.string ⟨#[]⟩, Value.string ⟨#[]⟩, Value.string ⟨#[]⟩] 61)).alloc (.cells #[.slice (some ⟨W.heap.size, 0, none⟩) 0 32] 36)) 36 (.slice p N c)).alloc (.cells #[.string ⟨#[]⟩] 9)
      simp only [World.size_alloc] at this
      exact this.cell
    have c2 : W3.cell? ⟨W.heap.size + 1 + 1 + 1, 0, none⟩ = some (.string ⟨#[]⟩) := by
      rw [← hW3]
      have := Boxed.new (((W.alloc (.cells #[Value.string ⟨#[]⟩, Value.string ⟨#[]⟩, Value.string ⟨#[]⟩, Value.string ⟨#[]⟩, Value.string ⟨#[]⟩, Value.string ⟨#[]⟩, Value.string ⟨#[]⟩, Value.string ⟨#[]⟩, Value.string ⟨#[]⟩, Value.string ⟨#[]⟩, Value.string ⟨#[]⟩, Value.string ⟨#[]⟩, Value.string ⟨#[]⟩, Value.string ⟨#[]⟩, Value.string ⟨#[]⟩, Value.string ⟨#[]⟩, Value.string ⟨#[]⟩, Value.string ⟨#[]⟩, Value.string ⟨#[]⟩, Value.string ⟨#[]⟩, Value.string ⟨#[]⟩, Value.string ⟨#[]⟩, Value.string ⟨#[]⟩, Value.string ⟨#[]⟩, Value.string ⟨#[]⟩, Value.string ⟨#[]⟩, Value.string ⟨#[]⟩, Value.string ⟨#[]⟩, Value.string ⟨#[]⟩, Value.string ⟨#[]⟩, Value.string ⟨#[]⟩, Value.string ⟨#[]⟩] 61)).alloc (.cells #[.slice (some ⟨W.heap.size, 0, none⟩) 0 32] 36)).alloc (.cells #[.slice p N c] 36)) 9 (.string ⟨#[]⟩)
      simp only [World.size_alloc] at this
      exact this.cell
    rw [hW3]
    clear hW3 hks hc hf hK hB
    obtain ⟨G, hG⟩ : ∃ G, W.heap.size = G := ⟨_, rfl⟩
    rw [hG] at hHW hL0 hz3 c1 c2 hDl ⊢
    clear hG W
    have hseq2 := iter_stops (n - 1) (by omega) (G + 1 + 1) (G + 1 + 1 + 1) H p c ms0 ⟨#[]⟩ m fs W3 good0 (fun s W h1 h2 => memberStart_none s W (by unfold maxLen; omega)) hsz (by rw [hN]; exact hlen) h00 (by omega) (by omega) (by omega)
      (by rw [hN]; exact c1) c2 ((hL0.below.cell (p := ⟨0, 0, none⟩) h00).trans hm) (by rw [hN]; exact Strs.keep hst (keep_below (by rw [hH]; exact hL0.below))) hbe
    have hk01 := K0_length st.data.toList
    refine wpIn_rangeFunc_ownF rfl h1 (gf := 37) (lb := #[.pointer (some ⟨G + 1 + 1, 0, none⟩), .pointer (some ⟨G + 1 + 1 + 1, 0, none⟩)]) rfl trivial (enters_of Try.func37 (by kernel_rfl) rfl)
      hseq2 KP.t (KP.b (by omega)) (Below.refl _ _) (fun _ => rfl)
      (fun pre W => (K0 st.data.toList ++ others pre).length < 32 ∧ Loop2 w H D G (G + 1) true (K0 st.data.toList ++ others pre) W)
      (fun c pre W => (c = .exit 2 ∧ (K0 st.data.toList ++ others pre).length = 32) ∧ Loop2 w H D G (G + 1) true (K0 st.data.toList ++ others pre) W)
      (OwnFrom.and (ownFrom_pure _ _) (Loop2.own (fun pre => K0 st.data.toList ++ others pre) (by omega) (by omega) (by omega)))
      (fun c => OwnFrom.and (ownFrom_pure _ _) (Loop2.own (fun pre => K0 st.data.toList ++ others pre) (by omega) (by omega) (by omega)))
      ⟨by show (K0 st.data.toList ++ []).length < 32; rw [List.append_nil]; omega, by show Loop2 w H D G (G + 1) true (K0 st.data.toList ++ []) W3; rw [List.append_nil]; exact hL0⟩
      (fun x => { tmps := #[.slice p N c, .string st, undef, undef, .string ⟨#[]⟩, .pointer (some ⟨H, 0, none⟩), .pointer (some ⟨G, 0, none⟩), .pointer (some ⟨G + 1, 0, none⟩), .string (S x), .slice p N c, .func (.func 37) #[] #[.pointer (some ⟨H + 1, 0, none⟩), .pointer (some ⟨H + 1 + 1, 0, none⟩)], undef, .string st, .bool true, .bool true, .bool true, .bool false, .bool false, .slice (some ⟨G, 0, none⟩) 0 32, .string st, .bool false, undef, undef, undef, undef, undef, .slice p N c, .func (.func 37) #[] #[.pointer (some ⟨G + 1 + 1, 0, none⟩), .pointer (some ⟨G + 1 + 1 + 1, 0, none⟩)], .string (S x), undef, undef, undef, undef, undef, undef, undef, undef, undef, undef, undef, undef, undef], defers := [] }) ?_ ?_ ?_ ?_
    · intro l x W K hK
      gi_wp2
      exact hK
    · rintro l pre x W ⟨hl32, hL⟩ _
      have h1' : 1 ≤ n - 1 - 1 := by omega
      obtain ⟨ks, hks⟩ : ∃ ks, K0 st.data.toList ++ others pre = ks := ⟨_, rfl⟩
      rw [hks] at hl32 hL
      have hbx := hL.kept.box
      have hbf := hL.kept.boxf
      have hGw : G < W.heap.size := by
        obtain ⟨v, hv⟩ := Option.isSome_iff_exists.1 (hL.kept.some_ 0 (by omega)).1
        exact World.block_lt_of_cell? W _ hv
      have hG1w : G + 1 < W.heap.size := World.block_lt_of_cell? W _ hbx
      cases hx : isSt x
      · have hP' : Calls Try.prog 41 #[.string (S x), .string ⟨#[116, 97, 108, 108, 121, 99, 108, 111, 99, 107, 61]⟩] W fun e w' => e = .returned (.bool false) ∧ w' = W :=
          (Try.strings_HasPrefix (S x) ⟨#[116, 97, 108, 108, 121, 99, 108, 111, 99, 107, 61]⟩ W).mono fun e w' h => ⟨h.1.trans (congrArg (fun b => Ending.returned (.bool b)) hx), h.2⟩
        have hca : (W.alloc (.cells #[.string (S x)] 9)).cell? ((⟨W.heap.size, 0, none⟩ : Addr).add 0) = some (.string (S x)) := (Boxed.new W 9 (.string (S x))).cell
        have hka := hL.kept.alloc (.cells #[.string (S x)] 9)
        have hsm := (hka.some_ ks.length hl32).1
        have hfz := (hka.some_ ks.length hl32).2
        have hb2 : ((W.alloc (.cells #[.string (S x)] 9)).setCell ⟨G, ks.length, none⟩ (.string (S x))).cell? ⟨G + 1, 0, none⟩ = some (.slice (some ⟨G, 0, none⟩) ks.length 32) := by
          rw [World.cell?_setCell_other _ _ _ _ (fun e => by cases e)]
          exact hka.box
        have hf2 : ((W.alloc (.cells #[.string (S x)] 9)).setCell ⟨G, ks.length, none⟩ (.string (S x))).frozen? ⟨G + 1, 0, none⟩ = false := by
          rw [World.frozen?_setCell]
          exact hka.boxf
        have HE : Hid (K0 st.data.toList ++ others (pre ++ [x]) = ks ++ [x]) := by
          show _ = _
          rw [others_miss pre hx, ← List.append_assoc, hks]
        have HL3 : Hid (∀ k1, k1 = ks.length + 1 → Loop2 w H D G (G + 1) true (ks ++ [x]) (pushed W G (G + 1) ks.length k1 x)) := fun k1 h => hL.push (by omega) hl32 (by omega) (by omega) (by omega) h x
        have HKP : Hid (KP H (G + 1 + 1 + 1) (.string ⟨#[]⟩) W (pushed W G (G + 1) ks.length (ks.length + 1) x)) := ⟨pushed_below x (by omega) (by omega) (by omega), fun e => pushed_cell x e (by omega) (by omega)⟩
        clear hka hks hL
        by_cases h32 : ks.length + 1 = 32
        · have h32' : ((ks.length : Int) + 1 == 32) = true := by rw [beq_iff_eq]; omega
          have h32'' : (ks.length : Int) + 1 = 32 := by omega
          gi_wp2_with first
            | (refine ⟨trivial, ?_⟩; gi_at_call 41; refine (CallsIn.inRound l (callsIn_wide.2 hP')).mono ?_; clear hP'; rintro e w' ⟨rfl, hw⟩; rw [hw]; clear hw)
            | (gi_at_builtin; refine wpListIn_push1 _ rfl (.tmp 32) (.tmp 34) rfl G ks.length 32 rfl ⟨W.heap.size, 0, none⟩ 1 rfl (.string (S x)) rfl hca (by omega) hsm hfz ?_)
          refine ⟨pushed_keeps W G (G + 1) ks.length 32 x, ⟨rfl, ?_⟩, ?_⟩
          · show (K0 st.data.toList ++ others (pre ++ [x])).length = 32
            rw [HE.out, List.length_append]
            exact h32
          · show Loop2 w H D G (G + 1) true (K0 st.data.toList ++ others (pre ++ [x])) (pushed W G (G + 1) ks.length 32 x)
            rw [HE.out]
            exact HL3.out 32 h32.symm
        · have h32' : ((ks.length : Int) + 1 == 32) = false := by rw [beq_eq_false_iff_ne]; omega
          have h32'' : ¬ (ks.length : Int) + 1 = 32 := by omega
          gi_wp2_with first
            | (refine ⟨trivial, ?_⟩; gi_at_call 41; refine (CallsIn.inRound l (callsIn_wide.2 hP')).mono ?_; clear hP'; rintro e w' ⟨rfl, hw⟩; rw [hw]; clear hw)
            | (gi_at_builtin; refine wpListIn_push1 _ rfl (.tmp 32) (.tmp 34) rfl G ks.length 32 rfl ⟨W.heap.size, 0, none⟩ 1 rfl (.string (S x)) rfl hca (by omega) hsm hfz ?_)
          refine ⟨pushed_keeps W G (G + 1) ks.length (ks.length + 1) x, HKP.out, ?_, ?_⟩
          · show (K0 st.data.toList ++ others (pre ++ [x])).length < 32
            rw [HE.out, List.length_append, List.length_singleton]
            omega
          · show Loop2 w H D G (G + 1) true (K0 st.data.toList ++ others (pre ++ [x])) (pushed W G (G + 1) ks.length (ks.length + 1) x)
            rw [HE.out]
            exact HL3.out _ rfl
      · have hP' : Calls Try.prog 41 #[.string (S x), .string ⟨#[116, 97, 108, 108, 121, 99, 108, 111, 99, 107, 61]⟩] W fun e w' => e = .returned (.bool true) ∧ w' = W :=
          (Try.strings_HasPrefix (S x) ⟨#[116, 97, 108, 108, 121, 99, 108, 111, 99, 107, 61]⟩ W).mono fun e w' h => ⟨h.1.trans (congrArg (fun b => Ending.returned (.bool b)) hx), h.2⟩
        have HE : Hid (K0 st.data.toList ++ others (pre ++ [x]) = ks) := by
          show _ = _
          rw [others_hit pre hx, hks]
        have HL : Hid (Loop2 w H D G (G + 1) true ks W) := hL
        have h32' : ((ks.length : Int) == 32) = false := by rw [beq_eq_false_iff_ne]; omega
        have h32'' : ¬ (ks.length : Int) = 32 := by omega
        clear hks hL
        gi_wp2_with first
          | (refine ⟨trivial, ?_⟩; gi_at_call 41; refine (CallsIn.inRound l (callsIn_wide.2 hP')).mono ?_; clear hP'; rintro e w' ⟨rfl, hw⟩; rw [hw]; clear hw)
        refine ⟨KeepsOthers.refl _, KP.refl _ _ _ _, ?_⟩
        show (K0 st.data.toList ++ others (pre ++ [x])).length < 32 ∧ Loop2 w H D G (G + 1) true (K0 st.data.toList ++ others (pre ++ [x])) W
        rw [HE.out]
        exact ⟨hl32, HL.out⟩
    · rintro D2 ys W hD2 hys ⟨hl32, hL⟩ hK2
      have hks' : Hid (keptOf st.data.toList (memsAll fs) = K0 st.data.toList ++ others ys) := by
        have e1 : ys = memsAll fs := hys.trans (ysAll_mems fs)
        show _ = _
        rw [← e1]
        exact kept_all (Nat.le_of_lt hl32)
      clear hys
      obtain ⟨ks, hks⟩ : ∃ ks, K0 st.data.toList ++ others ys = ks := ⟨_, rfl⟩
      rw [hks] at hL hks'
      clear hks hl32 ys
      rw [hz3] at hD2
      have hlt : tl ks + ks.length ≤ 140737488355328 := by
        have e1 := hL.kept.len
        have e2 := kept_tl st.data.toList fs
        rw [hks'.out, sz] at e2
        omega
      have hJ := join_kept hL.kept.drew hlt
      have hT : Hid (textOf st.data.toList (memsAll fs) = joinC ks) := by
        show joinC _ = _
        rw [hks'.out]
      have hbx := hL.kept.box
      have hrc := hL.rmc
      have hrf := hL.rmf
      have hdd := hL.defer
      have hHw : H < W.drew.heap.size := World.block_lt_of_cell? W _ hrc
      have HB : Hid (Below H w W) := hL.below
      clear hks' hlt hseq2 c1 c2 hL0 hL
      gi_wp2
      refine wpIn_noPanic ?_
      gi_region_with (refine ⟨trivial, ?_⟩; gi_at_call 42; refine (callsIn_wide.2 hJ).mono ?_; rintro e w' ⟨rfl, hw⟩; have hrc' : w'.cell? ⟨H, 0, none⟩ = some (.bool true) := (hw.cell (p := ⟨H, 0, none⟩) hHw).trans hrc; have hrf' : w'.frozen? ⟨H, 0, none⟩ = false := (hw.frozen (p := ⟨H, 0, none⟩) hHw).trans hrf)
      all_goals gi_wp2
      all_goals
        refine leave_far hH HB.out (by assumption) hrc hdd hK2 (by omega) (by omega) rfl rfl ?_
        unfold WithRes
        rw [hT.out, ← hrs.out, if_neg (fun h => absurd h.2 (by decide))]
        rfl
    · rintro D2 c' pre W hD2 hpre ⟨⟨rfl, hl32⟩, hL⟩ hK2
      have hks' : Hid (keptOf st.data.toList (memsAll fs) = K0 st.data.toList ++ others pre) := by
        obtain ⟨rest, hr⟩ := hpre
        exact kept_part (rest := rest) ((ysAll_mems fs).symm.trans hr.symm) hl32
      clear hpre
      obtain ⟨ks, hks⟩ : ∃ ks, K0 st.data.toList ++ others pre = ks := ⟨_, rfl⟩
      rw [hks] at hL hks'
      clear hks hl32 pre
      rw [hz3] at hD2
      have hlt : tl ks + ks.length ≤ 140737488355328 := by
        have e1 := hL.kept.len
        have e2 := kept_tl st.data.toList fs
        rw [hks'.out, sz] at e2
        omega
      have hJ := join_kept hL.kept.drew hlt
      have hT : Hid (textOf st.data.toList (memsAll fs) = joinC ks) := by
        show joinC _ = _
        rw [hks'.out]
      have hbx := hL.kept.box
      have hrc := hL.rmc
      have hrf := hL.rmf
      have hdd := hL.defer
      have hHw : H < W.drew.heap.size := World.block_lt_of_cell? W _ hrc
      have HB : Hid (Below H w W) := hL.below
      clear hks' hlt hseq2 c1 c2 hL0 hL
      gi_wp2
      refine wpIn_noPanic ?_
      gi_region_with (refine ⟨trivial, ?_⟩; gi_at_call 42; refine (callsIn_wide.2 hJ).mono ?_; rintro e w' ⟨rfl, hw⟩; have hrc' : w'.cell? ⟨H, 0, none⟩ = some (.bool true) := (hw.cell (p := ⟨H, 0, none⟩) hHw).trans hrc; have hrf' : w'.frozen? ⟨H, 0, none⟩ = false := (hw.frozen (p := ⟨H, 0, none⟩) hHw).trans hrf)
      all_goals gi_wp2
      all_goals
        refine leave_far hH HB.out (by assumption) hrc hdd hK2 (by omega) (by omega) rfl rfl ?_
        unfold WithRes
        rw [hT.out, ← hrs.out, if_neg (fun h => absurd h.2 (by decide))]
        rfl
  · subst hrm
    gi_wp2
    have hK' := (KeepsOthers.setCell W ⟨H, 0, none⟩ (.bool false)).same D _ hK rfl
    refine leave_one rfl rfl hK' (World.cell?_setCell_same' _ _ _ (by rw [hc]; rfl)) ⟨?_, ?_⟩
    · unfold WithRes
      have hnil : st.data.toList = [] := by
        have := K0_none he
        unfold K0 at this
        split at this
        · assumption
        · cases this
      rw [if_pos ⟨hnil, hrs.out.symm⟩]
      rfl
    · rw [hH]
      exact (hB.setCell (p := ⟨H, 0, none⟩) (Nat.le_refl _) (.bool false)).trans (belowK_b (n₀ := H) (w := w) (by omega) _ D _ (.deferred none) (by omega) hK' rfl rfl)

end Go.Proofs.Qxb6003347a
