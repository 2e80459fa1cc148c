/-
  SEAT b6003347a. zzExpectedText: the walk.
-/
import Derived.Test.Qxb6003347aText
import Derived.Lib.AppendStr
import Derived.Laws.IdiomStrings
import Derived.Laws.BytesArg
namespace Go.Proofs.Qxb6003347a
open Go.RowKit

theorem Try.info5 : (Try.prog.info? 5).map (fun i => (i.zero, i.size, i.bytes)) = some (some (.int .u8 0), 1, 1) := by kernel_rfl

/-- v is a []byte of the call's own that holds the bytes l. -/
def MineB (B : Nat) (w : World) (v : Value) (l : List UInt8) : Prop := w.ownsRow B 5 1 v l.length (l.map fun b => Value.int .u8 (b.toNat : Int))

/-- 'append(v, s...)', s a string. -/
theorem wp_app_str (w : World) {ops : Array Oper} {rest : List Oper} {o : Oper} {a : Act} {Q : Exit → Act → World → Prop} (hgd : o.guard = none) (sl x : Operand)
    (ho : o.op = .call { callee := .builtin .append, args := #[sl, x], argTypes := #[52, 9] })
    (B : Nat) (v : Value) (l : List UInt8) (hs : a.eval sl = v) (hown : MineB B w v l) (s : ByteArray) (hx : a.eval x = .string s)
    (hfit : l.length + s.size ≤ 16777216) (hB : B ≤ w.heap.size)
    (h : ∀ v' w', MineB B w' v' (l ++ s.data.toList) → Below B w w' → wpList Try.prog ops Q rest (a.put o.dst v') w') : wpList Try.prog ops Q (o :: rest) a w := by
  obtain ⟨i0, hi, hz0, hz1, hz2⟩ := info_parts Try.info5
  refine Lib.wpList_append_own_string w hgd sl x 52 9 ho B 5 i0 Try.underlying52 Try.underlying9 hi hz0 hz1 hz2 v _ _ hs hown s hx (by unfold maxLen; omega) (by omega) hB ?_
  intro v' w' h1 h2 _
  refine h v' w' ?_ ((Below.refl B _).grown h2 hB fun k hk => (World.ownsRow.lt hown k hk).1)
  unfold MineB
  rw [List.length_append, sz, List.map_append]
  exact h1

/-- 'append(v, ',')'. -/
theorem wp_app_comma (w : World) {ops : Array Oper} {rest : List Oper} {o : Oper} {a : Act} {Q : Exit → Act → World → Prop} (hgd : o.guard = none) (s x : Operand)
    (ho : o.op = .call { callee := .builtin .append, args := #[s, x], argTypes := #[52, 52] })
    (B : Nat) (v : Value) (l : List UInt8) (hs : a.eval s = v) (hown : MineB B w v l)
    (hx : a.eval x = .slice (some ⟨w.heap.size, 0, none⟩) 1 1) (hfit : l.length + 1 ≤ 16777216) (hB : B ≤ w.heap.size)
    (h : ∀ v' w', MineB B w' v' (l ++ [44]) → Below B (w.alloc (.cells #[.int .u8 44] 5)) w' → wpList Try.prog ops Q rest (a.put o.dst v') w') : wpList Try.prog ops Q (o :: rest) a (w.alloc (.cells #[.int .u8 44] 5)) := by
  obtain ⟨i0, hi, hz0, hz1, hz2⟩ := info_parts Try.info5
  refine wpList_append_own _ hgd s x 52 ho B 5 i0 (.int .u8 0) 1 1 Try.underlying52 hi hz0 hz1 hz2 rfl (by decide) v _ _ hs (World.ownsRow.alloc hown _) ⟨w.heap.size, 0, none⟩ 1 1 [.int .u8 44] hx rfl (cell_one_new _ _ _) (by intro u hu; simp at hu; subst hu; rfl) (by unfold maxLen; omega) (by omega) (by simp; omega) ?_
  intro v' w' h1 h2 _
  refine h v' w' ?_ ((Below.refl B _).grown h2 (by simp; omega) fun k hk => (World.ownsRow.lt hown k hk).1)
  unfold MineB
  rw [List.length_append, List.map_append]
  exact h1

theorem MineB.drewN {B : Nat} {w : World} {v : Value} {l : List UInt8} (h : MineB B w v l) (q : Nat) : MineB B (w.drewN q) v l := h

/-- 'string(v)'. -/
theorem MineB.text {B : Nat} {w : World} {v : Value} {l : List UInt8} (h : MineB B w v l) : (convert 52 9 v).run Try.prog w = .ok (.string (S l)) w := by
  have hcells := fun {g : Nat} (hg : v.ownBlock = some g) => World.ownsRow.cells h hg
  rcases h.2 with ⟨rfl, h2⟩ | ⟨g, cap, cur, rfl, _⟩
  · obtain rfl := List.length_eq_zero_iff.1 h2
    rw [run_convert_bytes_nil w 52 5 Try.underlying52 Try.underlying5 0 0 9 Try.underlying9]
    rfl
  · exact run_convert_bytes_back w 52 9 5 ⟨g, 0, none⟩ cap l Try.underlying52 Try.underlying5 Try.underlying9 fun j hj =>
      hcells (g := g) rfl j (.int .u8 (l[j].toNat : Int)) (by rw [List.getElem?_map, List.getElem?_eq_getElem hj]; rfl)

/-- What the loop has laid when k members have been read. -/
def soFar (st : List UInt8) (ms : List (List UInt8)) (k : Nat) : List (List UInt8) := K0 st ++ others (ms.take k)

theorem soFar_zero (st : List UInt8) (ms : List (List UInt8)) : soFar st ms 0 = K0 st := by simp [soFar, others]

theorem soFar_fit (st : List UInt8) (ms : List (List UInt8)) (k : Nat) (h : (soFar st ms k).length ≤ 32) : (joinC (soFar st ms k)).length ≤ 43 + st.length + tl ms := by
  have h1 := joinC_length (soFar st ms k)
  have h2 : tl (soFar st ms k) ≤ 11 + st.length + tl ms := by
    unfold soFar
    rw [tl_append]
    have a := tl_K0 st
    have b := tl_filter (fun m => !isSt m) (ms.take k)
    have c := tl_take ms k
    unfold others
    omega
  omega

theorem soFar_succ (st : List UInt8) (ms : List (List UInt8)) (k : Nat) (h : k < ms.length) : soFar st ms (k + 1) = if isSt (ms[k]'h) = true then soFar st ms k else soFar st ms k ++ [ms[k]'h] := by
  unfold soFar
  rw [List.take_succ_eq_append_getElem h]
  split
  · rename_i hs
    rw [others_hit _ hs]
  · rename_i hs
    rw [others_miss _ (by simpa using hs), List.append_assoc]

theorem K0_some {st : ByteArray} (h : st.toList.isEmpty = false) : K0 st.data.toList = [SP ++ st.data.toList] := by
  unfold K0
  rw [Lib.toList_data] at h
  rw [if_neg (fun e => by rw [e] at h; cases h)]
theorem K0_none {st : ByteArray} (h : st.toList.isEmpty = true) : K0 st.data.toList = [] := by
  unfold K0
  rw [Lib.toList_data, List.isEmpty_iff] at h
  rw [if_pos h]

theorem text_end (st : List UInt8) (ms : List (List UInt8)) (k : Nat) (hk : k ≤ ms.length) (h : (soFar st ms k).length ≤ 32) (he : k = ms.length ∨ (soFar st ms k).length = 32) : textOf st ms = joinC (soFar st ms k) := by
  unfold textOf
  rcases he with rfl | he
  · have e : soFar st ms ms.length = K0 st ++ others ms := by unfold soFar; rw [List.take_of_length_le (Nat.le_refl _)]
    rw [e] at h ⊢
    rw [kept_all h]
  · rw [kept_part (List.take_append_drop k ms).symm he]
    rfl

set_option maxHeartbeats 4000000 in
theorem zzExpectedText_loop (b off n c : Nat) (ms : List (List UInt8)) (st : ByteArray) (w : World) (hlen : ms.length = n) (hcell : ∀ i, i < n → w.cell? ⟨b, off + i, none⟩ = some (.string ((ms.map S).getD i ByteArray.empty))) (hn : n ≤ 2097152) (htl : tl ms + st.size ≤ 2097152) :
    Calls Try.prog 18 #[.slice (some ⟨b, off, none⟩) n c, .string st] w fun e w' => e = .returned (.string (S (textOf st.data.toList ms))) ∧ Below w.heap.size w w' := by
  have HC : Hid (∀ i, i < n → w.cell? ⟨b, off + i, none⟩ = some (.string ((ms.map S).getD i ByteArray.empty))) := hcell
  have HL : Hid (ms.length = n) := hlen
  have HTL : Hid (tl ms + st.size ≤ 2097152) := htl
  have hst : st.size ≤ 2097152 := by omega
  have HF : Hid (∀ k, (soFar st.data.toList ms k).length ≤ 32 → (joinC (soFar st.data.toList ms k)).length ≤ 4194304) := fun k hk => by
    have := soFar_fit st.data.toList ms k hk
    rw [sz] at this
    omega
  clear hcell hlen htl
  cases he : st.toList.isEmpty
  case' false =>
    go_enter Try.func18, Try.ntmps18
    go_wp2_with (at_builtin; refine wp_app_str _ rfl (.tmp 10) _ rfl w.heap.size _ [] rfl (World.ownsRow_nil _ _ _ _) ⟨#[116, 97, 108, 108, 121, 99, 108, 111, 99, 107, 61]⟩ rfl ?_ ?_ ?_)
    · decide
    · exact Nat.le_refl _
    intro v1 w1 m1 d1
    have M1 : Hid (MineB w.heap.size w1 v1 SP) := m1
    clear m1
    go_wp2_with (at_builtin; refine wp_app_str _ rfl (.tmp 12) (.tmp 13) rfl w.heap.size _ _ rfl M1.out st rfl ?_ ?_ ?_)
    · show 11 + st.size ≤ _; omega
    · exact d1.size
    intro v0 w0 m0 d0
    have b0 : Below w.heap.size w w0 := d1.trans d0
    have M0 : Hid (MineB w.heap.size w0 v0 (joinC (soFar st.data.toList ms 0))) := by
      show MineB _ _ _ _
      rw [soFar_zero, K0_some he, joinC_one]
      exact m0
    have HK : Hid (1 = (soFar st.data.toList ms 0).length) := by show _ = _; rw [soFar_zero, K0_some he]; rfl
    clear m0 d0 d1 M1 he
    go_wp2
  case' true =>
    have M0 : Hid (MineB w.heap.size w (.slice none 0 0) (joinC (soFar st.data.toList ms 0))) := by
      show MineB _ _ _ _
      rw [soFar_zero, K0_none he, joinC_nil]
      exact World.ownsRow_nil _ _ _ _
    have HK : Hid (0 = (soFar st.data.toList ms 0).length) := by show _ = _; rw [soFar_zero, K0_none he]; rfl
    have b0 : Below w.heap.size w w := Below.refl _ _
    go_enter Try.func18, Try.ntmps18
    go_wp2
    clear he
  all_goals
    go_loopw [5, 6, 7] (fun o q i wr => ∃ (k cn : Nat), k ≤ n ∧ i = .int .i64 k ∧ q = .int .i64 cn ∧ cn ≤ 32 ∧ Hid (cn = (soFar st.data.toList ms k).length) ∧ Hid (MineB w.heap.size wr o (joinC (soFar st.data.toList ms k))) ∧ Below w.heap.size w wr) (fun _ _ i _ => n - (intOf i).toNat)
    case atStart => exact ⟨0, _, Nat.zero_le _, rfl, rfl, by decide, HK, M0, b0⟩
    case round =>
      clear M0 HK
      obtain ⟨k, cn, hk, rfl, rfl, hcn, HN, HM, hb⟩ := hrel
      by_cases hlt : k < n
      · have hlt' : decide ((k : Int) < (n : Int)) = true := decide_eq_true (by omega)
        by_cases hc32 : cn < 32
        · have hkl : k < ms.length := by rw [HL.out]; exact hlt
          obtain ⟨m, hm⟩ : ∃ m, ms[k]'hkl = m := ⟨_, rfl⟩
          have hc0 := HC.out k hlt
          rw [getD_S ms k hkl, hm] at hc0
          have HS := soFar_succ st.data.toList ms k hkl
          rw [hm] at HS
          have hmz : m.length ≤ 2097152 := by
            have h1 := tl_mem (List.getElem_mem hkl)
            rw [hm] at h1
            have := HTL.out
            omega
          obtain ⟨s, hs⟩ : ∃ s, S m = s := ⟨_, rfl⟩
          have HSD : Hid (s.data.toList = m) := by show _ = _; rw [← hs, S_data]
          have hsz : s.size ≤ 2097152 := by rw [← hs, S_size]; exact hmz
          have hpre := fun wx => zzHasPrefix_any s ⟨#[116, 97, 108, 108, 121, 99, 108, 111, 99, 107, 61]⟩ wx (by unfold maxLen; omega)
          rw [hs] at hc0
          have hc : wr.cell? ⟨b, off + k, none⟩ = some (.string s) := keep_below hb _ _ hc0
          have HC2 : Hid (w.cell? ⟨b, off + k, none⟩ = some (.string s)) := hc0
          clear hm hc0 hs
          cases hst2 : isSt m
          · have hf : Lib.hasPrefix s.data.toList (⟨#[116, 97, 108, 108, 121, 99, 108, 111, 99, 107, 61]⟩ : ByteArray).data.toList = false := by rw [HSD.out]; exact hst2
            rw [hf] at hpre
            have HS2 : Hid (soFar st.data.toList ms (k + 1) = soFar st.data.toList ms k ++ [m]) := by show _ = _; rw [HS, if_neg (by rw [hst2]; decide)]
            have HJ : Hid (joinC (soFar st.data.toList ms (k + 1)) = if cn = 0 then m else joinC (soFar st.data.toList ms k) ++ 44 :: m) := by
              show _ = _
              rw [HS2.out, joinC_snoc]
              by_cases h0 : soFar st.data.toList ms k = []
              · rw [if_pos h0, if_pos (by rw [HN.out, h0]; rfl)]
              · rw [if_neg h0, if_neg (fun e => h0 (List.length_eq_zero_iff.1 (by rw [← HN.out]; exact e)))]
            have HLn : Hid (cn + 1 = (soFar st.data.toList ms (k + 1)).length) := by show _ = _; rw [HS2.out, List.length_append, ← HN.out]; rfl
            have HFk : Hid ((joinC (soFar st.data.toList ms k)).length ≤ 4194304) := HF.out k (by rw [← HN.out]; exact hcn)
            clear HS hf hst2
            by_cases h0 : cn = 0
            · subst h0
              go_wp2_with (first
                | (go_at_call 22; refine (hpre _).mono ?_; rintro e w' ⟨rfl, q2, rfl⟩)
                | (at_builtin; refine wp_app_str _ rfl (.tmp 35) (.tmp 39) rfl w.heap.size _ _ rfl (HM.out.drewN _) s rfl ?_ ?_ ?_))
              · have := HFk.out; omega
              · exact hb.size
              intro v1 w1 m1 d1
              have M1 : Hid (MineB w.heap.size w1 v1 (joinC (soFar st.data.toList ms (k + 1)))) := by
                show MineB _ _ _ _
                rw [HJ.out]
                simp only [↓reduceIte]
                rw [← HSD.out]
                have e0 : joinC (soFar st.data.toList ms k) = [] := by rw [List.length_eq_zero_iff.1 HN.out.symm]; rfl
                rw [e0, List.nil_append] at m1
                exact m1
              have b1 : Below w.heap.size w w1 := (below_drewN hb _).trans d1
              clear m1 d1
              go_wp2
              go_roundw
              case rel => exact ⟨k + 1, 1, by omega, by go_num, by go_num, by omega, HLn, M1, b1⟩
              case measure => simp [intOf]; omega
            · have hc0 : (0 : Int) < (cn : Int) := by omega
              go_wp2_with (first
                | (go_at_call 22; refine (hpre _).mono ?_; rintro e w' ⟨rfl, q2, rfl⟩)
                | (at_builtin; refine wp_app_comma _ rfl (.tmp 32) (.tmp 33) rfl w.heap.size _ _ rfl (HM.out.drewN _) rfl ?_ ?_ ?_))
              · have := HFk.out; omega
              · exact hb.size
              intro v1 w1 m1 d1
              have M1 : Hid (MineB w.heap.size w1 v1 (joinC (soFar st.data.toList ms k) ++ [44])) := m1
              have b1 : Below w.heap.size w w1 := (below_drewN hb _).trans (((Below.refl _ _).alloc (below_drewN hb _).size _).trans d1)
              have hcc : w1.cell? ⟨b, off + k, none⟩ = some (.string s) := keep_below b1 _ _ (HC2.out)
              clear m1 d1
              go_wp2_with (at_builtin; refine wp_app_str _ rfl (.tmp 35) (.tmp 39) rfl w.heap.size _ _ rfl M1.out s rfl ?_ ?_ ?_)
              · have := HFk.out; simp only [List.length_append, List.length_cons, List.length_nil]; omega
              · exact b1.size
              intro v2 w2 m2 d2
              have M2 : Hid (MineB w.heap.size w2 v2 (joinC (soFar st.data.toList ms (k + 1)))) := by
                show MineB _ _ _ _
                rw [HJ.out, if_neg h0, ← HSD.out]
                simpa only [List.append_assoc, List.cons_append, List.nil_append] using m2
              have b2 : Below w.heap.size w w2 := b1.trans d2
              clear m2 d2
              go_wp2
              go_roundw
              case rel => exact ⟨k + 1, cn + 1, by omega, by go_num, by go_num, by omega, HLn, M2, b2⟩
              case measure => simp [intOf]; omega
          · have hf : Lib.hasPrefix s.data.toList (⟨#[116, 97, 108, 108, 121, 99, 108, 111, 99, 107, 61]⟩ : ByteArray).data.toList = true := by rw [HSD.out]; exact hst2
            rw [hf] at hpre
            have HS2 : Hid (soFar st.data.toList ms (k + 1) = soFar st.data.toList ms k) := by show _ = _; rw [HS, if_pos hst2]
            clear HS hf hst2
            go_wp2_with (go_at_call 22; refine (hpre _).mono ?_; rintro e w' ⟨rfl, q2, rfl⟩)
            go_roundw
            case rel => exact ⟨k + 1, cn, by omega, by go_num, rfl, hcn, by rw [HS2.out]; exact HN, by rw [HS2.out]; exact HM, below_drewN hb q2⟩
            case measure => simp [intOf]; omega
        · have hc32' : ¬ (cn : Int) < 32 := by omega
          have hconv := HM.out.text
          have HE : Hid (textOf st.data.toList ms = joinC (soFar st.data.toList ms k)) := text_end _ _ k (by rw [HL.out]; exact hk) (by rw [← HN.out]; exact hcn) (.inr (by have := HN.out; omega))
          go_wp2
          go_ret
          exact ⟨by rw [HE.out]; rfl, hb⟩
      · obtain rfl : k = n := by omega
        have hd : decide ((k : Int) < (k : Int)) = false := decide_eq_false (by omega)
        have hconv := HM.out.text
        have HE : Hid (textOf st.data.toList ms = joinC (soFar st.data.toList ms k)) := text_end _ _ k (by rw [HL.out]; exact hk) (by rw [← HN.out]; exact hcn) (.inl HL.out.symm)
        go_wp2
        go_ret
        exact ⟨by rw [HE.out]; rfl, hb⟩

set_option maxHeartbeats 1000000 in
theorem zzExpectedText_nil (st : ByteArray) (w : World) (hst : st.size ≤ 2097152) :
    Calls Try.prog 18 #[.slice none 0 0, .string st] w fun e w' => e = .returned (.string (S (textOf st.data.toList []))) ∧ Below w.heap.size w w' := by
  have e0 : textOf st.data.toList [] = joinC (K0 st.data.toList) := by
    unfold textOf
    rw [kept_all (by have := K0_length st.data.toList; simp [others]; omega)]
    simp [others]
  rw [e0]
  cases he : st.toList.isEmpty
  · rw [K0_some he, joinC_one]
    go_enter Try.func18, Try.ntmps18
    go_wp2_with (at_builtin; refine wp_app_str _ rfl (.tmp 10) _ rfl w.heap.size _ [] rfl (World.ownsRow_nil _ _ _ _) ⟨#[116, 97, 108, 108, 121, 99, 108, 111, 99, 107, 61]⟩ rfl ?_ ?_ ?_)
    · decide
    · exact Nat.le_refl _
    intro v1 w1 m1 d1
    have M1 : Hid (MineB w.heap.size w1 v1 SP) := m1
    clear m1
    go_wp2_with (at_builtin; refine wp_app_str _ rfl (.tmp 12) (.tmp 13) rfl w.heap.size _ _ rfl M1.out st rfl ?_ ?_ ?_)
    · show 11 + st.size ≤ _; omega
    · exact d1.size
    intro v0 w0 m0 d0
    have M0 : Hid (MineB w.heap.size w0 v0 (SP ++ st.data.toList)) := m0
    have b0 : Below w.heap.size w w0 := d1.trans d0
    have hconv := M0.out.text
    clear m0 d0 d1 M1
    go_wp2
    refine wp_loop_rounds 1 ?_; rw [rounds_succ]
    go_wp2
    go_ret
    exact ⟨rfl, b0⟩
  · rw [K0_none he, joinC_nil]
    have M0 : MineB w.heap.size w (.slice none 0 0) [] := World.ownsRow_nil _ _ _ _
    have hconv := M0.text
    clear M0
    go_enter Try.func18, Try.ntmps18
    go_wp2
    refine wp_loop_rounds 1 ?_; rw [rounds_succ]
    go_wp2
    go_ret
    exact ⟨rfl, Below.refl _ _⟩

/-- zzExpectedText at a slice of the call's own. -/
theorem zzExpectedText_any (B : Nat) (v : Value) (ms : List (List UInt8)) (st : ByteArray) (w : World) (h : MineS B w v ms) (hn : ms.length ≤ 2097152) (htl : tl ms + st.size ≤ 2097152) :
    Calls Try.prog 18 #[v, .string st] w fun e w' => e = .returned (.string (S (textOf st.data.toList ms))) ∧ Below w.heap.size w w' := by
  have hcells := fun {g : Nat} (hg : v.ownBlock = some g) => World.ownsRow.cells h hg
  rcases h.2 with ⟨rfl, h2⟩ | ⟨g, cap, cur, rfl, _⟩
  · obtain rfl := List.length_eq_zero_iff.1 h2
    exact zzExpectedText_nil st w (by omega)
  · refine zzExpectedText_loop g 0 ms.length cap ms st w rfl (fun i hi => ?_) hn htl
    have := hcells (g := g) rfl i (.string (S (ms[i]'hi))) (by rw [List.getElem?_map, List.getElem?_eq_getElem hi]; rfl)
    rw [getD_S ms i hi, ← this, Addr.add_lit]

end Go.Proofs.Qxb6003347a
