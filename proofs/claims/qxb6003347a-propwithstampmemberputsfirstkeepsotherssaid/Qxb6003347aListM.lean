/-
  SEAT b6003347a. zzListMembers with the empty prefix: the members of all fields.
-/
import Derived.Test.Qxb6003347aMembers
namespace Go.Proofs.Qxb6003347a
open Go.RowKit

/-- How far the reading of one field has come: its pieces up to 'st' are done; no comma stands from st to j. Or all is done. -/
def Part (l : List UInt8) (st j : Nat) (done : List (List UInt8)) : Prop :=
  (st ≤ j ∧ j ≤ l.length ∧ NoC ((l.drop st).take (j - st)) ∧ done ++ mems (l.drop st) = mems l) ∨ (j = l.length + 1 ∧ done = mems l)

theorem Part.start (l : List UInt8) : Part l 0 0 [] := .inl ⟨Nat.le_refl _, Nat.zero_le _, fun c hc => by simp at hc, by simp⟩

theorem Part.on {l : List UInt8} {st j : Nat} {done : List (List UInt8)} (h : Part l st j done) (hj : j < l.length) (b : UInt8) (hb : l[j]? = some b) (hne : b ≠ 44) : Part l st (j + 1) done := by
  rcases h with ⟨h1, h2, h3, h4⟩ | ⟨h1, _⟩
  · refine .inl ⟨by omega, by omega, ?_, h4⟩
    intro c hc
    have e : j + 1 - st = (j - st) + 1 := by omega
    rw [e, List.take_add_one, List.getElem?_drop, show st + (j - st) = j from by omega, hb] at hc
    rcases List.mem_append.1 hc with hc | hc
    · exact h3 c hc
    · simp at hc; subst hc; exact hne
  · omega

theorem Part.comma {l : List UInt8} {st j : Nat} {done : List (List UInt8)} (h : Part l st j done) (hj : j < l.length) (hb : l[j]? = some 44) : Part l (j + 1) (j + 1) (done ++ opt (trim ((l.drop st).take (j - st)))) := by
  rcases h with ⟨h1, h2, h3, h4⟩ | ⟨h1, _⟩
  · refine .inl ⟨Nat.le_refl _, by omega, fun c hc => by simp at hc, ?_⟩
    have hd : l.drop st = (l.drop st).take (j - st) ++ 44 :: l.drop (j + 1) := by
      have e1 := (List.take_append_drop (j - st) (l.drop st)).symm
      rw [List.drop_drop, show st + (j - st) = j from by omega] at e1
      have hj' : l.drop j = 44 :: l.drop (j + 1) := by
        rw [List.drop_eq_getElem_cons hj]
        rw [List.getElem?_eq_getElem hj] at hb
        rw [Option.some.inj hb]
      rw [hj'] at e1
      exact e1
    have := mems_comma _ (l.drop (j + 1)) h3
    rw [← hd] at this
    rw [List.append_assoc, ← this]
    exact h4
  · omega

theorem Part.last {l : List UInt8} {st : Nat} {done : List (List UInt8)} (h : Part l st l.length done) : Part l (l.length + 1) (l.length + 1) (done ++ opt (trim ((l.drop st).take (l.length - st)))) := by
  rcases h with ⟨h1, h2, h3, h4⟩ | ⟨h1, _⟩
  · refine .inr ⟨rfl, ?_⟩
    have e : (l.drop st).take (l.length - st) = l.drop st := List.take_of_length_le (by rw [List.length_drop]; exact Nat.le_refl _)
    rw [e] at h3 ⊢
    rw [← mems_last _ h3]
    exact h4
  · omega

theorem Part.le {l : List UInt8} {st j : Nat} {done : List (List UInt8)} (h : Part l st j done) : done.length ≤ (mems l).length := by
  rcases h with ⟨_, _, _, h4⟩ | ⟨_, h4⟩
  · rw [← h4, List.length_append]; omega
  · rw [h4]; exact Nat.le_refl _

theorem dropWhile_length (l : List UInt8) (p : UInt8 → Bool) : (l.dropWhile p).length ≤ l.length := (List.dropWhile_sublist p).length_le

theorem trim_length (l : List UInt8) : (trim l).length ≤ l.length := by
  unfold trim trimR trimL
  rw [List.length_reverse]
  refine Nat.le_trans (dropWhile_length _ _) ?_
  rw [List.length_reverse]
  exact dropWhile_length _ _

set_option maxHeartbeats 4000000 in
theorem zzListMembers_walk (b off n c : Nat) (fs : List ByteArray) (w : World) (hlen : fs.length = n) (hcell : ∀ i, i < n → w.cell? ⟨b, off + i, none⟩ = some (.string (fs.getD i ByteArray.empty))) (hbound : n + tot fs ≤ 1048576) :
    Calls Try.prog 13 #[.slice (some ⟨b, off, none⟩) n c, .string ⟨#[]⟩] w fun e w' => ∃ v, e = .returned v ∧ MineS w.heap.size w' v (memsAll fs) ∧ Below w.heap.size w w' := by
  have HC : Hid (∀ i, i < n → w.cell? ⟨b, off + i, none⟩ = some (.string (fs.getD i ByteArray.empty))) := hcell
  have HL : Hid (fs.length = n) := hlen
  have HBD : Hid (n + tot fs ≤ 1048576) := hbound
  have hn : n ≤ 1048576 := by omega
  clear hcell hlen hbound
  go_enter Try.func13, Try.ntmps13
  go_wp2
  go_loopw [5, 6] (fun o i wr => ∃ k : Nat, k ≤ n ∧ i = .int .i64 k ∧ Hid (MineS w.heap.size wr o (memsAll (fs.take k))) ∧ Below w.heap.size w wr) (fun _ i _ => n - (intOf i).toNat)
  case atStart => exact ⟨0, Nat.zero_le _, rfl, World.ownsRow_nil _ _ _ _, Below.refl _ _⟩
  case round =>
    obtain ⟨k, hk, rfl, HM, hb⟩ := hrel
    by_cases hlt : k < n
    · obtain ⟨f, hf⟩ : ∃ f, fs.getD k ByteArray.empty = f := ⟨_, rfl⟩
      have hkl : k < fs.length := by rw [HL.out]; exact hlt
      have HT : Hid (memsAll (fs.take (k + 1)) = memsAll (fs.take k) ++ mems f.data.toList) := by show _ = _; rw [memsAll_take_succ fs k hkl, hf]
      have hc0 := HC.out k hlt
      rw [hf] at hc0
      have hc : wr.cell? ⟨b, off + k, none⟩ = some (.string f) := keep_below hb _ _ hc0
      have hfs : f.size ≤ 1048576 := by
        have h1 := tot_take_succ fs k hkl
        rw [hf] at h1
        have h2 := tot_take_le fs (k + 1)
        have h3 := HBD.out
        omega
      have HML : Hid ((memsAll (fs.take (k + 1))).length ≤ 2097152) := by
        have h1 := memsAll_length (fs.take (k + 1))
        have h2 := tot_take_le fs (k + 1)
        have h3 : (fs.take (k + 1)).length ≤ n := by rw [List.length_take, HL.out]; omega
        have h4 := HBD.out
        exact (by omega : (memsAll (fs.take (k + 1))).length ≤ 2097152)
      clear hf hc0
      go_wp2
      obtain ⟨ac, hac⟩ : ∃ ac, ac = memsAll (fs.take k) := ⟨_, rfl⟩
      rw [← hac] at HM HT
      clear hac
      go_loopw [5, 8, 9] (fun o p i wr => ∃ (st j : Nat) (done : List (List UInt8)), j ≤ f.size + 1 ∧ p = .int .i64 st ∧ i = .int .i64 j ∧ Hid (Part f.data.toList st j done) ∧ st ≤ j ∧ Hid (MineS w.heap.size wr o (ac ++ done)) ∧ Below w.heap.size w wr) (fun _ _ i _ => f.size + 1 - (intOf i).toNat)
      case atStart => exact ⟨0, 0, [], by omega, rfl, rfl, Part.start _, Nat.le_refl _, by show MineS _ _ _ _; rw [List.append_nil]; exact HM.out, hb⟩
      case round =>
        obtain ⟨st, j, done, hj, rfl, rfl, HP, hst, HM2, hb2⟩ := hrel
        by_cases hjl : j ≤ f.size
        · obtain ⟨tm, htm⟩ : ∃ tm, trim ((f.data.toList.drop st).take (j - st)) = tm := ⟨_, rfl⟩
          obtain ⟨tb, htb⟩ : ∃ tb, S tm = tb := ⟨_, rfl⟩
          have hT : ∀ wx, Calls Try.prog 27 #[.string (f.extract st j)] wx fun e w' => e = .returned (.string tb) ∧ w' = wx := fun wx => by
            have := zzTrim_any (f.extract st j) wx (by rw [ByteArray.size_extract]; unfold maxLen; omega)
            rw [Lib.extract_data, htm, htb] at this
            exact this
          have htz : tb.size ≤ maxLen := by
            have h1 := trim_length ((f.data.toList.drop st).take (j - st))
            rw [htm, List.length_take, List.length_drop, sz] at h1
            rw [← htb, S_size]
            unfold maxLen
            omega
          by_cases hgo : j < f.size ∧ ∃ x, f.data.toList[j]? = some x ∧ x ≠ 44
          · obtain ⟨hjf, x, hx1, hx2⟩ := hgo
            have HP2 : Hid (Part f.data.toList st (j + 1) done) := HP.out.on (by rw [sz]; exact hjf) x hx1 hx2
            have hx : f[j]'hjf = x := by
              have := at_list f j hjf
              rw [hx1] at this
              exact (Option.some.inj this).symm
            have hxi := byte_ne (k := 44) hx2
            simp only [Int.cast_ofNat_Int] at hxi
            have hxj : ((x.toNat : Int) != 44) = true := by
              show (!((x.toNat : Int) == 44)) = true
              rw [hxi]; rfl
            clear hx1 hx2
            go_wp2_with fail
            go_roundw
            case rel => exact ⟨st, j + 1, done, by omega, rfl, by go_num, HP2, by omega, HM2, hb2⟩
            case measure => simp [intOf]; omega
          · have hcut : (∃ (hjf : j < f.size), f[j]'hjf = 44) ∨ (decide ((j : Int) < (f.size : Int)) = false ∧ ¬ (j : Int) < (f.size : Int)) := by
              by_cases hjf : j < f.size
              · refine .inl ⟨hjf, ?_⟩
                have h1 := at_list f j hjf
                by_cases h44 : f[j]'hjf = 44
                · exact h44
                · exact absurd ⟨hjf, _, h1, h44⟩ hgo
              · exact .inr ⟨decide_eq_false (by omega), by omega⟩
            have HQ : Hid (Part f.data.toList (j + 1) (j + 1) (done ++ opt tm)) := by
              show Part _ _ _ _
              rw [← htm]
              by_cases hjf : j < f.size
              · have h1 := at_list f j hjf
                by_cases h44 : f[j]'hjf = 44
                · rw [h44] at h1
                  exact HP.out.comma (by rw [sz]; exact hjf) h1
                · exact absurd ⟨hjf, _, h1, h44⟩ hgo
              · obtain rfl : j = f.size := by omega
                have := HP.out
                rw [← sz] at this ⊢
                exact this.last
            clear hgo htm
            rcases hcut with ⟨hjf, hx⟩ | ⟨hjd, hjd'⟩
            all_goals
              by_cases hte : tm = []
              · have hie : tb.toList.isEmpty = true := by rw [← htb, Lib.toList_data, S_data, hte]; rfl
                have HO : Hid (opt tm = []) := by show _ = _; unfold opt; rw [if_pos hte]
                clear hte htb
                go_wp2_with (go_at_call 27; refine (hT _).mono ?_; rintro e w' ⟨rfl, hw⟩; rw [hw])
                go_roundw
                case rel => exact ⟨j + 1, j + 1, done, by omega, by go_num, by go_num, by have := HQ.out; rw [HO.out, List.append_nil] at this; exact this, Nat.le_refl _, HM2, hb2⟩
                case measure => simp [intOf]; omega
              · have hie : tb.toList.isEmpty = false := by
                  rw [← htb, Lib.toList_data, S_data]
                  cases hd : tm with
                  | nil => exact absurd hd hte
                  | cons _ _ => rfl
                have HO : Hid (opt tm = [tm]) := by show _ = _; unfold opt; rw [if_neg hte]
                have HTB : Hid (tb.data.toList = tm) := by show _ = _; rw [← htb, S_data]
                have hpx : ∀ wx, Calls Try.prog 22 #[.string tb, .string ⟨#[]⟩] wx fun e w' => e = .returned (.bool true) ∧ ∃ q, w' = wx.drewN q := fun wx => zzHasPrefix_any tb ⟨#[]⟩ wx htz
                have hxw : tb.extract 0 tb.size = tb := by
                  apply bytes_ext
                  rw [Lib.extract_to_end]
                  rfl
                have HFT : Hid ((ac ++ done).length + 1 ≤ 16777216) := by
                  show _ ≤ _
                  have h1 := HML.out
                  have h2 := HQ.out.le
                  rw [HT.out, List.length_append] at h1
                  rw [HO.out, List.length_append, List.length_cons, List.length_nil] at h2
                  rw [List.length_append]
                  omega
                clear hte htb
                go_wp2_with (first
                  | (go_at_call 27; refine (hT _).mono ?_; rintro e w' ⟨rfl, hw⟩; rw [hw])
                  | (go_at_call 22; refine (hpx _).mono ?_; rintro e w1 ⟨rfl, q, rfl⟩)
                  | (at_builtin; refine wp_push _ rfl (.tmp 52) (.tmp 57) rfl w.heap.size _ _ rfl HM2.out tb rfl HFT.out hb2.size ?_))
                intro v1 w1 m1 d1
                have hb3 : Below w.heap.size w (wr.drewN q) := below_drewN hb2 q
                have hb4 : Below w.heap.size w w1 := hb3.trans ((((Below.refl _ _).alloc hb3.size _)).trans d1)
                have M1 : Hid (MineS w.heap.size w1 v1 (ac ++ (done ++ opt tm))) := by
                  show MineS _ _ _ _
                  rw [HO.out, ← HTB.out]
                  simpa only [List.append_assoc] using m1
                clear m1 d1 hb3
                go_wp2
                go_roundw
                case rel => exact ⟨j + 1, j + 1, done ++ opt tm, by omega, by go_num, by go_num, HQ, Nat.le_refl _, M1, hb4⟩
                case measure => simp [intOf]; omega
        · obtain rfl : j = f.size + 1 := by omega
          have HD : Hid (done = mems f.data.toList) := by
            rcases HP.out with ⟨_, h, _⟩ | ⟨_, h⟩
            · rw [sz] at h; omega
            · exact h
          have hjn : ¬ (f.size : Int) + 1 ≤ (f.size : Int) := by omega
          go_wp2
          go_roundw
          case rel => exact ⟨k + 1, by omega, by go_num, by show MineS _ _ _ _; rw [HT.out, ← HD.out]; exact HM2.out, hb2⟩
          case measure => simp [intOf]; omega
    · obtain rfl : k = n := by omega
      have HE : Hid (memsAll (fs.take k) = memsAll fs) := by show _ = _; rw [List.take_of_length_le (by rw [HL.out]; exact Nat.le_refl _)]
      have hkn : ¬ (k : Int) < (k : Int) := by omega
      go_wp2
      go_ret
      exact ⟨_, rfl, by rw [← HE.out]; exact HM.out, hb⟩

set_option maxHeartbeats 1000000 in
theorem zzListMembers_any (p : Option Addr) (n c : Nat) (fs : List ByteArray) (w : World) (h : Strs w p n fs) (hbound : n + tot fs ≤ 1048576) :
    Calls Try.prog 13 #[.slice p n c, .string ⟨#[]⟩] w fun e w' => ∃ v, e = .returned v ∧ MineS w.heap.size w' v (memsAll fs) ∧ Below w.heap.size w w' := by
  obtain ⟨hlen, hcase⟩ := h
  by_cases hn0 : n = 0
  · subst hn0
    obtain rfl : fs = [] := List.length_eq_zero_iff.1 hlen
    rw [show memsAll [] = [] from rfl]
    go_enter Try.func13, Try.ntmps13
    go_wp2
    refine wp_loop_rounds 1 ?_; rw [rounds_succ]
    go_wp2
    go_ret
    exact ⟨_, rfl, World.ownsRow_nil _ _ _ _, Below.refl _ _⟩
  · rcases hcase with h0 | ⟨b, off, rfl, hcell⟩
    · exact absurd h0 hn0
    · exact zzListMembers_walk b off n c fs w hlen hcell hbound

end Go.Proofs.Qxb6003347a
