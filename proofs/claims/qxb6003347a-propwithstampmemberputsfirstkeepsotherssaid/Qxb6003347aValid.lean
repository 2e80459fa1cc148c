/-
  SEAT b6003347a. zzValidStamp: what it says of a stamp that it calls valid.
-/
import Derived.Test.Qxb6003347aSmall2
import Derived.Laws.Runes
namespace Go.Proofs.Qxb6003347a
open Go.RowKit

/-- What is used of a valid stamp. -/
def VS (l : List UInt8) : Prop := l ≠ [] ∧ l.length ≤ 221 ∧ (∀ c ∈ l, 32 ≤ c.toNat ∧ c.toNat ≤ 126) ∧ ∃ c, l.getLast? = some c ∧ c ≠ 32
def ValidRes (l : List UInt8) (e : Ending) : Prop := ∃ b, e = .returned (.bool b) ∧ (b = true → VS l)

theorem vs_of (s : ByteArray) (k : Nat) (hk : k < s.size) (hk20 : k ≤ 20) (x : UInt8) (hx : s.data.toList[k]? = some x) (h32 : x = 32) (hn1 : k + 1 < s.size) (hn2 : s.size - (k + 1) ≤ 200)
    (hd : ∀ j b, j < k → s.data.toList[j]? = some b → 48 ≤ b.toNat ∧ b.toNat ≤ 57) (hn : ∀ j b, k < j → s.data.toList[j]? = some b → 33 ≤ b.toNat ∧ b.toNat ≤ 126) : VS s.data.toList := by
  have hl := sz s
  refine ⟨fun e => ?_, by omega, fun c hc => ?_, ?_⟩
  · rw [e] at hl; simp at hl; omega
  · obtain ⟨j, hj, hjc⟩ := List.getElem_of_mem hc
    have hj' : s.data.toList[j]? = some c := by rw [List.getElem?_eq_getElem hj, hjc]
    rcases Nat.lt_trichotomy j k with h | h | h
    · have := hd j c h hj'; omega
    · subst h
      rw [hx] at hj'
      cases hj'
      subst h32
      decide
    · have := hn j c h hj'; omega
  · have h1 : s.size - 1 < s.data.toList.length := by omega
    refine ⟨s.data.toList[s.size - 1]'h1, ?_, ?_⟩
    · rw [List.getLast?_eq_getElem?, hl, List.getElem?_eq_getElem h1]
    · intro e
      have := hn (s.size - 1) _ (by omega) (List.getElem?_eq_getElem h1)
      rw [e] at this
      exact absurd this.1 (by decide)

set_option maxHeartbeats 2000000 in
theorem zzValidStamp_any (s : ByteArray) (w : World) (hs : s.size ≤ maxLen) :
    Calls Try.prog 19 #[.string s] w fun e w' => ValidRes s.data.toList e ∧ ∃ n, w' = w.drewN n := by
  unfold maxLen at hs
  have no : ∀ b, b = false → ValidRes s.data.toList (.returned (.bool b)) := fun b hb => ⟨b, rfl, fun h => by rw [hb] at h; cases h⟩
  have NO : Hid (∀ b, b = false → ValidRes s.data.toList (.returned (.bool b))) := no
  clear no
  go_enter Try.func19, Try.ntmps19
  go_wp2
  go_loop [3, 4] (fun p i => ∃ k : Nat, k ≤ s.size ∧ p = .int .i64 (-1) ∧ i = .int .i64 k) (fun _ i => s.size - (intOf i).toNat)
  case atStart => exact ⟨0, Nat.zero_le _, rfl, rfl⟩
  case round =>
    obtain ⟨k, hk, rfl, rfl⟩ := hrel
    by_cases hlt : k < s.size
    · obtain ⟨x, hx⟩ : ∃ x : UInt8, s[k]'hlt = x := ⟨_, rfl⟩
      have HX : Hid (s.data.toList[k]? = some x) := by rw [← hx]; exact at_list s k hlt
      by_cases h32 : x = 32
      · have k1 : (k : Int) + 1 ≤ (s.size : Int) := by omega
        have k5 : IntKind.i64.wrap ((k : Int) + 1) = (k : Int) + 1 := Go.wrap_small _ (by omega) (by omega)
        obtain ⟨d, hd⟩ : ∃ d, s.extract 0 k = d := ⟨_, rfl⟩
        obtain ⟨nm, hnm⟩ : ∃ nm, s.extract (k + 1) s.size = nm := ⟨_, rfl⟩
        have hds : d.size = k := by rw [← hd, ByteArray.size_extract]; omega
        have hns : nm.size = s.size - (k + 1) := by rw [← hnm, ByteArray.size_extract]; omega
        have HDL : Hid (d.data.toList = s.data.toList.take k) := by show _ = _; rw [← hd, Lib.extract_data]; simp
        have HNL : Hid (nm.data.toList = s.data.toList.drop (k + 1)) := by show _ = _; rw [← hnm, Lib.extract_to_end]
        have sl1 : ∀ wx, (Instr.slice 9 (.string s) none (some (.int .i64 (k : Int))) none).run Try.prog wx = .ok (.string d) wx := fun wx => by
          rw [run_slice_string_to_if wx 9 s .i64 _ Try.underlying9, if_pos ⟨by omega, by omega⟩, ← hd]
          simp
        have sl2 : ∀ wx, (Instr.slice 9 (.string s) (some (.int .i64 ((k : Int) + 1))) none none).run Try.prog wx = .ok (.string nm) wx := fun wx => by
          rw [run_slice_string_from_if wx 9 s .i64 _ Try.underlying9, if_pos ⟨by omega, k1⟩, show ((k : Int) + 1).toNat = k + 1 from by omega, hnm]
        have HX32 : Hid (x = 32) := h32
        have hxi : ((x.toNat : Int) == 32) = true := by rw [h32]; decide
        have HSZ : Hid (d.size = k ∧ nm.size = s.size - (k + 1)) := ⟨hds, hns⟩
        clear hd hnm h32 hds hns
        go_wp2
        go_quiet (fail)
        by_cases c1 : d.size = 0
        · have c1' : ((d.size : Int) == 0) = true := beq_iff_eq.2 (by omega)
          clear c1
          go_wp2
          go_ret
          exact ⟨NO.out _ rfl, _, rfl⟩
        · have c1' : ((d.size : Int) == 0) = false := beq_eq_false_iff_ne.2 (by omega)
          have hd0 : 0 < d.size := by omega
          clear c1
          by_cases c2 : 20 < d.size
          · have c2' : decide ((20 : Int) < (d.size : Int)) = true := decide_eq_true (by omega)
            go_wp2
            go_ret
            exact ⟨NO.out _ rfl, _, rfl⟩
          · have c2' : decide ((20 : Int) < (d.size : Int)) = false := decide_eq_false (by omega)
            obtain ⟨y, hy⟩ : ∃ y : UInt8, d[0]'hd0 = y := ⟨_, rfl⟩
            cases c3 : ((y.toNat : Int) == 48)
            · go_wp2
              go_loop [7, 8] (fun t i => ∃ (T : Int) (j : Nat), j ≤ d.size ∧ t = .int .u64 T ∧ i = .int .i64 j ∧ Hid (∀ q b, q < j → d.data.toList[q]? = some b → 48 ≤ b.toNat ∧ b.toNat ≤ 57)) (fun _ i => d.size - (intOf i).toNat)
              case atStart => exact ⟨0, 0, Nat.zero_le _, rfl, rfl, fun q b h => absurd h (Nat.not_lt_zero _)⟩
              case round =>
                obtain ⟨T, j, hj, rfl, rfl, HD⟩ := hrel
                by_cases hjl : j < d.size
                · obtain ⟨z, hz⟩ : ∃ z : UInt8, d[j]'hjl = z := ⟨_, rfl⟩
                  have HZ : Hid (d.data.toList[j]? = some z) := by rw [← hz]; exact at_list d j hjl
                  by_cases z1 : z.toNat < 48
                  · have z1' : decide ((z.toNat : Int) < 48) = true := decide_eq_true (by omega)
                    go_wp2
                    go_ret
                    exact ⟨NO.out _ rfl, _, rfl⟩
                  · have z1' : decide ((z.toNat : Int) < 48) = false := decide_eq_false (by omega)
                    by_cases z2 : 57 < z.toNat
                    · have z2' : decide ((57 : Int) < (z.toNat : Int)) = true := decide_eq_true (by omega)
                      go_wp2
                      go_ret
                      exact ⟨NO.out _ rfl, _, rfl⟩
                    · have z2' : decide ((57 : Int) < (z.toNat : Int)) = false := decide_eq_false (by omega)
                      go_wp2
                      · go_ret
                        exact ⟨NO.out _ rfl, _, rfl⟩
                      · go_round
                        case rel => exact ⟨_, j + 1, by omega, rfl, by go_num, fun q b hq hb => by
                          by_cases e : q = j
                          · subst e
                            rw [HZ.out] at hb
                            cases hb
                            exact ⟨by omega, by omega⟩
                          · exact HD.out q b (by omega) hb⟩
                        case measure => simp [intOf]; omega
                · obtain rfl : j = d.size := by omega
                  have hjn : ¬ (d.size : Int) < (d.size : Int) := by omega
                  by_cases e1 : nm.size = 0
                  · have e1' : ((nm.size : Int) == 0) = true := beq_iff_eq.2 (by omega)
                    clear e1
                    go_wp2
                    go_ret
                    exact ⟨NO.out _ rfl, _, rfl⟩
                  · have e1' : ((nm.size : Int) == 0) = false := beq_eq_false_iff_ne.2 (by omega)
                    by_cases e2 : 200 < nm.size
                    · have e2' : decide ((200 : Int) < (nm.size : Int)) = true := decide_eq_true (by omega)
                      clear e1
                      go_wp2
                      go_ret
                      exact ⟨NO.out _ rfl, _, rfl⟩
                    · have e2' : decide ((200 : Int) < (nm.size : Int)) = false := decide_eq_false (by omega)
                      have HE : Hid (0 < nm.size ∧ nm.size ≤ 200) := ⟨by omega, by omega⟩
                      clear e1
                      go_wp2
                      go_loop [11] (fun i => ∃ j : Nat, j ≤ nm.size ∧ i = .int .i64 j ∧ Hid (∀ q b, q < j → nm.data.toList[q]? = some b → 33 ≤ b.toNat ∧ b.toNat ≤ 126)) (fun i => nm.size - (intOf i).toNat)
                      case atStart => exact ⟨0, Nat.zero_le _, rfl, fun q b h => absurd h (Nat.not_lt_zero _)⟩
                      case round =>
                        obtain ⟨j, hj3, rfl, HN⟩ := hrel
                        by_cases hjl3 : j < nm.size
                        · obtain ⟨z, hz⟩ : ∃ z : UInt8, nm[j]'hjl3 = z := ⟨_, rfl⟩
                          have HZ : Hid (nm.data.toList[j]? = some z) := by rw [← hz]; exact at_list nm j hjl3
                          by_cases z1 : z.toNat < 33
                          · have z1' : decide ((z.toNat : Int) < 33) = true := decide_eq_true (by omega)
                            go_wp2
                            go_ret
                            exact ⟨NO.out _ rfl, _, rfl⟩
                          · have z1' : decide ((z.toNat : Int) < 33) = false := decide_eq_false (by omega)
                            by_cases z2 : 126 < z.toNat
                            · have z2' : decide ((126 : Int) < (z.toNat : Int)) = true := decide_eq_true (by omega)
                              go_wp2
                              go_ret
                              exact ⟨NO.out _ rfl, _, rfl⟩
                            · have z2' : decide ((126 : Int) < (z.toNat : Int)) = false := decide_eq_false (by omega)
                              go_wp2
                              go_round
                              case rel => exact ⟨j + 1, by omega, by go_num, fun q b hq hb => by
                                by_cases e : q = j
                                · subst e
                                  rw [HZ.out] at hb
                                  cases hb
                                  exact ⟨by omega, by omega⟩
                                · exact HN.out q b (by omega) hb⟩
                              case measure => simp [intOf]; omega
                        · obtain rfl : j = nm.size := by omega
                          have hj3n : ¬ (nm.size : Int) < (nm.size : Int) := by omega
                          have HV : Hid (VS s.data.toList) := by
                            obtain ⟨q1, q2⟩ := HSZ.out
                            obtain ⟨q3, q4⟩ := HE.out
                            refine vs_of s k hlt (by omega) x HX.out HX32.out (by omega) (by omega) (fun q b hq hb => ?_) (fun q b hq hb => ?_)
                            · refine HD.out q b (by omega) ?_
                              rw [HDL.out, List.getElem?_take, if_pos hq]
                              exact hb
                            · refine HN.out (q - (k + 1)) b ?_ ?_
                              · have : q < s.data.toList.length := (List.getElem?_eq_some_iff.1 hb).1
                                rw [sz] at this
                                omega
                              · rw [HNL.out, List.getElem?_drop, show k + 1 + (q - (k + 1)) = q from by omega]
                                exact hb
                          go_wp2
                          go_ret
                          exact ⟨⟨true, rfl, fun _ => HV.out⟩, _, rfl⟩
            · go_wp2
              go_ret
              exact ⟨NO.out _ rfl, _, rfl⟩
      · have hxi := byte_ne (k := 32) h32
        simp only [Int.cast_ofNat_Int] at hxi
        clear h32
        go_wp2
        go_round
        case rel => exact ⟨k + 1, by omega, rfl, by go_num⟩
        case measure => simp [intOf]; omega
    · obtain rfl : k = s.size := by omega
      have hkn : ¬ (s.size : Int) < (s.size : Int) := by omega
      go_wp2
      go_ret
      exact ⟨NO.out _ rfl, 0, rfl⟩

end Go.Proofs.Qxb6003347a
