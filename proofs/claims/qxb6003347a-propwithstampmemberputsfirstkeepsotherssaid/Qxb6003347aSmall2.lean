/-
  SEAT b6003347a. zzHasPrefix, zzHasCommaOrEquals.
-/
import Derived.Test.Qxb6003347aSmall
namespace Go.Proofs.Qxb6003347a
open Go.RowKit

theorem prefix_iff (s p : ByteArray) : Lib.hasPrefix s.data.toList p.data.toList = true ↔ p.size ≤ s.size ∧ ∀ j b, j < p.size → p.data.toList[j]? = some b → s.data.toList[j]? = some b := by
  unfold Lib.hasPrefix
  rw [List.isPrefixOf_iff_prefix]
  constructor
  · intro h
    refine ⟨by rw [← sz, ← sz]; exact h.length_le, fun j b hj hb => ?_⟩
    obtain ⟨t, ht⟩ := h
    rw [← ht, List.getElem?_append_left (by rw [sz]; exact hj)]
    exact hb
  · rintro ⟨h1, h2⟩
    rw [List.prefix_iff_eq_take]
    apply List.ext_getElem?
    intro i
    rw [List.getElem?_take]
    split
    · rename_i hi
      rw [List.getElem?_eq_getElem hi]
      exact (h2 i _ (by rw [← sz]; exact hi) (List.getElem?_eq_getElem hi)).symm
    · rename_i hi
      rw [List.getElem?_eq_none (by omega)]

set_option maxHeartbeats 1000000 in
theorem zzHasPrefix_any (s p : ByteArray) (w : World) (hs : s.size ≤ maxLen) :
    Calls Try.prog 22 #[.string s, .string p] w fun e w' => e = .returned (.bool (Lib.hasPrefix s.data.toList p.data.toList)) ∧ ∃ n, w' = w.drewN n := by
  unfold maxLen at hs
  by_cases hlen : s.size < p.size
  · have hf : Lib.hasPrefix s.data.toList p.data.toList = false := by
      cases h : Lib.hasPrefix s.data.toList p.data.toList
      · rfl
      · have := ((prefix_iff s p).1 h).1; omega
    rw [hf]
    have hlen' : (s.size : Int) < (p.size : Int) := by omega
    go_enter Try.func22, Try.ntmps22
    go_wp2
    go_ret
    exact ⟨rfl, 0, rfl⟩
  · have hlen' : ¬ (s.size : Int) < (p.size : Int) := by omega
    go_enter Try.func22, Try.ntmps22
    go_wp2
    go_loopw [5] (fun i wr => ∃ k n : Nat, k ≤ p.size ∧ i = .int .i64 k ∧ wr = w.drewN n ∧ Hid (∀ j b, j < k → p.data.toList[j]? = some b → s.data.toList[j]? = some b)) (fun i _ => p.size - (intOf i).toNat)
    case atStart => exact ⟨0, 0, Nat.zero_le _, rfl, rfl, fun j b h => absurd h (Nat.not_lt_zero _)⟩
    case round =>
      obtain ⟨k, n, hk, rfl, rfl, HP⟩ := hrel
      by_cases hlt : k < p.size
      · have hls : k < s.size := by omega
        have k1 : (k : Int) < (p.size : Int) := by omega
        have k2 : (k : Int) < (s.size : Int) := by omega
        obtain ⟨x, hx⟩ : ∃ x : UInt8, s[k]'hls = x := ⟨_, rfl⟩
        obtain ⟨y, hy⟩ : ∃ y : UInt8, p[k]'hlt = y := ⟨_, rfl⟩
        have HX : Hid (s.data.toList[k]? = some x) := by rw [← hx]; exact at_list s k hls
        have HY : Hid (p.data.toList[k]? = some y) := by rw [← hy]; exact at_list p k hlt
        by_cases hxy : x = y
        · subst hxy
          have hb : ((x.toNat : Int) != (x.toNat : Int)) = false := by simp
          go_wp2
          go_quiet (fail)
          go_wp2
          go_roundw
          case rel => exact ⟨k + 1, _, by omega, by go_num, rfl, fun j b hj hb => by
            by_cases e : j = k
            · subst e
              rw [HY.out] at hb
              cases hb
              exact HX.out
            · exact HP.out j b (by omega) hb⟩
          case measure => simp [intOf]; omega
        · have hb : ((x.toNat : Int) != (y.toNat : Int)) = true := by
            simp only [bne_iff_ne, ne_eq]
            intro e
            exact hxy (UInt8.toNat_inj.1 (by omega))
          have HF : Hid (Lib.hasPrefix s.data.toList p.data.toList = false) := by
            show _ = _
            cases h : Lib.hasPrefix s.data.toList p.data.toList
            · rfl
            · have := ((prefix_iff s p).1 h).2 k y hlt HY.out
              rw [HX.out] at this
              exact absurd (Option.some.inj this) hxy
          go_wp2
          go_quiet (fail)
          go_wp2
          go_ret
          exact ⟨by rw [HF.out]; rfl, n + nq, by rw [World.drewN_drewN]⟩
      · obtain rfl : k = p.size := by omega
        have HT : Hid (Lib.hasPrefix s.data.toList p.data.toList = true) := (prefix_iff s p).2 ⟨by omega, HP.out⟩
        have k1 : ¬ (p.size : Int) < (p.size : Int) := by omega
        go_wp2
        go_ret
        exact ⟨by rw [HT.out]; rfl, _, rfl⟩

/-- A comma or an equals sign. -/
def ce (l : List UInt8) : Bool := l.any fun c => c == 44 || c == 61

set_option maxHeartbeats 1000000 in
theorem zzHasCommaOrEquals_any (s : ByteArray) (w : World) (hs : s.size ≤ maxLen) :
    Calls Try.prog 20 #[.string s] w fun e w' => e = .returned (.bool (ce s.data.toList)) ∧ w' = w := by
  unfold maxLen at hs
  go_enter Try.func20, Try.ntmps20
  go_wp2
  go_loop [3] (fun i => ∃ k : Nat, k ≤ s.size ∧ i = .int .i64 k ∧ Hid (∀ j b, j < k → s.data.toList[j]? = some b → (b == 44 || b == 61) = false)) (fun i => s.size - (intOf i).toNat)
  case atStart => exact ⟨0, Nat.zero_le _, rfl, fun j b h => absurd h (Nat.not_lt_zero _)⟩
  case round =>
    obtain ⟨k, hk, rfl, HP⟩ := hrel
    by_cases hlt : k < s.size
    · obtain ⟨x, hx⟩ : ∃ x : UInt8, s[k]'hlt = x := ⟨_, rfl⟩
      have HX : Hid (s.data.toList[k]? = some x) := by rw [← hx]; exact at_list s k hlt
      have hit : (x == 44 || x == 61) = true → Hid (ce s.data.toList = true) := fun h => by
        show _ = _
        unfold ce
        exact List.any_eq_true.2 ⟨x, List.mem_of_getElem? HX.out, h⟩
      by_cases h1 : x = 44
      · have HT := hit (by rw [h1]; decide)
        subst h1
        clear hit
        go_wp2
        go_ret
        exact ⟨by rw [HT.out]; rfl, rfl⟩
      · have b1 := byte_ne (k := 44) h1
        by_cases h2 : x = 61
        · have HT := hit (by rw [h2]; decide)
          subst h2
          clear hit
          go_wp2
          go_ret
          exact ⟨by rw [HT.out]; rfl, rfl⟩
        · have b2 := byte_ne (k := 61) h2
          have hn : (x == 44 || x == 61) = false := by
            rw [beq_eq_false_iff_ne.2 h1, beq_eq_false_iff_ne.2 h2]; rfl
          have HN : Hid ((x == 44 || x == 61) = false) := hn
          clear hit hn h1 h2
          simp only [Int.cast_ofNat_Int] at b1 b2
          go_wp2
          go_round
          case rel => exact ⟨k + 1, by omega, by go_num, fun j b hj hb => by
            by_cases e : j = k
            · subst e
              rw [HX.out] at hb
              cases hb
              exact HN.out
            · exact HP.out j b (by omega) hb⟩
          case measure => simp [intOf]; omega
    · obtain rfl : k = s.size := by omega
      have HF : Hid (ce s.data.toList = false) := by
        show _ = _
        unfold ce
        rw [List.any_eq_false]
        intro b hb
        obtain ⟨j, hj, hjb⟩ := List.getElem_of_mem hb
        have := HP.out j b (by rw [← sz]; exact hj) (by rw [List.getElem?_eq_getElem hj, hjb])
        rw [this]; decide
      go_wp2
      go_ret
      exact ⟨by rw [HF.out]; rfl, rfl⟩

end Go.Proofs.Qxb6003347a
