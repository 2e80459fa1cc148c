/-
  SEAT b6003347a. zzW3CMember at a member of the stamp's make: true.
-/
import Derived.Test.Qxb6003347aValid
import Derived.Laws.Runes
namespace Go.Proofs.Qxb6003347a
open Go.RowKit

set_option maxHeartbeats 2000000 in
theorem zzW3CMember_walk (m kk vv : ByteArray) (w : World) (hz : m.size = 11 + vv.size) (hv1 : 1 ≤ vv.size) (hv2 : vv.size ≤ 221) (hkk : m.extract 0 10 = kk) (hvv : m.extract 11 m.size = vv) (hks : kk.size = 10)
    (hA : ∀ i (h : i < m.size), i < 10 → (m[i]'h) ≠ 61) (hB : ∀ h : 10 < m.size, m[10]'h = 61) (hK : ∀ i (h : i < kk.size), 97 ≤ (kk[i]'h).toNat ∧ (kk[i]'h).toNat ≤ 122)
    (hV : ∀ i (h : i < vv.size), 32 ≤ (vv[i]'h).toNat ∧ (vv[i]'h).toNat ≤ 126 ∧ (vv[i]'h) ≠ 44 ∧ (vv[i]'h) ≠ 61) (hL : ∀ h : vv.size - 1 < vv.size, (vv[vv.size - 1]'h) ≠ 32) :
    Calls Try.prog 21 #[.string m] w fun e w' => e = .returned (.bool true) ∧ ∃ n, w' = w.drewN n := by
  have HA : Hid (∀ i (h : i < m.size), i < 10 → (m[i]'h) ≠ 61) := hA
  have HK : Hid (∀ i (h : i < kk.size), 97 ≤ (kk[i]'h).toNat ∧ (kk[i]'h).toNat ≤ 122) := hK
  have HV : Hid (∀ i (h : i < vv.size), 32 ≤ (vv[i]'h).toNat ∧ (vv[i]'h).toNat ≤ 126 ∧ (vv[i]'h) ≠ 44 ∧ (vv[i]'h) ≠ 61) := hV
  have HB : Hid (∀ h : 10 < m.size, m[10]'h = 61) := hB
  have HL : Hid (∀ h : vv.size - 1 < vv.size, (vv[vv.size - 1]'h) ≠ 32) := hL
  have sl1 : ∀ wx, (Instr.slice 9 (.string m) none (some (.int .i64 10)) none).run Try.prog wx = .ok (.string kk) wx := fun wx => by
    rw [run_slice_string_to_if wx 9 m .i64 _ Try.underlying9, if_pos ⟨by omega, by omega⟩]
    exact congrArg (fun v => Result.ok (Value.string v) wx) hkk
  have sl2 : ∀ wx, (Instr.slice 9 (.string m) (some (.int .i64 11)) none none).run Try.prog wx = .ok (.string vv) wx := fun wx => by
    rw [run_slice_string_from_if wx 9 m .i64 _ Try.underlying9, if_pos ⟨by omega, by omega⟩]
    exact congrArg (fun v => Result.ok (Value.string v) wx) hvv
  have HKS : Hid (kk.size = 10) := hks
  have hks1 : 10 ≤ kk.size := by omega
  have hks2 : kk.size ≤ 10 := by omega
  have hm1 : 12 ≤ m.size := by omega
  have hm2 : m.size ≤ 300 := by omega
  have w11 : IntKind.i64.wrap ((10 : Int) + 1) = 11 := by decide
  clear hA hK hV hB hL hkk hvv hz hks
  go_enter Try.func21, Try.ntmps21
  go_wp2
  go_loop [3, 4] (fun p i => ∃ k : Nat, k ≤ 10 ∧ p = .int .i64 (-1) ∧ i = .int .i64 k) (fun _ i => 11 - (intOf i).toNat)
  case atStart => exact ⟨0, by omega, rfl, rfl⟩
  case round =>
    obtain ⟨k, hk, rfl, rfl⟩ := hrel
    have hlt : k < m.size := by omega
    obtain ⟨x, hx⟩ : ∃ x : UInt8, m[k]'hlt = x := ⟨_, rfl⟩
    by_cases hk10 : k < 10
    · have hne : x ≠ 61 := by rw [← hx]; exact HA.out k hlt hk10
      have hxi := byte_ne (k := 61) hne
      simp only [Int.cast_ofNat_Int] at hxi
      clear hne
      go_wp2
      go_round
      case rel => exact ⟨k + 1, by omega, rfl, by go_num⟩
      case measure => simp [intOf]; omega
    · obtain rfl : k = 10 := by omega
      have h61 : x = 61 := by rw [← hx]; exact HB.out _
      have hxi : ((x.toNat : Int) == 61) = true := by rw [h61]; decide
      clear h61
      obtain ⟨y, hy⟩ : ∃ y : UInt8, kk[0]'(by omega) = y := ⟨_, rfl⟩
      have hyr := HK.out 0 (by omega)
      rw [hy] at hyr
      have y1 : decide ((y.toNat : Int) < 97) = false := decide_eq_false (by omega)
      have y2 : ¬ (122 : Int) < (y.toNat : Int) := by omega
      go_wp2
      go_quiet (fail)
      go_wp2
      go_loop [7] (fun i => ∃ j : Nat, 1 ≤ j ∧ j ≤ kk.size ∧ i = .int .i64 j) (fun i => kk.size - (intOf i).toNat)
      case atStart => exact ⟨1, by omega, by omega, rfl⟩
      case round =>
        obtain ⟨j, hj1, hj, rfl⟩ := hrel
        by_cases hjl : j < kk.size
        · obtain ⟨z, hz⟩ : ∃ z : UInt8, kk[j]'hjl = z := ⟨_, rfl⟩
          have hzr := HK.out j hjl
          rw [hz] at hzr
          have z1 : decide ((97 : Int) ≤ (z.toNat : Int)) = true := decide_eq_true (by omega)
          have z2 : decide ((z.toNat : Int) ≤ 122) = true := decide_eq_true (by omega)
          go_wp2
          go_round
          case rel => exact ⟨j + 1, by omega, by omega, by go_num⟩
          case measure => simp [intOf]; omega
        · obtain rfl : j = kk.size := by omega
          have hjn : ¬ (kk.size : Int) < (kk.size : Int) := by omega
          have v1 : decide ((vv.size : Int) < 1) = false := decide_eq_false (by omega)
          have v2 : ¬ (256 : Int) < (vv.size : Int) := by omega
          go_wp2
          go_loop [9] (fun i => ∃ j : Nat, j ≤ vv.size ∧ i = .int .i64 j) (fun i => vv.size - (intOf i).toNat)
          case atStart => exact ⟨0, Nat.zero_le _, rfl⟩
          case round =>
            obtain ⟨j, hj3, rfl⟩ := hrel
            by_cases hjl3 : j < vv.size
            · obtain ⟨z, hz⟩ : ∃ z : UInt8, vv[j]'hjl3 = z := ⟨_, rfl⟩
              have hzr := HV.out j hjl3
              rw [hz] at hzr
              obtain ⟨r1, r2, r3, r4⟩ := hzr
              have z1 : decide ((z.toNat : Int) < 32) = false := decide_eq_false (by omega)
              have z2 : decide ((126 : Int) < (z.toNat : Int)) = false := decide_eq_false (by omega)
              have z3 := byte_ne (k := 44) r3
              have z4 := byte_ne (k := 61) r4
              simp only [Int.cast_ofNat_Int] at z3 z4
              clear r3 r4
              go_wp2
              go_round
              case rel => exact ⟨j + 1, by omega, by go_num⟩
              case measure => simp [intOf]; omega
            · obtain rfl : j = vv.size := by omega
              have hjn3 : ¬ (vv.size : Int) < (vv.size : Int) := by omega
              have e1 : (0 : Int) ≤ (vv.size : Int) - 1 := by omega
              have e2 : (vv.size : Int) - 1 < (vv.size : Int) := by omega
              have e3 : ((vv.size : Int) - 1).toNat = vv.size - 1 := by omega
              obtain ⟨z, hz⟩ : ∃ z : UInt8, vv[vv.size - 1]'(by omega) = z := ⟨_, rfl⟩
              have hne : z ≠ 32 := by rw [← hz]; exact HL.out _
              have z3 := byte_ne (k := 32) hne
              simp only [Int.cast_ofNat_Int] at z3
              have z4 : ((z.toNat : Int) != 32) = true := by
                show (!((z.toNat : Int) == 32)) = true
                rw [z3]; rfl
              clear hne
              go_wp2
              go_ret
              exact ⟨rfl, _, rfl⟩

theorem data_append (a b : ByteArray) : (a ++ b).data.toList = a.data.toList ++ b.data.toList := by
  rw [ByteArray.data_append, Array.toList_append]

theorem bytes_ext {a b : ByteArray} (h : a.data.toList = b.data.toList) : a = b := by
  rw [← Lib.mk_data a, ← Lib.mk_data b, h]

/-- The stamp member's key and its equals sign. -/
def SP : List UInt8 := [116, 97, 108, 108, 121, 99, 108, 111, 99, 107, 61]

theorem getElem_list (s : ByteArray) (k : Nat) (h : k < s.size) : s.data.toList[k]? = some (s[k]'h) := at_list s k h

theorem zzW3CMember_stamp (s : ByteArray) (w : World) (hv : VS s.data.toList) (hc : ce s.data.toList = false) :
    Calls Try.prog 21 #[.string (⟨#[116, 97, 108, 108, 121, 99, 108, 111, 99, 107, 61]⟩ ++ s)] w fun e w' => e = .returned (.bool true) ∧ ∃ n, w' = w.drewN n := by
  obtain ⟨v1, v2, v3, c, v4, v5⟩ := hv
  obtain ⟨m, hm⟩ : ∃ m : ByteArray, (⟨#[116, 97, 108, 108, 121, 99, 108, 111, 99, 107, 61]⟩ ++ s : ByteArray) = m := ⟨_, rfl⟩
  have hl : m.data.toList = SP ++ s.data.toList := by rw [← hm, data_append]; rfl
  rw [hm]
  have hs := sz s
  have hms : m.size = 11 + s.size := by rw [← sz, hl, List.length_append, hs]; rfl
  have hpos : 0 < s.data.toList.length := List.length_pos_iff.2 v1
  have hce : ∀ b ∈ s.data.toList, b ≠ 44 ∧ b ≠ 61 := fun b hb => by
    have := List.any_eq_false.1 hc b hb
    simpa using this
  refine zzW3CMember_walk m ⟨#[116, 97, 108, 108, 121, 99, 108, 111, 99, 107]⟩ s w hms (by omega) (by omega) ?_ ?_ rfl ?_ ?_ ?_ ?_ ?_
  · apply bytes_ext
    rw [Lib.extract_data, hl]
    rfl
  · apply bytes_ext
    rw [Lib.extract_to_end, hl]
    rfl
  · intro i h hi e
    have h1 := at_list m i h
    rw [hl, List.getElem?_append_left (by show i < 11; omega), e] at h1
    rcases (by omega : i = 0 ∨ i = 1 ∨ i = 2 ∨ i = 3 ∨ i = 4 ∨ i = 5 ∨ i = 6 ∨ i = 7 ∨ i = 8 ∨ i = 9) with rfl | rfl | rfl | rfl | rfl | rfl | rfl | rfl | rfl | rfl <;> exact absurd h1 (by decide)
  · intro h
    have h1 := at_list m 10 h
    rw [hl, List.getElem?_append_left (by decide)] at h1
    exact (Option.some.inj h1).symm
  · intro i h
    have hmem := List.mem_of_getElem? (at_list ⟨#[116, 97, 108, 108, 121, 99, 108, 111, 99, 107]⟩ i h)
    have hall : ∀ b ∈ (⟨#[116, 97, 108, 108, 121, 99, 108, 111, 99, 107]⟩ : ByteArray).data.toList, 97 ≤ b.toNat ∧ b.toNat ≤ 122 := by decide
    exact hall _ hmem
  · intro i h
    have hmem : s[i]'h ∈ s.data.toList := List.mem_of_getElem? (at_list s i h)
    exact ⟨(v3 _ hmem).1, (v3 _ hmem).2, (hce _ hmem).1, (hce _ hmem).2⟩
  · intro h e
    have h1 := at_list s (s.size - 1) h
    rw [List.getLast?_eq_getElem?, hs, h1] at v4
    rw [e] at v4
    exact v5 (Option.some.inj v4).symm

end Go.Proofs.Qxb6003347a
