/-
  SEAT b6001580a. strings.IndexAny at a string of at most 8 bytes, WHATEVER ITS BYTES, and ASCII chars of four bytes or more: the walk.
-/
import Derived.Test.Qxb6001580aShort
import Derived.Lib.OthersKept
namespace Go.Proofs.Qxb6001580a
open Go.RowKit

set_option maxHeartbeats 2000000 in
set_option maxRecDepth 1000000 in
theorem indexAny_short (s chars : ByteArray) (w : World) (h4 : 4 ≤ chars.size) (h8 : s.size ≤ 8) (hch : ∀ b ∈ chars.data.toList, b.toNat < 128) :
    Calls Try.prog 14 #[.string s, .string chars] w fun e w' => e = .returned (.int .i64 (Lib.indexAny s.data.toList chars.data.toList)) ∧ Below w.heap.size w w' := by
  have HA : Hid (∀ b ∈ chars.data.toList, b.toNat < 128) := hch
  clear hch
  have hemp : chars.toList.isEmpty = false := by
    rw [Lib.toList_data]
    cases h : chars.data.toList with
    | nil => have := Lib.size_eq chars; rw [h, List.length_nil] at this; omega
    | cons _ _ => rfl
  have hn1 : ((chars.size : Int) == 1) = false := beq_eq_false_iff_ne.2 (by omega)
  have h8z : decide ((8 : Int) < (s.size : Int)) = false := decide_eq_false (by omega)
  go_enter Try.func14, Try.ntmps14
  go_wp2_with (go_at_call 19; refine (shouldUse_any _ _).mono ?_; rintro e w' ⟨rfl, hw⟩; rw [hw, h8z])
  go_loopg [9, 10] s.size (fun g _ _ wx => ∃ i : Nat, i ≤ s.size ∧ s.size - i ≤ g ∧ wx.heap[w.heap.size]? = some (.stringIter s i) ∧ Below w.heap.size w wx ∧ Lib.NoAny s.data.toList chars.data.toList i)
  case atStart => exact ⟨0, by omega, by omega, World.iter_heap _ _ _, (Below.refl _ _).alloc (Nat.le_refl _) _, Lib.NoAny.zero _ _⟩
  case round =>
    obtain ⟨i, his, hig, hk, hb, hno⟩ := hrel
    have HN : Hid (Lib.NoAny s.data.toList chars.data.toList i) := hno
    clear hno
    have HK : Hid (wr.heap[w.heap.size]? = some (.stringIter s i)) := hk
    have hwx : w.heap.size < wr.heap.size := (Array.getElem?_eq_some_iff.1 hk).1
    clear hk
    by_cases hi : i < s.size
    · cases gk with
      | zero => omega
      | succ g =>
      have hnx := fun ty => Lib.run_next_any_at (P := Try.prog) wr w.heap.size s i ty HK.out hi
      obtain ⟨x, hx⟩ : ∃ x : UInt8, s[i]'hi = x := ⟨_, rfl⟩
      have Hx : Hid (s.data.toList[i]? = some x) := by rw [← hx]; exact Lib.data_getElem? s i hi
      have hb' : ∀ p, Below w.heap.size w (wr.iterAt w.heap.size s p) := fun p => Lib.below_iterAt hb (Nat.le_refl _) s p
      by_cases hlow : x.toNat < 128
      · rw [decode_ascii s i hi (by rw [hx]; exact hlow), hx] at hnx
        have HX : Hid (s[i]'hi = x) := hx
        clear hx
        have hcon := Lib.contains_iff_indexByte chars.data.toList x
        have hback : ((x.toNat : Int)).toNat.toUInt8 = x := by simp
        cases hin : chars.data.toList.contains x
        · rw [hin] at hcon
          have hlt : ¬ ((0 : Int) ≤ Lib.indexByte chars.data.toList x) := of_decide_eq_false hcon.symm
          clear hcon
          go_wp2_with (go_at_call 18; refine (indexRune_ascii _ _ _ (by omega) (by omega)).mono ?_; rintro e w' ⟨rfl, hw⟩; rw [hw, hback])
          go_roundg g
          case measure => omega
          case rel => exact ⟨i + 1, by omega, by omega, Lib.iterAt_heap _ _ _ _ _ HK.out, hb' _, HN.out.succ Hx.out hin⟩
        · rw [hin] at hcon
          have hge : (0 : Int) ≤ Lib.indexByte chars.data.toList x := of_decide_eq_true hcon.symm
          clear hcon
          go_wp2_with (go_at_call 18; refine (indexRune_ascii _ _ _ (by omega) (by omega)).mono ?_; rintro e w' ⟨rfl, hw⟩; rw [hw, hback])
          go_ret
          exact ⟨by rw [Lib.indexAny_hit HN.out Hx.out hin]; rfl, hb' _⟩
      · obtain ⟨d1, d2, d3, d4⟩ := decode_wide s i hi (by rw [hx]; omega)
        have HW : Hid (∀ j b, i ≤ j → j < i + (Utf8.decode s i).2 → s.data.toList[j]? = some b → 128 ≤ b.toNat) := d4
        clear d4
        obtain ⟨r, hr⟩ : ∃ r, (Utf8.decode s i).1 = r := ⟨_, rfl⟩
        obtain ⟨n, hn⟩ : ∃ n, (Utf8.decode s i).2 = n := ⟨_, rfl⟩
        rw [hr, hn] at hnx
        rw [hr] at d1
        rw [hn] at d2 d3 HW
        clear hr hn
        go_wp2_with (go_at_call 18; refine (indexRune_high _ _ _ (by omega) h4 HA.out).mono ?_; rintro e w' ⟨rfl, hw⟩)
        go_roundg g
        case measure => omega
        case rel => exact ⟨i + n, d3, by omega, by rw [hw.block _ (by rw [Lib.iterAt_size]; exact hwx)]; exact Lib.iterAt_heap _ _ _ _ _ HK.out, (hb' _).trans (hw.mono (by rw [Lib.iterAt_size]; omega)), noAny_wide HN.out HA.out HW.out⟩
    · obtain rfl : i = s.size := by omega
      have hnx := fun ty => Lib.run_next_end_at (P := Try.prog) wr w.heap.size s s.size ty HK.out hi
      go_wp2
      go_ret
      exact ⟨by rw [Lib.indexAny_none (by rw [← Lib.size_eq]; exact HN.out)]; rfl, hb⟩

end Go.Proofs.Qxb6001580a
