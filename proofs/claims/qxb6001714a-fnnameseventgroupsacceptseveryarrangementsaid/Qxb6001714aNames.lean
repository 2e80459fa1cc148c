/-
  SEAT b6001714a. namesEventGroups: THE WALK.
-/
import Derived.Test.Qxb6001714aRows
import Derived.Test.Qxb6001714aShelf
import Derived.WalkKit
import Derived.WalkSpells
import Derived.WalkLawsBesides
import Derived.Lib.ConvBytes
import Derived.Deep.LoopGhost
namespace Go.Proofs.Qxb6001714a
open Go.RowKit

/-- Whatever cell was there is there. -/
def Keeps (W W' : World) : Prop := ∀ p v, W.cell? p = some v → W'.cell? p = some v
theorem Keeps.refl (W : World) : Keeps W W := fun _ _ h => h
theorem Keeps.trans {a b c : World} (h : Keeps a b) (k : Keeps b c) : Keeps a c := fun p v e => k p v (h p v e)
theorem Keeps.bytes (W : World) (s : ByteArray) : Keeps W (Lib.bytesWorld W 5 s) := fun p v h => by
  rw [Lib.bytesWorld_old W 5 s p (World.block_lt_of_cell? W p h)]
  exact h
theorem Keeps.drewN (W : World) (q : Nat) : Keeps W (W.drewN q) := fun p v h => by simpa using h
theorem Keeps.alloc (W : World) (o : Obj) : Keeps W (W.alloc o) := fun p v h => by
  rw [World.cell?_alloc_lt (h := World.block_lt_of_cell? W p h)]
  exact h

/-- The bytes of a slice. -/
def LineAt (W : World) (a : Addr) (n : Nat) (xs : List Int) : Prop := ∀ i, i < n → W.cell? (a.add i) = some (.int .u8 (xs.getD i 0))
theorem LineAt.keeps {W W' : World} {a : Addr} {n : Nat} {xs : List Int} (h : LineAt W a n xs) (k : Keeps W W') : LineAt W' a n xs := fun i hi => k _ _ (h i hi)

/-- bytes.Contains of a line and of a separator that has just been made out of a string. -/
theorem contains_sep (a : Addr) (n c : Nat) (xs : List Int) (m : Int) (W : World) (sep : ByteArray) (hx : xs.length = n) (hr : ∀ x ∈ xs, 0 ≤ x ∧ x < 256) (hl : LineAt W a n xs) (hcap : n ≤ c) (hs : n < 4294967281) (hm : W.cell? ⟨0, 0, none⟩ = some (.int .i64 m)) (hk : sep.size ≤ 64) :
    Calls Try.prog 30 #[.slice (some a) n c, .slice (some ⟨W.heap.size, 0, none⟩) sep.size (grownCap W sep.size 0 5)] (Lib.bytesWorld W 5 sep) fun e w' => e = .returned (.bool (Lib.contains (Lib.bytesOf xs) sep.data.toList)) ∧ Keeps W w' ∧ Below W.heap.size W w' := by
  have hsz : sep.data.toList.length = sep.size := Array.length_toList
  have := Try.contains_at a ⟨W.heap.size, 0, none⟩ n c sep.size (grownCap W sep.size 0 5) xs (sep.data.toList.map fun b => (b.toNat : Int)) m (Lib.bytesWorld W 5 sep) hx (by rw [List.length_map, hsz]) hr
    (fun y hy => by
      obtain ⟨b, _, rfl⟩ := List.mem_map.1 hy
      have := b.toNat_lt
      omega)
    (hl.keeps (Keeps.bytes W sep))
    (fun i hi => by
      have := Lib.bytesWorld_cell W 5 sep i hi
      rw [Addr.add_lit, Nat.zero_add, this]
      have hi' : i < sep.data.toList.length := by omega
      simp only [List.getD, List.getElem?_map, List.getElem?_eq_getElem hi', Option.map_some, Option.getD_some])
    hcap hs (by omega) (Keeps.bytes W sep _ _ hm)
  have hb : Lib.bytesOf (sep.data.toList.map fun b => (b.toNat : Int)) = sep.data.toList := by
    simp [Lib.bytesOf, Function.comp_def]
  rw [hb] at this
  refine this.mono ?_
  rintro e w' ⟨rfl, q, rfl⟩
  refine ⟨rfl, (Keeps.bytes W sep).trans (Keeps.drewN _ q), below_drewN ⟨?_, ?_, ?_, ?_, ?_⟩ q⟩
  · rfl
  · rfl
  · rfl
  · rw [Lib.bytesWorld_size]; omega
  · exact fun k hk => Lib.bytesWorld_at_old W 5 sep k hk

def nameK : Nat → List UInt8
  | 0 => [104, 111, 115, 116]
  | 1 => [99, 108, 111, 99, 107]
  | _ => [101, 118, 101, 110, 116]

set_option maxHeartbeats 1000000 in
theorem names_walk (a : Addr) (n c : Nat) (xs : List Int) (m : Int) (w : World) (hx : xs.length = n) (hr : ∀ x ∈ xs, 0 ≤ x ∧ x < 256) (hl : LineAt w a n xs) (hcap : n ≤ c) (hs : n < 4294967281) (hm : w.cell? ⟨0, 0, none⟩ = some (.int .i64 m))
    (hin : ∀ k, k < 3 → Lib.contains (Lib.bytesOf xs) ([40, 63, 60] ++ nameK k ++ [62]) = true ∨ Lib.contains (Lib.bytesOf xs) ([40, 63, 80, 60] ++ nameK k ++ [62]) = true) :
    Calls Try.prog 26 #[.slice (some a) n c] w fun e w' => e = .returned (.bool true) ∧ Below w.heap.size w w' := by
  have HL : Hid (LineAt w a n xs) := hl
  have HR : Hid (∀ x ∈ xs, 0 ≤ x ∧ x < 256) := hr
  have HI : Hid (∀ k, k < 3 → Lib.contains (Lib.bytesOf xs) ([40, 63, 60] ++ nameK k ++ [62]) = true ∨ Lib.contains (Lib.bytesOf xs) ([40, 63, 80, 60] ++ nameK k ++ [62]) = true) := hin
  have HM : Hid (w.cell? ⟨0, 0, none⟩ = some (.int .i64 m)) := hm
  clear hl hr hin hm
  have kc : ∀ (W : World) (s : ByteArray), (convert 9 22 (.string s)).run Try.prog W = .ok (.slice (some ⟨W.heap.size, 0, none⟩) s.size (grownCap W s.size 0 5)) (Lib.bytesWorld W 5 s) := fun W s => Lib.run_convert_string_bytes W 9 22 5 s Try.underlying9 Try.underlying22 Try.underlying5
  go_enter Try.func26, Try.ntmps26
  go_wp2_with fail
  obtain ⟨w0, hw0⟩ : ∃ w0, w.alloc (.cells #[.string ⟨#[104, 111, 115, 116]⟩, .string ⟨#[99, 108, 111, 99, 107]⟩, .string ⟨#[101, 118, 101, 110, 116]⟩] 9) = w0 := ⟨_, rfl⟩
  have hk0 : Keeps w w0 := by rw [← hw0]; exact Keeps.alloc w _
  have hb0 : Below w.heap.size w w0 := by rw [← hw0]; exact (Below.refl _ _).alloc (Nat.le_refl _) _
  have c0 : w0.cell? ⟨w.heap.size, 0, none⟩ = some (.string ⟨#[104, 111, 115, 116]⟩) := by rw [← hw0, World.cell?_alloc_at _ _ _ _ rfl]; rfl
  have c1 : w0.cell? ⟨w.heap.size, 1, none⟩ = some (.string ⟨#[99, 108, 111, 99, 107]⟩) := by rw [← hw0, World.cell?_alloc_at _ _ _ _ rfl]; rfl
  have c2 : w0.cell? ⟨w.heap.size, 2, none⟩ = some (.string ⟨#[101, 118, 101, 110, 116]⟩) := by rw [← hw0, World.cell?_alloc_at _ _ _ _ rfl]; rfl
  rw [hw0]
  clear hw0
  have HK0 : Hid (Keeps w w0) := hk0
  have HC : Hid (w0.cell? ⟨w.heap.size, 0, none⟩ = some (.string ⟨#[104, 111, 115, 116]⟩) ∧ w0.cell? ⟨w.heap.size, 1, none⟩ = some (.string ⟨#[99, 108, 111, 99, 107]⟩) ∧ w0.cell? ⟨w.heap.size, 2, none⟩ = some (.string ⟨#[101, 118, 101, 110, 116]⟩)) := ⟨c0, c1, c2⟩
  clear hk0 c0 c1 c2
  go_loopw [7] (fun i wr => ∃ k : Nat, k ≤ 3 ∧ i = .int .i64 k ∧ Hid (Keeps w0 wr) ∧ Below w.heap.size w wr) (fun i _ => 3 - (intOf i).toNat)
  case atStart => exact ⟨0, by omega, rfl, Keeps.refl _, hb0⟩
  case round =>
    obtain ⟨k, hk3, rfl, HK, hb⟩ := hrel
    have HLr : Hid (LineAt wr a n xs) := HL.out.keeps (HK0.out.trans HK.out)
    have HMr : Hid (wr.cell? ⟨0, 0, none⟩ = some (.int .i64 m)) := HK.out _ _ (HK0.out _ _ HM.out)
    rcases (by omega : k = 3 ∨ k = 0 ∨ k = 1 ∨ k = 2) with rfl | rfl | rfl | rfl
    · go_wp2
      go_ret
      exact ⟨rfl, hb⟩
    · have hcell : wr.cell? ⟨w.heap.size, 0, none⟩ = some (.string ⟨#[104, 111, 115, 116]⟩) := HK.out _ _ HC.out.1
      have e1 : (⟨#[40, 63, 60]⟩ ++ ⟨#[104, 111, 115, 116]⟩ ++ ⟨#[62]⟩ : ByteArray) = ⟨#[40, 63, 60, 104, 111, 115, 116, 62]⟩ := by decide +kernel
      have e2 : (⟨#[40, 63, 80, 60]⟩ ++ ⟨#[104, 111, 115, 116]⟩ ++ ⟨#[62]⟩ : ByteArray) = ⟨#[40, 63, 80, 60, 104, 111, 115, 116, 62]⟩ := by decide +kernel
      have hc1 := contains_sep a n c xs m wr ⟨#[40, 63, 60, 104, 111, 115, 116, 62]⟩ hx HR.out HLr.out hcap hs HMr.out (by decide)
      have hor := HI.out 0 (by omega)
      cases hb1 : Lib.contains (Lib.bytesOf xs) ([40, 63, 60] ++ nameK 0 ++ [62])
      · have hb2 : Lib.contains (Lib.bytesOf xs) ([40, 63, 80, 60] ++ nameK 0 ++ [62]) = true := hor.resolve_left (by rw [hb1]; decide)
        have H1 : Hid (Calls Try.prog 30 #[.slice (some a) n c, .slice (some ⟨wr.heap.size, 0, none⟩) 8 (grownCap wr 8 0 5)] (Lib.bytesWorld wr 5 ⟨#[40, 63, 60, 104, 111, 115, 116, 62]⟩) fun e w' => e = .returned (.bool false) ∧ Keeps wr w' ∧ Below wr.heap.size wr w') := by
          rw [← hb1]; exact hc1
        have HB2 : Hid (Lib.contains (Lib.bytesOf xs) ([40, 63, 80, 60] ++ nameK 0 ++ [62]) = true) := hb2
        clear hor hb1 hb2 hc1
        go_wp2_with fail
        refine H1.out.mono ?_
        rintro e w1 ⟨rfl, hk1, hb1⟩
        have H2 : Hid (Calls Try.prog 30 #[.slice (some a) n c, .slice (some ⟨w1.heap.size, 0, none⟩) 9 (grownCap w1 9 0 5)] (Lib.bytesWorld w1 5 ⟨#[40, 63, 80, 60, 104, 111, 115, 116, 62]⟩) fun e w' => e = .returned (.bool true) ∧ Keeps w1 w' ∧ Below w1.heap.size w1 w') := by
          rw [← HB2.out]; exact contains_sep a n c xs m w1 ⟨#[40, 63, 80, 60, 104, 111, 115, 116, 62]⟩ hx HR.out (HLr.out.keeps hk1) hcap hs (hk1 _ _ HMr.out) (by decide)
        have HK1 : Hid (Keeps wr w1) := hk1
        clear hk1
        go_wp2_with fail
        refine H2.out.mono ?_
        rintro e w2 ⟨rfl, hk2, hb2⟩
        have HK2 : Hid (Keeps w1 w2) := hk2
        clear hk2
        go_wp2_with fail
        go_roundw
        case rel => exact ⟨1, by omega, by go_num, HK.out.trans (HK1.out.trans HK2.out), hb.trans ((hb1.trans (hb2.mono hb1.size)).mono hb.size)⟩
        case measure => simp [intOf]
      · have H1 : Hid (Calls Try.prog 30 #[.slice (some a) n c, .slice (some ⟨wr.heap.size, 0, none⟩) 8 (grownCap wr 8 0 5)] (Lib.bytesWorld wr 5 ⟨#[40, 63, 60, 104, 111, 115, 116, 62]⟩) fun e w' => e = .returned (.bool true) ∧ Keeps wr w' ∧ Below wr.heap.size wr w') := by
          rw [← hb1]; exact hc1
        clear hor hb1 hc1
        go_wp2_with fail
        refine H1.out.mono ?_
        rintro e w1 ⟨rfl, hk1, hb1⟩
        have HK1 : Hid (Keeps wr w1) := hk1
        clear hk1
        go_wp2_with fail
        go_roundw
        case rel => exact ⟨1, by omega, by go_num, HK.out.trans HK1.out, hb.trans (hb1.mono hb.size)⟩
        case measure => simp [intOf]
    · have hcell : wr.cell? ⟨w.heap.size, 1, none⟩ = some (.string ⟨#[99, 108, 111, 99, 107]⟩) := HK.out _ _ HC.out.2.1
      have e1 : (⟨#[40, 63, 60]⟩ ++ ⟨#[99, 108, 111, 99, 107]⟩ ++ ⟨#[62]⟩ : ByteArray) = ⟨#[40, 63, 60, 99, 108, 111, 99, 107, 62]⟩ := by decide +kernel
      have e2 : (⟨#[40, 63, 80, 60]⟩ ++ ⟨#[99, 108, 111, 99, 107]⟩ ++ ⟨#[62]⟩ : ByteArray) = ⟨#[40, 63, 80, 60, 99, 108, 111, 99, 107, 62]⟩ := by decide +kernel
      have hc1 := contains_sep a n c xs m wr ⟨#[40, 63, 60, 99, 108, 111, 99, 107, 62]⟩ hx HR.out HLr.out hcap hs HMr.out (by decide)
      have hor := HI.out 1 (by omega)
      cases hb1 : Lib.contains (Lib.bytesOf xs) ([40, 63, 60] ++ nameK 1 ++ [62])
      · have hb2 : Lib.contains (Lib.bytesOf xs) ([40, 63, 80, 60] ++ nameK 1 ++ [62]) = true := hor.resolve_left (by rw [hb1]; decide)
        have H1 : Hid (Calls Try.prog 30 #[.slice (some a) n c, .slice (some ⟨wr.heap.size, 0, none⟩) 9 (grownCap wr 9 0 5)] (Lib.bytesWorld wr 5 ⟨#[40, 63, 60, 99, 108, 111, 99, 107, 62]⟩) fun e w' => e = .returned (.bool false) ∧ Keeps wr w' ∧ Below wr.heap.size wr w') := by
          rw [← hb1]; exact hc1
        have HB2 : Hid (Lib.contains (Lib.bytesOf xs) ([40, 63, 80, 60] ++ nameK 1 ++ [62]) = true) := hb2
        clear hor hb1 hb2 hc1
        go_wp2_with fail
        refine H1.out.mono ?_
        rintro e w1 ⟨rfl, hk1, hb1⟩
        have H2 : Hid (Calls Try.prog 30 #[.slice (some a) n c, .slice (some ⟨w1.heap.size, 0, none⟩) 10 (grownCap w1 10 0 5)] (Lib.bytesWorld w1 5 ⟨#[40, 63, 80, 60, 99, 108, 111, 99, 107, 62]⟩) fun e w' => e = .returned (.bool true) ∧ Keeps w1 w' ∧ Below w1.heap.size w1 w') := by
          rw [← HB2.out]; exact contains_sep a n c xs m w1 ⟨#[40, 63, 80, 60, 99, 108, 111, 99, 107, 62]⟩ hx HR.out (HLr.out.keeps hk1) hcap hs (hk1 _ _ HMr.out) (by decide)
        have HK1 : Hid (Keeps wr w1) := hk1
        clear hk1
        go_wp2_with fail
        refine H2.out.mono ?_
        rintro e w2 ⟨rfl, hk2, hb2⟩
        have HK2 : Hid (Keeps w1 w2) := hk2
        clear hk2
        go_wp2_with fail
        go_roundw
        case rel => exact ⟨2, by omega, by go_num, HK.out.trans (HK1.out.trans HK2.out), hb.trans ((hb1.trans (hb2.mono hb1.size)).mono hb.size)⟩
        case measure => simp [intOf]
      · have H1 : Hid (Calls Try.prog 30 #[.slice (some a) n c, .slice (some ⟨wr.heap.size, 0, none⟩) 9 (grownCap wr 9 0 5)] (Lib.bytesWorld wr 5 ⟨#[40, 63, 60, 99, 108, 111, 99, 107, 62]⟩) fun e w' => e = .returned (.bool true) ∧ Keeps wr w' ∧ Below wr.heap.size wr w') := by
          rw [← hb1]; exact hc1
        clear hor hb1 hc1
        go_wp2_with fail
        refine H1.out.mono ?_
        rintro e w1 ⟨rfl, hk1, hb1⟩
        have HK1 : Hid (Keeps wr w1) := hk1
        clear hk1
        go_wp2_with fail
        go_roundw
        case rel => exact ⟨2, by omega, by go_num, HK.out.trans HK1.out, hb.trans (hb1.mono hb.size)⟩
        case measure => simp [intOf]
    · have hcell : wr.cell? ⟨w.heap.size, 2, none⟩ = some (.string ⟨#[101, 118, 101, 110, 116]⟩) := HK.out _ _ HC.out.2.2
      have e1 : (⟨#[40, 63, 60]⟩ ++ ⟨#[101, 118, 101, 110, 116]⟩ ++ ⟨#[62]⟩ : ByteArray) = ⟨#[40, 63, 60, 101, 118, 101, 110, 116, 62]⟩ := by decide +kernel
      have e2 : (⟨#[40, 63, 80, 60]⟩ ++ ⟨#[101, 118, 101, 110, 116]⟩ ++ ⟨#[62]⟩ : ByteArray) = ⟨#[40, 63, 80, 60, 101, 118, 101, 110, 116, 62]⟩ := by decide +kernel
      have hc1 := contains_sep a n c xs m wr ⟨#[40, 63, 60, 101, 118, 101, 110, 116, 62]⟩ hx HR.out HLr.out hcap hs HMr.out (by decide)
      have hor := HI.out 2 (by omega)
      cases hb1 : Lib.contains (Lib.bytesOf xs) ([40, 63, 60] ++ nameK 2 ++ [62])
      · have hb2 : Lib.contains (Lib.bytesOf xs) ([40, 63, 80, 60] ++ nameK 2 ++ [62]) = true := hor.resolve_left (by rw [hb1]; decide)
        have H1 : Hid (Calls Try.prog 30 #[.slice (some a) n c, .slice (some ⟨wr.heap.size, 0, none⟩) 9 (grownCap wr 9 0 5)] (Lib.bytesWorld wr 5 ⟨#[40, 63, 60, 101, 118, 101, 110, 116, 62]⟩) fun e w' => e = .returned (.bool false) ∧ Keeps wr w' ∧ Below wr.heap.size wr w') := by
          rw [← hb1]; exact hc1
        have HB2 : Hid (Lib.contains (Lib.bytesOf xs) ([40, 63, 80, 60] ++ nameK 2 ++ [62]) = true) := hb2
        clear hor hb1 hb2 hc1
        go_wp2_with fail
        refine H1.out.mono ?_
        rintro e w1 ⟨rfl, hk1, hb1⟩
        have H2 : Hid (Calls Try.prog 30 #[.slice (some a) n c, .slice (some ⟨w1.heap.size, 0, none⟩) 10 (grownCap w1 10 0 5)] (Lib.bytesWorld w1 5 ⟨#[40, 63, 80, 60, 101, 118, 101, 110, 116, 62]⟩) fun e w' => e = .returned (.bool true) ∧ Keeps w1 w' ∧ Below w1.heap.size w1 w') := by
          rw [← HB2.out]; exact contains_sep a n c xs m w1 ⟨#[40, 63, 80, 60, 101, 118, 101, 110, 116, 62]⟩ hx HR.out (HLr.out.keeps hk1) hcap hs (hk1 _ _ HMr.out) (by decide)
        have HK1 : Hid (Keeps wr w1) := hk1
        clear hk1
        go_wp2_with fail
        refine H2.out.mono ?_
        rintro e w2 ⟨rfl, hk2, hb2⟩
        have HK2 : Hid (Keeps w1 w2) := hk2
        clear hk2
        go_wp2_with fail
        go_roundw
        case rel => exact ⟨3, by omega, by go_num, HK.out.trans (HK1.out.trans HK2.out), hb.trans ((hb1.trans (hb2.mono hb1.size)).mono hb.size)⟩
        case measure => simp [intOf]
      · have H1 : Hid (Calls Try.prog 30 #[.slice (some a) n c, .slice (some ⟨wr.heap.size, 0, none⟩) 9 (grownCap wr 9 0 5)] (Lib.bytesWorld wr 5 ⟨#[40, 63, 60, 101, 118, 101, 110, 116, 62]⟩) fun e w' => e = .returned (.bool true) ∧ Keeps wr w' ∧ Below wr.heap.size wr w') := by
          rw [← hb1]; exact hc1
        clear hor hb1 hc1
        go_wp2_with fail
        refine H1.out.mono ?_
        rintro e w1 ⟨rfl, hk1, hb1⟩
        have HK1 : Hid (Keeps wr w1) := hk1
        clear hk1
        go_wp2_with fail
        go_roundw
        case rel => exact ⟨3, by omega, by go_num, HK.out.trans HK1.out, hb.trans (hb1.mono hb.size)⟩
        case measure => simp [intOf]

end Go.Proofs.Qxb6001714a
