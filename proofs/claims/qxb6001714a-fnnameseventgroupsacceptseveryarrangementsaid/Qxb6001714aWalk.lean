/-
  SEAT b6001714a. THE WALK of the law FnNamesEventGroupsAcceptsEveryArrangement.
-/
import Derived.Test.Qxb6001714aPlain
namespace Go.Proofs.Qxb6001714a
open Go.RowKit
set_option linter.unusedSimpArgs false

theorem SrcAt.below {w w' : World} {p : Option Addr} {m c : Nat} {ys : List Int} (h : SrcAt w p m c ys) (b : Below w.heap.size w w') : SrcAt w' p m c ys := by
  refine ⟨h.1, ?_⟩
  rcases h.2 with h2 | ⟨ad, h2, h3⟩
  · exact .inl h2
  · refine .inr ⟨ad, h2, fun i hi => ?_⟩
    have := h3 i hi
    rw [b.cell (World.block_lt_of_cell? w _ this)]
    exact this

theorem mine_line {B : Nat} {w : World} {v : Value} {l : List Int} (h : Mine B w v l) (hne : l ≠ []) : ∃ g cap, v = .slice (some ⟨g, 0, none⟩) l.length cap ∧ l.length ≤ cap ∧ LineAt w ⟨g, 0, none⟩ l.length l := by
  have hcells := fun {g : Nat} (hg : v.ownBlock = some g) => World.ownsRow.cells h hg
  rcases h.2 with ⟨_, h2⟩ | ⟨g, cap, cur, hv, _, _, hc, _⟩
  · exact absurd (List.length_eq_zero_iff.1 h2) hne
  · refine ⟨g, cap, hv, hc, fun i hi => ?_⟩
    have := hcells (g := g) (by rw [hv]; rfl) i (.int .u8 (l.getD i 0)) (by
      rw [List.getElem?_map, List.getElem?_eq_getElem hi]
      simp [List.getD, hi])
    exact this

theorem zz_names (v : Value) (B : Nat) (l : List Int) (m : Int) (w : World) (hv : Mine B w v l) (hne : l ≠ []) (hr : ∀ x ∈ l, 0 ≤ x ∧ x < 256) (hs : l.length < 4294967281) (hm : w.cell? ⟨0, 0, none⟩ = some (.int .i64 m))
    (hin : ∀ k, k < 3 → Lib.contains (Lib.bytesOf l) ([40, 63, 60] ++ nameK k ++ [62]) = true ∨ Lib.contains (Lib.bytesOf l) ([40, 63, 80, 60] ++ nameK k ++ [62]) = true) :
    Calls Try.prog 12 #[v] w fun e w' => e = .returned (.bool true) ∧ Below w.heap.size w w' := by
  obtain ⟨g, cap, rfl, hc, hl⟩ := mine_line hv hne
  have hw := fun w (hl : LineAt w ⟨g, 0, none⟩ l.length l) (hm : w.cell? ⟨0, 0, none⟩ = some (.int .i64 m)) => names_walk ⟨g, 0, none⟩ l.length cap l m w rfl hr hl hc hs hm hin
  have H := hw w hl hm
  clear hw hl hm hin hr
  go_enter Try.func12, Try.ntmps12
  go_wp2_with (go_at_call 26; refine H.mono ?_; rintro e w' ⟨rfl, hb⟩)
  go_ret
  exact ⟨rfl, hb⟩

section
variable (p0 p1 p2 p3 : Option Addr) (n0 c0 n1 c1 n2 c2 n3 c3 : Nat) (a : Int) (x y z : Bool) (w : World) (g0 : n0 ≤ maxLen) (g1 : n1 ≤ maxLen) (g2 : n2 ≤ maxLen) (g3 : n3 ≤ maxLen)

set_option maxHeartbeats 1000000 in
theorem early0 (hf : fits n0 n1 n2 n3 = false) (g0 : n0 ≤ maxLen) (g1 : n1 ≤ maxLen) (g2 : n2 ≤ maxLen) (g3 : n3 ≤ maxLen) :
    Calls Try.prog 4 #[.slice p0 n0 c0, .slice p1 n1 c1, .slice p2 n2 c2, .slice p3 n3 c3, .int .i64 a, .bool x, .bool y, .bool z] w fun e w' => e = .returned (.bool true) ∧ Below w.heap.size w w' := by
  have hb := bytes_any p0 p1 p2 p3 n0 c0 n1 c1 n2 c2 n3 c3 a x y z w g0 g1 g2 g3
  rw [hf] at hb
  go_enter Try.func4, Try.ntmps4
  go_wp2_with (go_at_call 13; refine hb.mono ?_; rintro e w' ⟨rfl, hw⟩; rw [hw])
  go_ret
  exact ⟨rfl, Below.refl _ _⟩

set_option maxHeartbeats 2000000 in
theorem early1 (hf : n0 + n1 + n2 + n3 ≤ 1048576) (h : 262144 < n0 ∨ 262144 < n1 ∨ 262144 < n2 ∨ 262144 < n3 ∨ a < 0 ∨ 5 < a) :
    Calls Try.prog 4 #[.slice p0 n0 c0, .slice p1 n1 c1, .slice p2 n2 c2, .slice p3 n3 c3, .int .i64 a, .bool x, .bool y, .bool z] w fun e w' => e = .returned (.bool true) ∧ Below w.heap.size w w' := by
  have hb := bytes_any p0 p1 p2 p3 n0 c0 n1 c1 n2 c2 n3 c3 a x y z w (by unfold maxLen; omega) (by unfold maxLen; omega) (by unfold maxLen; omega) (by unfold maxLen; omega)
  rw [show fits n0 n1 n2 n3 = true from decide_eq_true hf] at hb
  by_cases h0 : 262144 < n0
  · go_enter Try.func4, Try.ntmps4
    go_wp2_with (go_at_call 13; refine hb.mono ?_; rintro e w' ⟨rfl, hw⟩; rw [hw])
    go_ret
    exact ⟨rfl, Below.refl _ _⟩
  by_cases h1 : 262144 < n1
  · go_enter Try.func4, Try.ntmps4
    go_wp2_with (go_at_call 13; refine hb.mono ?_; rintro e w' ⟨rfl, hw⟩; rw [hw])
    go_ret
    exact ⟨rfl, Below.refl _ _⟩
  by_cases h2 : 262144 < n2
  · go_enter Try.func4, Try.ntmps4
    go_wp2_with (go_at_call 13; refine hb.mono ?_; rintro e w' ⟨rfl, hw⟩; rw [hw])
    go_ret
    exact ⟨rfl, Below.refl _ _⟩
  by_cases h3 : 262144 < n3
  · go_enter Try.func4, Try.ntmps4
    go_wp2_with (go_at_call 13; refine hb.mono ?_; rintro e w' ⟨rfl, hw⟩; rw [hw])
    go_ret
    exact ⟨rfl, Below.refl _ _⟩
  by_cases h4 : a < 0
  · have h4' : decide (a < 0) = true := decide_eq_true h4
    go_enter Try.func4, Try.ntmps4
    go_wp2_with (go_at_call 13; refine hb.mono ?_; rintro e w' ⟨rfl, hw⟩; rw [hw])
    go_ret
    exact ⟨rfl, Below.refl _ _⟩
  · have h4' : decide (a < 0) = false := decide_eq_false h4
    have h5 : 5 < a := by omega
    go_enter Try.func4, Try.ntmps4
    go_wp2_with (go_at_call 13; refine hb.mono ?_; rintro e w' ⟨rfl, hw⟩; rw [hw])
    go_ret
    exact ⟨rfl, Below.refl _ _⟩

set_option maxHeartbeats 2000000 in
theorem main_walk (y0 y1 y2 y3 : List Int) (m : Int) (hf : n0 + n1 + n2 + n3 ≤ 1048576) (h0 : ¬ 262144 < n0) (h1 : ¬ 262144 < n1) (h2 : ¬ 262144 < n2) (h3 : ¬ 262144 < n3) (h4 : 0 ≤ a) (h5 : a ≤ 5)
    (s0 : SrcAt w p0 n0 c0 y0) (s1 : SrcAt w p1 n1 c1 y1) (s2 : SrcAt w p2 n2 c2 y2) (s3 : SrcAt w p3 n3 c3 y3) (r0 : ∀ x ∈ y0, 0 ≤ x ∧ x < 256) (r1 : ∀ x ∈ y1, 0 ≤ x ∧ x < 256) (r2 : ∀ x ∈ y2, 0 ≤ x ∧ x < 256) (r3 : ∀ x ∈ y3, 0 ≤ x ∧ x < 256)
    (hm : w.cell? ⟨0, 0, none⟩ = some (.int .i64 m)) :
    Calls Try.prog 4 #[.slice p0 n0 c0, .slice p1 n1 c1, .slice p2 n2 c2, .slice p3 n3 c3, .int .i64 a, .bool x, .bool y, .bool z] w fun e w' => e = .returned (.bool true) ∧ Below w.heap.size w w' := by
  have hb := bytes_any p0 p1 p2 p3 n0 c0 n1 c1 n2 c2 n3 c3 a x y z w (by unfold maxLen; omega) (by unfold maxLen; omega) (by unfold maxLen; omega) (by unfold maxLen; omega)
  rw [show fits n0 n1 n2 n3 = true from decide_eq_true hf] at hb
  have h4' : decide (a < 0) = false := decide_eq_false (by omega)
  have h5' : ¬ 5 < a := by omega
  have L0 := s0.1
  have L1 := s1.1
  have L2 := s2.1
  have L3 := s3.1
  have q0 := nm_length a 0
  have q1 := nm_length a 1
  have q2 := nm_length a 2
  have S0 : Hid (SrcAt w p0 n0 c0 y0) := s0
  have S1 : Hid (SrcAt w p1 n1 c1 y1) := s1
  have S2 : Hid (SrcAt w p2 n2 c2 y2) := s2
  have S3 : Hid (SrcAt w p3 n3 c3 y3) := s3
  have HM : Hid (w.cell? ⟨0, 0, none⟩ = some (.int .i64 m)) := hm
  have HR : Hid ((∀ x ∈ y0, 0 ≤ x ∧ x < 256) ∧ (∀ x ∈ y1, 0 ≤ x ∧ x < 256) ∧ (∀ x ∈ y2, 0 ≤ x ∧ x < 256) ∧ (∀ x ∈ y3, 0 ≤ x ∧ x < 256)) := ⟨r0, r1, r2, r3⟩
  have HL : Hid (y0.length = n0 ∧ y1.length = n1 ∧ y2.length = n2 ∧ y3.length = n3) := ⟨L0, L1, L2, L3⟩
  clear s0 s1 s2 s3 hm r0 r1 r2 r3 L0 L1 L2 L3
  obtain ⟨i0, hi, hz0, hz1, hz2⟩ := info_parts Try.info5
  go_enter Try.func4, Try.ntmps4
  go_wp2_with (first
    | (go_at_call 13; refine hb.mono ?_; rintro e w' ⟨rfl, hw⟩; rw [hw])
    | (at_make; refine wpList_make_own _ rfl _ _ 22 rfl w.heap.size 5 i0 (.int .u8 0) 1 Try.underlying22 hi hz0 hz1 .i64 .i64 _ (n0 + n1 + n2 + n3 + 32) rfl rfl ?e1 ?e2 ?e3 ?e4 ?_))
  case e1 => omega
  case e2 => rw [hz2]; omega
  case e3 => unfold maxLen; omega
  case e4 => exact Nat.le_refl _
  intro w0 hown0 hgrow0
  have M0 : Hid (Mine w.heap.size w0 (.slice (some ⟨w.heap.size, 0, none⟩) 0 (n0 + n1 + n2 + n3 + 32)) []) := hown0
  have b0 : Below w.heap.size w w0 := (Below.refl _ _).grown hgrow0 (Nat.le_refl _) (fun k e => by cases e)
  clear hown0 hgrow0
  go_wp2_with (at_builtin; refine wp_app _ rfl (.tmp 59) (.tmp 60) rfl w.heap.size _ (([] : List Int)) rfl M0.out p0 n0 c0 y0 rfl (S0.out.below b0) ?_ ?_ ?_)
  · obtain ⟨L0, L1, L2, L3⟩ := HL.out
    have t0 := openL_length (nm a 0) x
    have t1 := openL_length (nm a 1) y
    have t2 := openL_length (nm a 2) z
    simp only [List.length_append, List.length_nil, L0, L1, L2]
    omega
  · exact b0.size
  intro v1 w1 m1 d1
  have M1 : Hid (Mine w.heap.size w1 v1 (([] : List Int) ++ y0)) := by
    show Mine w.heap.size w1 v1 (([] : List Int) ++ y0)
    simpa only [List.nil_append, List.append_assoc] using m1
  have b1 : Below w.heap.size w w1 := b0.trans d1
  clear m1 d1
  have O2 := fun hh => open_any w.heap.size v1 (([] : List Int) ++ y0) (gname (pick a 0)) x w1 M1.out b1.size hh (by have := gname_size (pick a 0); omega)
  have P2 := permPick_any a 0 w1 h4 h5 (.inl rfl)
  have G2 := groupName_any (pick a 0) w1
  go_wp2_with (first
    | (go_at_call 16; refine P2.mono ?_; rintro e w' ⟨rfl, hw⟩; rw [hw])
    | (go_at_call 15; refine G2.mono ?_; rintro e w' ⟨rfl, hw⟩; rw [hw])
    | (go_at_call 14; refine (O2 ?_).mono ?_))
  · obtain ⟨L0, L1, L2, L3⟩ := HL.out
    have t0 := openL_length (nm a 0) x
    have t1 := openL_length (nm a 1) y
    have t2 := openL_length (nm a 2) z
    simp only [List.length_append, List.length_nil, L0, L1, L2]
    omega
  rintro e w2 ⟨v2, rfl, m2, d2⟩
  have M2 : Hid (Mine w.heap.size w2 v2 (([] : List Int) ++ y0 ++ openL (nm a 0) x)) := m2
  have b2 : Below w.heap.size w w2 := b1.trans d2
  clear m2 d2 O2 P2 G2
  go_wp2_with (at_builtin; refine wp_app _ rfl (.tmp 68) (.tmp 69) rfl w.heap.size _ (([] : List Int) ++ y0 ++ openL (nm a 0) x) rfl M2.out p1 n1 c1 y1 rfl (S1.out.below b2) ?_ ?_ ?_)
  · obtain ⟨L0, L1, L2, L3⟩ := HL.out
    have t0 := openL_length (nm a 0) x
    have t1 := openL_length (nm a 1) y
    have t2 := openL_length (nm a 2) z
    simp only [List.length_append, List.length_nil, L0, L1, L2]
    omega
  · exact b2.size
  intro v3 w3 m3 d3
  have M3 : Hid (Mine w.heap.size w3 v3 (([] : List Int) ++ y0 ++ openL (nm a 0) x ++ y1)) := by
    show Mine w.heap.size w3 v3 (([] : List Int) ++ y0 ++ openL (nm a 0) x ++ y1)
    simpa only [List.nil_append, List.append_assoc] using m3
  have b3 : Below w.heap.size w w3 := b2.trans d3
  clear m3 d3
  have O4 := fun hh => open_any w.heap.size v3 (([] : List Int) ++ y0 ++ openL (nm a 0) x ++ y1) (gname (pick a 1)) y w3 M3.out b3.size hh (by have := gname_size (pick a 1); omega)
  have P4 := permPick_any a 1 w3 h4 h5 (.inr (.inl rfl))
  have G4 := groupName_any (pick a 1) w3
  go_wp2_with (first
    | (go_at_call 16; refine P4.mono ?_; rintro e w' ⟨rfl, hw⟩; rw [hw])
    | (go_at_call 15; refine G4.mono ?_; rintro e w' ⟨rfl, hw⟩; rw [hw])
    | (go_at_call 14; refine (O4 ?_).mono ?_))
  · obtain ⟨L0, L1, L2, L3⟩ := HL.out
    have t0 := openL_length (nm a 0) x
    have t1 := openL_length (nm a 1) y
    have t2 := openL_length (nm a 2) z
    simp only [List.length_append, List.length_nil, L0, L1, L2]
    omega
  rintro e w4 ⟨v4, rfl, m4, d4⟩
  have M4 : Hid (Mine w.heap.size w4 v4 (([] : List Int) ++ y0 ++ openL (nm a 0) x ++ y1 ++ openL (nm a 1) y)) := m4
  have b4 : Below w.heap.size w w4 := b3.trans d4
  clear m4 d4 O4 P4 G4
  go_wp2_with (at_builtin; refine wp_app _ rfl (.tmp 77) (.tmp 78) rfl w.heap.size _ (([] : List Int) ++ y0 ++ openL (nm a 0) x ++ y1 ++ openL (nm a 1) y) rfl M4.out p2 n2 c2 y2 rfl (S2.out.below b4) ?_ ?_ ?_)
  · obtain ⟨L0, L1, L2, L3⟩ := HL.out
    have t0 := openL_length (nm a 0) x
    have t1 := openL_length (nm a 1) y
    have t2 := openL_length (nm a 2) z
    simp only [List.length_append, List.length_nil, L0, L1, L2]
    omega
  · exact b4.size
  intro v5 w5 m5 d5
  have M5 : Hid (Mine w.heap.size w5 v5 (([] : List Int) ++ y0 ++ openL (nm a 0) x ++ y1 ++ openL (nm a 1) y ++ y2)) := by
    show Mine w.heap.size w5 v5 (([] : List Int) ++ y0 ++ openL (nm a 0) x ++ y1 ++ openL (nm a 1) y ++ y2)
    simpa only [List.nil_append, List.append_assoc] using m5
  have b5 : Below w.heap.size w w5 := b4.trans d5
  clear m5 d5
  have O6 := fun hh => open_any w.heap.size v5 (([] : List Int) ++ y0 ++ openL (nm a 0) x ++ y1 ++ openL (nm a 1) y ++ y2) (gname (pick a 2)) z w5 M5.out b5.size hh (by have := gname_size (pick a 2); omega)
  have P6 := permPick_any a 2 w5 h4 h5 (.inr (.inr rfl))
  have G6 := groupName_any (pick a 2) w5
  go_wp2_with (first
    | (go_at_call 16; refine P6.mono ?_; rintro e w' ⟨rfl, hw⟩; rw [hw])
    | (go_at_call 15; refine G6.mono ?_; rintro e w' ⟨rfl, hw⟩; rw [hw])
    | (go_at_call 14; refine (O6 ?_).mono ?_))
  · obtain ⟨L0, L1, L2, L3⟩ := HL.out
    have t0 := openL_length (nm a 0) x
    have t1 := openL_length (nm a 1) y
    have t2 := openL_length (nm a 2) z
    simp only [List.length_append, List.length_nil, L0, L1, L2]
    omega
  rintro e w6 ⟨v6, rfl, m6, d6⟩
  have M6 : Hid (Mine w.heap.size w6 v6 (([] : List Int) ++ y0 ++ openL (nm a 0) x ++ y1 ++ openL (nm a 1) y ++ y2 ++ openL (nm a 2) z)) := m6
  have b6 : Below w.heap.size w w6 := b5.trans d6
  clear m6 d6 O6 P6 G6
  go_wp2_with (at_builtin; refine wp_app _ rfl (.tmp 86) (.tmp 87) rfl w.heap.size _ (([] : List Int) ++ y0 ++ openL (nm a 0) x ++ y1 ++ openL (nm a 1) y ++ y2 ++ openL (nm a 2) z) rfl M6.out p3 n3 c3 y3 rfl (S3.out.below b6) ?_ ?_ ?_)
  · obtain ⟨L0, L1, L2, L3⟩ := HL.out
    have t0 := openL_length (nm a 0) x
    have t1 := openL_length (nm a 1) y
    have t2 := openL_length (nm a 2) z
    simp only [List.length_append, List.length_nil, L0, L1, L2]
    omega
  · exact b6.size
  intro v7 w7 m7 d7
  have M7 : Hid (Mine w.heap.size w7 v7 (([] : List Int) ++ y0 ++ openL (nm a 0) x ++ y1 ++ openL (nm a 1) y ++ y2 ++ openL (nm a 2) z ++ y3)) := by
    show Mine w.heap.size w7 v7 (([] : List Int) ++ y0 ++ openL (nm a 0) x ++ y1 ++ openL (nm a 1) y ++ y2 ++ openL (nm a 2) z ++ y3)
    simpa only [List.nil_append, List.append_assoc] using m7
  have b7 : Below w.heap.size w w7 := b6.trans d7
  clear m7 d7
  have HN : ∀ k, k < 3 → Lib.contains (Lib.bytesOf (([] : List Int) ++ y0 ++ openL (nm a 0) x ++ y1 ++ openL (nm a 1) y ++ y2 ++ openL (nm a 2) z ++ y3)) ([40, 63, 60] ++ nameK k ++ [62]) = true ∨ Lib.contains (Lib.bytesOf (([] : List Int) ++ y0 ++ openL (nm a 0) x ++ y1 ++ openL (nm a 1) y ++ y2 ++ openL (nm a 2) z ++ y3)) ([40, 63, 80, 60] ++ nameK k ++ [62]) = true := fun k hk => by
    have := line_names a h4 h5 y0 y1 y2 y3 x y z k hk
    simpa only [List.nil_append] using this
  have HB : ∀ u ∈ (([] : List Int) ++ y0 ++ openL (nm a 0) x ++ y1 ++ openL (nm a 1) y ++ y2 ++ openL (nm a 2) z ++ y3), 0 ≤ u ∧ u < 256 := by
    obtain ⟨r0, r1, r2, r3⟩ := HR.out
    intro u hu
    simp only [List.mem_append, List.not_mem_nil, false_or] at hu
    rcases hu with (((((hu | hu) | hu) | hu) | hu) | hu) | hu
    · exact r0 u hu
    · exact openL_byte _ _ (nm_byte a 0) u hu
    · exact r1 u hu
    · exact openL_byte _ _ (nm_byte a 1) u hu
    · exact r2 u hu
    · exact openL_byte _ _ (nm_byte a 2) u hu
    · exact r3 u hu
  have Z := zz_names v7 w.heap.size (([] : List Int) ++ y0 ++ openL (nm a 0) x ++ y1 ++ openL (nm a 1) y ++ y2 ++ openL (nm a 2) z ++ y3) m w7 M7.out (by simp [openL]) HB (by
    obtain ⟨L0, L1, L2, L3⟩ := HL.out
    have t0 := openL_length (nm a 0) x
    have t1 := openL_length (nm a 1) y
    have t2 := openL_length (nm a 2) z
    simp only [List.length_append, List.length_nil, L0, L1, L2, L3]
    omega) (by rw [b7.cell (World.block_lt_of_cell? w _ HM.out)]; exact HM.out) HN
  clear HN HB
  go_wp2_with (go_at_call 12; refine Z.mono ?_; rintro e w' ⟨rfl, hw'⟩)
  go_ret
  exact ⟨rfl, b7.trans (hw'.mono b7.size)⟩
end

theorem law_walk (p0 : Option Addr) (n0 c0 : Nat) (y0 : List Int) (p1 : Option Addr) (n1 c1 : Nat) (y1 : List Int) (p2 : Option Addr) (n2 c2 : Nat) (y2 : List Int) (p3 : Option Addr) (n3 c3 : Nat) (y3 : List Int) (a : Int) (x y z : Bool) (m : Int) (w : World)
    (g0 : n0 ≤ maxLen) (g1 : n1 ≤ maxLen) (g2 : n2 ≤ maxLen) (g3 : n3 ≤ maxLen)
    (s0 : SrcAt w p0 n0 c0 y0) (s1 : SrcAt w p1 n1 c1 y1) (s2 : SrcAt w p2 n2 c2 y2) (s3 : SrcAt w p3 n3 c3 y3) (r0 : ∀ x ∈ y0, 0 ≤ x ∧ x < 256) (r1 : ∀ x ∈ y1, 0 ≤ x ∧ x < 256) (r2 : ∀ x ∈ y2, 0 ≤ x ∧ x < 256) (r3 : ∀ x ∈ y3, 0 ≤ x ∧ x < 256)
    (hm : w.cell? ⟨0, 0, none⟩ = some (.int .i64 m)) :
    Calls Try.prog 4 #[.slice p0 n0 c0, .slice p1 n1 c1, .slice p2 n2 c2, .slice p3 n3 c3, .int .i64 a, .bool x, .bool y, .bool z] w fun e w' => e = .returned (.bool true) ∧ Below w.heap.size w w' := by
  by_cases hf : n0 + n1 + n2 + n3 ≤ 1048576
  · by_cases he : 262144 < n0 ∨ 262144 < n1 ∨ 262144 < n2 ∨ 262144 < n3 ∨ a < 0 ∨ 5 < a
    · exact early1 p0 p1 p2 p3 n0 c0 n1 c1 n2 c2 n3 c3 a x y z w hf he
    · exact main_walk p0 p1 p2 p3 n0 c0 n1 c1 n2 c2 n3 c3 a x y z w y0 y1 y2 y3 m hf (by omega) (by omega) (by omega) (by omega) (by omega) (by omega) s0 s1 s2 s3 r0 r1 r2 r3 hm
  · exact early0 p0 p1 p2 p3 n0 c0 n1 c1 n2 c2 n3 c3 a x y z w (decide_eq_false hf) g0 g1 g2 g3

end Go.Proofs.Qxb6001714a
