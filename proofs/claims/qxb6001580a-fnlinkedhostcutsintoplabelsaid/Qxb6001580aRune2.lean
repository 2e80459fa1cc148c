import Derived.Test.Qxb6001580aRune
namespace Go.Proofs.Qxb6001580a
open Go.RowKit

theorem indexByte_none {l : List UInt8} {y : UInt8} (h : ∀ b ∈ l, b ≠ y) : Lib.indexByte l y = -1 := by
  induction l with
  | nil => rfl
  | cons b l ih =>
    have hb : (b == y) = false := by simpa using h b (by simp)
    have := ih fun c hc => h c (by simp [hc])
    rw [Lib.indexByte, this, hb]
    rfl

theorem indexByte_high (s : ByteArray) (a e : Nat) (y : UInt8) (w : World) (hs : ∀ b ∈ s.data.toList, b.toNat < 128) (hy : 128 ≤ y.toNat) :
    Calls Try.prog 23 #[.string (s.extract a e), .int .u8 y.toNat] w fun e w' => e = .returned (.int .i64 (-1)) ∧ w' = w := by
  have h := indexByte_any (s.extract a e) y.toNat w
  rw [indexByte_none] at h
  · exact h
  · intro b hb hby
    have := hs b (mem_extract hb)
    have e : (y.toNat : Int).toNat.toUInt8 = y := by simp
    rw [e] at hby
    rw [hby] at this
    omega

set_option maxRecDepth 1000000 in
set_option maxHeartbeats 1000000 in
theorem indexRune_bad (s : ByteArray) (r : Int) (w : World) (h128 : 128 ≤ r) (hne : (r == 65533) = false) (hv : Go.validRune r = false) :
    Calls Try.prog 18 #[.string s, .int .i32 r] w fun e w' => e = .returned (.int .i64 (-1)) ∧ Below w.heap.size w w' := by
  go_enter Try.func18, Try.ntmps18
  go_wp2_with (go_at_call 24; refine (validRune_any _ _).mono ?_; rintro e w' ⟨rfl, rfl⟩; rw [hv])
  go_ret
  exact ⟨rfl, Below.refl _ _⟩

set_option maxRecDepth 1000000 in
set_option maxHeartbeats 1000000 in
theorem indexRune_err (s : ByteArray) (w : World) (hs : ∀ b ∈ s.data.toList, b.toNat < 128) :
    Calls Try.prog 18 #[.string s, .int .i32 65533] w fun e w' => e = .returned (.int .i64 (-1)) ∧ Below w.heap.size w w' := by
  have HA : Hid (∀ b ∈ s.data.toList, b.toNat < 128) := hs
  clear hs
  go_enter Try.func18, Try.ntmps18
  go_wp2_with fail
  go_loopg [5, 6] s.size (fun g _ _ wx => ∃ i : Nat, i + g = s.size ∧ wx = w.iter s i)
  case atStart => exact ⟨0, by omega, rfl⟩
  case round =>
    obtain ⟨i, hig, rfl⟩ := hrel
    cases gk with
    | zero =>
      obtain rfl : i = s.size := by omega
      have hnx := run_next_end (P := Try.prog) w s s.size
      go_wp2
      go_ret
      exact ⟨rfl, (Below.refl _ _).alloc (Nat.le_refl _) _⟩
    | succ g =>
      have hi : i < s.size := by omega
      obtain ⟨x, hx⟩ : ∃ x : UInt8, s[i]'hi = x := ⟨_, rfl⟩
      have hx128 : x.toNat < 128 := by
        have := HA.out (s[i]'hi) (Array.getElem_mem_toList (xs := s.data) hi)
        rwa [hx] at this
      have hnx := fun ty => run_next_ascii (P := Try.prog) w s i ty hi (by rw [hx]; exact hx128)
      rw [hx] at hnx
      clear hx
      have hne : ((x.toNat : Int) == 65533) = false := beq_eq_false_iff_ne.2 (by omega)
      go_wp2
      go_roundg g
      case measure => omega
      case rel => exact ⟨i + 1, by omega, rfl⟩

set_option maxRecDepth 1000000 in
set_option maxHeartbeats 1000000 in
theorem indexRune_ok (s : ByteArray) (r : Int) (w : World) (h128 : 128 ≤ r) (h4 : 4 ≤ s.size) (hne : (r == 65533) = false) (hv : Go.validRune r = true) (hs : ∀ b ∈ s.data.toList, b.toNat < 128) :
    Calls Try.prog 18 #[.string s, .int .i32 r] w fun e w' => e = .returned (.int .i64 (-1)) ∧ Below w.heap.size w w' := by
  have HA : Hid (∀ b ∈ s.data.toList, b.toNat < 128) := hs
  clear hs
  have hef := encode_facts r (by rw [validRune_eq]; exact hv) h128
  obtain ⟨he1, he2, he3⟩ := hef
  have he3' := he3 (by omega)
  clear he3
  obtain ⟨t, ht⟩ : ∃ t, Utf8.encode r = t := ⟨_, rfl⟩
  simp only [ht] at he1 he2 he3'
  obtain ⟨m, hm⟩ : ∃ m, t.size = m + 1 := ⟨t.size - 1, by omega⟩
  have hmt : m < t.size := by omega
  obtain ⟨y, hy⟩ : ∃ y : UInt8, t[m]'hmt = y := ⟨_, rfl⟩
  have hy128 : 128 ≤ y.toNat := by
    rw [← hy]
    simp only [hm, Nat.add_sub_cancel] at he3'
    exact he3'
  clear he3' he1
  have hms : m < s.size := by omega
  obtain ⟨x, hx⟩ : ∃ x : UInt8, s[m]'hms = x := ⟨_, rfl⟩
  have hx128 : x.toNat < 128 := by
    have := HA.out (s[m]'hms) (Array.getElem_mem_toList (xs := s.data) hms)
    rwa [hx] at this
  have hxy : ((x.toNat : Int) != (y.toNat : Int)) = true := by simp; omega
  have k1 : (m : Int) < (s.size : Int) := by omega
  have k2 : (m : Int) < (m : Int) + 1 := by omega
  have k3 : (m : Int) ≤ 3 := by omega
  have k4 : (m : Int) + 1 ≤ (s.size : Int) := by omega
  have k5 : IntKind.i64.wrap ((m : Int) + 1) = (m : Int) + 1 := wrap_small _ (by omega) (by omega)
  have k6 : ((m : Int) + 1).toNat = m + 1 := by omega
  have k7 : ∀ wx, (Instr.slice 9 (.string s) (some (.int .i64 ((m : Int) + 1))) none none).run Try.prog wx = .ok (.string (s.extract (m + 1) s.size)) wx := fun wx => by
    rw [run_slice_string_from_if wx 9 s .i64 _ Try.underlying9, if_pos ⟨by omega, k4⟩, k6]
  go_enter Try.func18, Try.ntmps18
  go_wp2_with (go_at_call 24; refine (validRune_any _ _).mono ?_; rintro e w' ⟨rfl, rfl⟩; rw [hv])
  go_step3
  go_wp2
  refine wp_loop_rounds 1 ?_; rw [rounds_succ]
  go_wp2
  go_step3
  go_wp2
  go_quiet (fail)
  go_wp2
  have hib := fun wx => indexByte_high s (m + 1) s.size y wx HA.out hy128
  go_quiet (first | (go_at_call 23; exact (hib _).mono fun e w'' h => ⟨h.1, _, h.2⟩))
  go_wp2
  rw [Exit.noGoto_ret]
  go_wp2
  rw [Exit.noGoto_ret]
  go_wp2
  go_ret
  exact ⟨rfl, below_drewN (Below.refl _ _) _⟩

end Go.Proofs.Qxb6001580a
