/- Words divided: differences with a borrow, a number of two words by a word, the reciprocal of a word and the quotient by it. The quotient of two words by one, by the reciprocal: the library's own text, walked. The quotient of two words by one; comparisons and products of words that division needs. Sums and differences of rows of words. Blocks of words of which only the first cells are spoken of. No conditions. Conditions: each theorem bears its own. -/
import Derived.Test.YtilmldfbmmcchaaGreatDoorZ11
set_option linter.unusedVariables false
set_option linter.unusedSimpArgs false
namespace Go.Proofs.YtilmldfbmmcchaaGreatDoor
open Go.RowKit
theorem bits_Sub (x y b : Nat) (hx : x < 18446744073709551616) (hy : y < 18446744073709551616) (hb : b ≤ 1) (B : Int) (hB : B = b) (w : World) :
  Calls Tryz.prog 200 #[.int .u64 x, .int .u64 y, .int .u64 B] w fun e w' => ∃ z c : Nat, e = .returned (.tuple #[.int .u64 (z : Nat), .int .u64 (c : Nat)]) ∧ c ≤ 1 ∧ z < 18446744073709551616 ∧ x + c * 18446744073709551616 = z + y + b ∧ w = w' := by
 subst hB
 refine (bits_Sub_raw _ _ _ _ _ (run_Sub64 x y b hb) w).mono ?_
 rintro e w' ⟨rfl, rfl⟩
 refine ⟨_, _, rfl, ?_, by omega, ?_, rfl⟩
 ·split <;> omega
 ·split <;> omega
theorem unshift {N p q y r : Nat} (hp : 0 < p) (h : N * p = q * (y * p) + r) (hr : r < y * p) : q = N / y ∧ r / p = N % y := by
 have h1 : q * (y * p) = q * y * p := by rw [Nat.mul_assoc]
 rw [h1] at h
 have h0 : q * y * p ≤ N * p := by omega
 have h2 : q * y ≤ N := Nat.le_of_mul_le_mul_right h0 hp
 obtain ⟨k, rfl⟩ := Nat.exists_eq_add_of_le h2
 rw [Nat.add_mul] at h
 have h3 : r = k * p := by omega
 subst h3
 have hk : k < y := Nat.lt_of_mul_lt_mul_right hr
 have hy : 0 < y := by omega
 refine ⟨?_, ?_⟩
 ·rw [Nat.mul_comm q, Nat.mul_add_div hy, Nat.div_eq_of_lt hk]; rfl
 ·rw [Nat.mul_div_cancel _ hp, Nat.mul_comm q, Nat.mul_add_mod, Nat.mod_eq_of_lt hk]
set_option maxHeartbeats 1000000 in
theorem bitsDiv64 (hi lo y : Nat) (w : World) (hh : hi < y) (hl : lo < BB) (hy : y < BB) :
  Calls Tryz.prog 291 #[.int .u64 hi, .int .u64 lo, .int .u64 y] w fun e w' =>
   e = .returned (.tuple #[.int .u64 (((hi * 18446744073709551616 + lo) / y : Nat) : Int), .int .u64 (((hi * 18446744073709551616 + lo) % y : Nat) : Int)]) ∧ ∃ q, w' = w.drewN q := by
 rw [BB_eq] at hl hy
 rcases Nat.eq_zero_or_pos hi with h0 | h0
 ·subst h0
  have b1 : ((y : Int) == 0) = false := by simp; omega
  have b2 : decide (y ≤ 0) = false := decide_eq_false (by omega)
  have hq : lo / y < 18446744073709551616 := Nat.lt_of_le_of_lt (Nat.div_le_self _ _) hl
  have hr : lo % y < 18446744073709551616 := by have := Nat.mod_lt lo (show y > 0 by omega); omega
  have e1 : IntKind.u64.wrap ((lo : Int) / (y : Int)) = ((lo / y : Nat) : Int) := by rw [show (lo : Int) / (y : Int) = ((lo / y : Nat) : Int) from by push_cast; rfl, MulW.wrapN _ hq]
  have e2 : IntKind.u64.wrap ((lo : Int) % (y : Int)) = ((lo % y : Nat) : Int) := by rw [show (lo : Int) % (y : Int) = ((lo % y : Nat) : Int) from by push_cast; rfl, MulW.wrapN _ hr]
  have y0 : ¬ (y : Int) = 0 := by omega
  rw [Nat.zero_mul, Nat.zero_add]
  go_enter Tryz.func291, Tryz.ntmps291
  go_wp2
  go_region
  go_wp2
  go_ret2
  exact ⟨rfl, 1, rfl⟩
 ·have hyp : 0 < y := by omega
  obtain ⟨a, b, c, d⟩ := bitLen_top y hyp hy
  obtain ⟨s, hs⟩ : ∃ s, s = 64 - Lib.bitLen y := ⟨_, rfl⟩
  have hs63 : s ≤ 63 := by omega
  have hy1 : y * 2 ^ s < 18446744073709551616 := by
   have h := Nat.mul_lt_mul_of_pos_right a (Nat.pow_pos (a := 2) (n := s) (by omega))
   rw [← Nat.pow_add, show Lib.bitLen y + s = 64 by omega] at h
   exact h
  have hy2 : 9223372036854775808 ≤ y * 2 ^ s := by
   have h := Nat.mul_le_mul_right (2 ^ s) b
   rw [← Nat.pow_add, show Lib.bitLen y - 1 + s = 63 by omega] at h
   exact h
  have HL : ∀ w, Calls Tryz.prog 293 #[.int .u64 y] w fun e w' => e = .returned (.int .i64 (s : Int)) ∧ w' = w := fun w => by
   refine (bits_LeadingZeros64 y w hy).mono ?_
   rintro e w' ⟨rfl, rfl⟩
   exact ⟨by rw [hs], rfl⟩
  clear a b c d hs
  obtain ⟨H, hsum⟩ := halves hi lo y s hh hl hs63 hy1 hy2
  have hhs : hi * 2 ^ s < 18446744073709551616 := by
   have := Nat.mul_le_mul_right (2 ^ s) (Nat.le_of_lt hh); omega
  refine (bitsDiv64_pos hi lo y s _ _ _ _ _ _ _ w h0 hh hs63 HL ?_ (or_shift hi lo s hs63 hhs hl) ?_ (Lib.hid H)).mono ?_
  ·rw [show ((y : Int) * 2 ^ s) = ((y * 2 ^ s : Nat) : Int) by push_cast; rfl]; exact MulW.wrapN _ hy1
  ·rw [show ((lo : Int) * 2 ^ s) = ((lo * 2 ^ s : Nat) : Int) by push_cast; rfl]; exact MulW.wrapM _
  ·rintro e w' ⟨q, r, rfl, h1, h2, rfl⟩
   rw [hsum] at h1
   obtain ⟨e1, e2⟩ := unshift (Nat.pow_pos (by omega)) h1 h2
   refine ⟨?_, 0, rfl⟩
   rw [← e1, ← e2]
   push_cast
   rfl
theorem bitsDiv (hi lo y : Nat) (w : World) (hh : hi < y) (hl : lo < BB) (hy : y < BB) :
  Calls Tryz.prog 282 #[.int .u64 hi, .int .u64 lo, .int .u64 y] w fun e w' =>
   e = .returned (.tuple #[.int .u64 (((hi * 18446744073709551616 + lo) / y : Nat) : Int), .int .u64 (((hi * 18446744073709551616 + lo) % y : Nat) : Int)]) ∧ ∃ q, w' = w.drewN q := by
 have H := bitsDiv64 hi lo y
 obtain ⟨q, hq⟩ : ∃ q, q = (hi * 18446744073709551616 + lo) / y := ⟨_, rfl⟩
 obtain ⟨r, hr⟩ : ∃ r, r = (hi * 18446744073709551616 + lo) % y := ⟨_, rfl⟩
 rw [← hq, ← hr] at H ⊢
 clear hq hr
 go_enter Tryz.func282, Tryz.ntmps282
 go_wp2_with (go_at_call 291; refine (H _ hh hl hy).mono ?_; rintro e w' ⟨rfl, k, rfl⟩)
 go_ret2
 exact ⟨rfl, k, rfl⟩
structure Shift (y s : Nat) : Prop where
 le : s ≤ 63
 lt : y * 2 ^ s < 18446744073709551616
 top : 9223372036854775808 ≤ y * 2 ^ s
 nlz : ∀ w, Calls Tryz.prog 149 #[.int .u64 y] w fun e w' => e = .returned (.int .u64 (s : Int)) ∧ w' = w
theorem shift_of (y : Nat) (h0 : 0 < y) (h1 : y < BB) : ∃ s, Shift y s := by
 obtain ⟨a, b, c, d⟩ := bitLen_top y h0 h1
 refine ⟨64 - Lib.bitLen y, by omega, ?_, ?_, fun w => nlz_raw y w h1⟩
 ·have h := Nat.mul_lt_mul_of_pos_right a (Nat.pow_pos (a := 2) (n := 64 - Lib.bitLen y) (by omega))
  rw [← Nat.pow_add, show Lib.bitLen y + (64 - Lib.bitLen y) = 64 by omega] at h
  exact h
 ·have h := Nat.mul_le_mul_right (2 ^ (64 - Lib.bitLen y)) b
  rw [← Nat.pow_add, show Lib.bitLen y - 1 + (64 - Lib.bitLen y) = 63 by omega] at h
  exact h
theorem Shift.zero {y s : Nat} (h : Shift y s) (hy : 9223372036854775808 ≤ y) : s = 0 := by
 refine Nat.eq_zero_of_not_pos fun h0 => ?_
 have h1 := h.lt
 have h2 := Nat.mul_le_mul_left y (Nat.pow_le_pow_right (n := 2) (by omega) h0)
 omega
structure Recip (d m : Nat) : Prop where
 lt : m < 18446744073709551616
 lo : (m + 18446744073709551616) * d < 18446744073709551616 * 18446744073709551616
 hi : 18446744073709551616 * 18446744073709551616 ≤ (m + 18446744073709551616 + 1) * d
theorem recip_of {u : Nat} (h1 : 9223372036854775808 ≤ u) (h2 : u < 18446744073709551616) :
  Recip u (((18446744073709551615 - u) * 18446744073709551616 + 18446744073709551615) / u) := by
 obtain ⟨m, hm⟩ : ∃ m, m = ((18446744073709551615 - u) * 18446744073709551616 + 18446744073709551615) / u := ⟨_, rfl⟩
 rw [← hm]
 have a1 : m * u ≤ (18446744073709551615 - u) * 18446744073709551616 + 18446744073709551615 := by rw [hm]; exact Nat.div_mul_le_self _ _
 have a2 : (18446744073709551615 - u) * 18446744073709551616 + 18446744073709551615 < (m + 1) * u := by rw [hm, Nat.mul_comm (_ + 1)]; exact Nat.lt_mul_div_succ _ (by omega)
 clear hm
 refine ⟨?_, ?_, ?_⟩
 ·have : m * u < 18446744073709551616 * u := by omega
  exact Nat.lt_of_mul_lt_mul_right this
 ·rw [Nat.add_mul]; omega
 ·rw [Nat.add_mul] at a2
  rw [Nat.add_mul, Nat.add_mul]; omega
theorem xor_all (u : Nat) (h : u < 18446744073709551616) : 18446744073709551615 ^^^ u = 18446744073709551615 - u := by
 have h1 : (BitVec.allOnes 64 ^^^ BitVec.ofNat 64 u).toNat = 18446744073709551615 ^^^ u := by
  rw [BitVec.toNat_xor, BitVec.toNat_ofNat, Nat.mod_eq_of_lt h]; rfl
 rw [← h1, BitVec.allOnes_xor, BitVec.toNat_not, BitVec.toNat_ofNat, Nat.mod_eq_of_lt h]
set_option maxHeartbeats 1000000 in
theorem reciprocalWord (y s : Nat) (h : Shift y s) (w : World) :
  Calls Tryz.prog 283 #[.int .u64 y] w fun e w' => ∃ m : Nat, e = .returned (.int .u64 (m : Nat)) ∧ Recip (y * 2 ^ s) m ∧ ∃ q, w' = w.drewN q := by
 have h1 := h.lt
 have h2 := h.top
 have h3 := h.nlz
 have hs := h.le
 obtain ⟨u, hu⟩ : ∃ u, u = y * 2 ^ s := ⟨_, rfl⟩
 have eu : IntKind.u64.wrap ((y : Int) * 2 ^ s) = u := by rw [show ((y : Int) * 2 ^ s) = ((y * 2 ^ s : Nat) : Int) by push_cast; rfl, hu]; exact MulW.wrapN _ h1
 rw [← hu] at h1 h2 ⊢
 have HR := recip_of h2 h1
 have HD : ∀ w, Calls Tryz.prog 282 #[.int .u64 ((18446744073709551615 - u : Nat) : Int), .int .u64 18446744073709551615, .int .u64 u] w fun e w' =>
   e = .returned (.tuple #[.int .u64 ((((18446744073709551615 - u) * 18446744073709551616 + 18446744073709551615) / u : Nat) : Int), .int .u64 ((((18446744073709551615 - u) * 18446744073709551616 + 18446744073709551615) % u : Nat) : Int)]) ∧ ∃ q, w' = w.drewN q := fun w => bitsDiv (18446744073709551615 - u) 18446744073709551615 u w (by omega) (by rw [BB_eq]; omega) h1
 have ex : bits .xor .u64 IntKind.u64.max (u : Int) = ((18446744073709551615 - u : Nat) : Int) := by
  rw [← xor_all u h1, ← bits_xor_u64_nat 18446744073709551615 u (by omega) h1]; rfl
 clear hu h h1 h2
 generalize (18446744073709551615 - u) = t at HR HD ex
 generalize (t * 18446744073709551616 + 18446744073709551615) / u = m at HR HD
 generalize (t * 18446744073709551616 + 18446744073709551615) % u = r at HD
 go_enter Tryz.func283, Tryz.ntmps283
 go_wp2_with (first | (go_at_call 149; refine (h3 _).mono ?_; rintro e w' ⟨rfl, rfl⟩) | (go_at_call 282; (rw [show (if IntKind.u64.signed = true then (-1 : Int) else IntKind.u64.max) = IntKind.u64.max from rfl, ex]); refine (HD _).mono ?_; rintro e w' ⟨rfl, k, rfl⟩))
 go_ret
 exact ⟨m, rfl, HR, k, rfl⟩
theorem ww_guess {m X1 X0 d : Nat} (hm : Recip d m) (hd2 : d < 18446744073709551616) (h1 : X1 < d) (h0 : X0 < 18446744073709551616) {T : Nat}
  (hT : T = m * X1 / 18446744073709551616 + X1 + (m * X1 % 18446744073709551616 + X0) / 18446744073709551616) :
  T < 18446744073709551616 ∧ T * d ≤ X1 * 18446744073709551616 + X0 ∧ X1 * 18446744073709551616 + X0 < T * d + 18446744073709551616 + d := by
 have e : (m + 18446744073709551616) * X1 = m * X1 + 18446744073709551616 * X1 := Nat.add_mul _ _ _
 have g := recip_guess (B := 18446744073709551616) (d := d) (M := m + 18446744073709551616) (x1 := X1) (x0 := X0) (t := T) (by omega) (by omega) hm.lo hm.hi h1 h0
  (by rw [e]; omega) (by rw [e]; omega)
 refine ⟨?_, g.1, g.2⟩
 have h2 : T * d < 18446744073709551616 * d := by omega
 exact Nat.lt_of_mul_lt_mul_right h2
theorem ww_rest {X1 X0 D d z0 z1 c0 c1 : Nat} (hd2 : d < 18446744073709551616) (hz0 : z0 < 18446744073709551616) (hz1 : z1 < 18446744073709551616) (hD : D ≤ X1 * 18446744073709551616 + X0) (hD2 : X1 * 18446744073709551616 + X0 < D + 18446744073709551616 + d)
  (e0 : X0 + c0 * 18446744073709551616 = z0 + D % 18446744073709551616 + 0) (e1 : X1 + c1 * 18446744073709551616 = z1 + D / 18446744073709551616 + c0) (hc1 : c1 ≤ 1) :
  z1 ≤ 1 ∧ X1 * 18446744073709551616 + X0 = D + z1 * 18446744073709551616 + z0 := by
 omega
set_option maxHeartbeats 2000000 in
theorem divWW_core (x1 x0 y s X1 X0 d m : Nat) (w : World) (HN : ∀ w, Calls Tryz.prog 149 #[.int .u64 y] w fun e w' => e = .returned (.int .u64 (s : Int)) ∧ w' = w)
  (hcase : (s = 0 ∧ X1 = x1 ∧ X0 = x0 ∧ d = y) ∨ (0 < s ∧ s ≤ 63 ∧ IntKind.u64.wrap ((y : Int) * 2 ^ s) = d ∧ bits .or .u64 (IntKind.u64.wrap ((x1 : Int) * 2 ^ s)) ((x0 : Int) / 2 ^ (64 - s)) = X1 ∧ IntKind.u64.wrap ((x0 : Int) * 2 ^ s) = X0))
  (hm : Recip d m) (hdB : d < 18446744073709551616) (hd2 : 9223372036854775808 ≤ d) (h1 : X1 < d) (hX0 : X0 < 18446744073709551616) :
  Calls Tryz.prog 284 #[.int .u64 x1, .int .u64 x0, .int .u64 y, .int .u64 m] w fun e w' => ∃ q r : Nat, e = .returned (.tuple #[.int .u64 (q : Nat), .int .u64 (((r : Nat) : Int) / 2 ^ s)]) ∧ X1 * 18446744073709551616 + X0 = q * d + r ∧ r < d ∧ w = w' := by
 have hmB := hm.lt
 have hX1 : X1 < 18446744073709551616 := by omega
 obtain ⟨T, hT⟩ : ∃ T, Hid (T = m * X1 / 18446744073709551616 + X1 + (m * X1 % 18446744073709551616 + X0) / 18446744073709551616) := ⟨_, Lib.hid rfl⟩
 obtain ⟨hTB, g1, g2⟩ := ww_guess hm hdB h1 hX0 hT.out
 have hTd1 : d * T ≤ X1 * 18446744073709551616 + X0 := by rw [Nat.mul_comm]; exact g1
 have hTd2 : X1 * 18446744073709551616 + X0 < d * T + 18446744073709551616 + d := by rw [Nat.mul_comm d]; exact g2
 have eT : ((m : Int) * (X1 : Int) / 18446744073709551616 + (X1 : Int) + ((m : Int) * (X1 : Int) % 18446744073709551616 + (X0 : Int)) / 18446744073709551616) % 18446744073709551616 = (T : Int) := by
  have := hT.out
  rw [MulW.mulN]
  omega
 have hXd : X1 * 18446744073709551616 + X0 < d * 18446744073709551616 := by omega
 have hTn : ∀ z0 z1 : Nat, X1 * 18446744073709551616 + X0 = d * T + z1 * 18446744073709551616 + z0 → T + 1 < 18446744073709551616 ∨ z1 = 0 ∧ z0 < d := by
  intro z0 z1 h
  rcases Nat.lt_or_ge (T + 1) 18446744073709551616 with h2 | h2
  ·exact .inl h2
  ·right
   have h3 := Nat.mul_le_mul_left d h2
   rw [Nat.mul_add, Nat.mul_one] at h3
   omega
 have hTm : ∀ z0 z2 : Nat, X1 * 18446744073709551616 + X0 = d * T + 1 * 18446744073709551616 + z0 → 18446744073709551616 + z0 = z2 + d → d ≤ z2 → T + 2 < 18446744073709551616 := by
  intro z0 z2 h e h2
  refine Nat.lt_of_not_le fun h4 => ?_
  have h3 := Nat.mul_le_mul_left d h4
  rw [Nat.mul_add] at h3
  omega
 have hfin : ∀ z0 z1 q, ∀ r : Nat, X1 * 18446744073709551616 + X0 = d * T + z1 * 18446744073709551616 + z0 → (z1 = 0 ∧ q = T ∧ z0 = r) ∨ (z1 = 0 ∧ q = T + 1 ∧ z0 = r + d) ∨ (z1 = 1 ∧ q = T + 1 ∧ 18446744073709551616 + z0 = r + d) ∨ (z1 = 1 ∧ q = T + 2 ∧ 18446744073709551616 + z0 = r + d + d) → X1 * 18446744073709551616 + X0 = q * d + r := by
  intro z0 z1 q r h hc
  rcases hc with ⟨hz, hq, hc⟩ | ⟨hz, hq, hc⟩ | ⟨hz, hq, hc⟩ | ⟨hz, hq, hc⟩
  ·rw [hq, Nat.mul_comm T, h, hz, hc]; simp
  ·rw [hq, Nat.mul_comm (T + 1), Nat.mul_add, h, hz, hc]; omega
  ·rw [hq, Nat.mul_comm (T + 1), Nat.mul_add, h, hz]; omega
  ·rw [hq, Nat.mul_comm (T + 2), Nat.mul_add, h, hz]; omega
 have hmx : (0 : Int) ≤ (m : Int) * (X1 : Int) := Int.mul_nonneg (by omega) (by omega)
 clear hm g1 g2 hT hXd
 go_enter Tryz.func284, Tryz.ntmps284
 go_wp2_with fail
 refine (HN _).mono ?_
 rintro e w1 ⟨rfl, rfl⟩
 rcases hcase with ⟨rfl, rfl, rfl, rfl⟩ | ⟨hs0, hs63, eY, eU, eL⟩
 ·have b0 : (((0 : Nat) : Int) != 0) = false := by simp
  go_wp2_with fail
  refine (bits_Mul m X1 hmB hX1 _).mono ?_
  rintro e w1 ⟨rfl, rfl⟩
  go_wp2_with fail
  refine (bits_Add _ _ _ (by omega) (by omega) (by omega) (by omega) _).mono ?_
  rintro e w1 ⟨rfl, rfl⟩
  go_wp2_with fail
  refine (bits_Add _ _ _ (by omega) (by omega) (by omega) (by omega) _).mono ?_
  rintro e w1 ⟨rfl, rfl⟩
  rw [eT]
  go_wp2_with fail
  refine (bits_Mul d T hdB hTB _).mono ?_
  rintro e w1 ⟨rfl, rfl⟩
  go_wp2_with fail
  refine (bits_Sub X0 (d * T % 18446744073709551616) 0 hX0 (by omega) (by omega) 0 rfl _).mono ?_
  rintro e w1 ⟨z0, c0, rfl, hc0, hz0, k0, rfl⟩
  go_wp2_with fail
  refine (bits_Sub X1 (d * T / 18446744073709551616) c0 hX1 (by omega) hc0 c0 rfl _).mono ?_
  rintro e w1 ⟨z1, c1, rfl, hc1, hz1, k1, rfl⟩
  obtain ⟨r1, r2⟩ := ww_rest hdB hz0 hz1 hTd1 hTd2 k0 k1 hc1
  have hT1 : T + 1 < 18446744073709551616 ∨ z1 = 0 ∧ z0 < d := hTn z0 z1 r2
  clear k0 k1 hc0 hc1 hz1
  have HF := Lib.hid hfin
  clear hfin
  rcases Nat.eq_zero_or_pos z1 with hz | hz
  ·subst hz
   have b1 : (((0 : Nat) : Int) != 0) = false := by simp
   by_cases hlt : z0 < d
   ·have b2 : decide (d ≤ z0) = false := decide_eq_false (by omega)
    have HL := Lib.hid hlt
    clear hlt hT1 hz0
    go_wp2
    go_ret2
    exact ⟨T, z0, (by first | rfl | simp), HF.out _ _ _ _ r2 (.inl ⟨rfl, rfl, rfl⟩) , HL.out, rfl⟩
   ·have b2 : decide (d ≤ z0) = true := decide_eq_true (by omega)
    obtain ⟨T1, hT1e⟩ : ∃ T1, Hid (T1 = T + 1) := ⟨_, Lib.hid rfl⟩
    have a1 : IntKind.u64.wrap ((T : Int) + 1) = T1 := by rw [hT1e.out, IntKind.wrap_u64]; omega
    obtain ⟨z2, hz2⟩ : ∃ z2, Hid (z0 = z2 + d) := ⟨z0 - d, Lib.hid (by omega)⟩
    have a2 : IntKind.u64.wrap ((z0 : Int) - (d : Int)) = z2 := by have := hz2.out; rw [IntKind.wrap_u64]; omega
    have HL : Hid (z2 < d) := Lib.hid (by have := hz2.out; omega)
    clear hlt hT1 hz0
    go_wp2
    go_ret2
    exact ⟨T1, z2, (by first | rfl | simp), HF.out _ _ _ _ r2 (.inr (.inl ⟨rfl, hT1e.out, hz2.out⟩)), HL.out, rfl⟩
  ·obtain rfl : z1 = 1 := by omega
   have b1 : (((1 : Nat) : Int) != 0) = true := by simp
   obtain ⟨T1, hT1e⟩ : ∃ T1, Hid (T1 = T + 1) := ⟨_, Lib.hid rfl⟩
   have a1 : IntKind.u64.wrap ((T : Int) + 1) = T1 := by rw [hT1e.out, IntKind.wrap_u64]; omega
   have hzd : z0 < d := by
    have := hTd2
    omega
   obtain ⟨z2, hz2⟩ : ∃ z2, Hid (18446744073709551616 + z0 = z2 + d) := ⟨18446744073709551616 + z0 - d, Lib.hid (by omega)⟩
   have a2 : IntKind.u64.wrap ((z0 : Int) - (d : Int)) = z2 := by have := hz2.out; rw [IntKind.wrap_u64]; omega
   by_cases hlt : z2 < d
   ·have b2 : decide (d ≤ z2) = false := decide_eq_false (by omega)
    have HL := Lib.hid hlt
    clear hlt hT1 hz0 hz hzd
    go_wp2
    go_ret2
    exact ⟨T1, z2, (by first | rfl | simp), HF.out _ _ _ _ r2 (.inr (.inr (.inl ⟨rfl, hT1e.out, hz2.out⟩))), HL.out, rfl⟩
   ·have b2 : decide (d ≤ z2) = true := decide_eq_true (by omega)
    obtain ⟨T2, hT2e⟩ : ∃ T2, Hid (T2 = T + 2) := ⟨_, Lib.hid rfl⟩
    have ht2B : T + 2 < 18446744073709551616 := hTm z0 z2 r2 hz2.out (by omega)
    have a3 : IntKind.u64.wrap ((T1 : Int) + 1) = T2 := by have := hT1e.out; rw [hT2e.out, IntKind.wrap_u64]; omega
    obtain ⟨z3, hz3⟩ : ∃ z3, Hid (z2 = z3 + d) := ⟨z2 - d, Lib.hid (by omega)⟩
    have a4 : IntKind.u64.wrap ((z2 : Int) - (d : Int)) = z3 := by have := hz2.out; have := hz3.out; rw [IntKind.wrap_u64]; omega
    have HL : Hid (z3 < d) := Lib.hid (by have := hz3.out; have := hz2.out; omega)
    clear hlt hT1 hz0 hz hzd ht2B
    go_wp2
    go_ret2
    exact ⟨T2, z3, (by first | rfl | simp), HF.out _ _ _ _ r2 (.inr (.inr (.inr ⟨rfl, hT2e.out, by have := hz2.out; have := hz3.out; omega⟩))), HL.out, rfl⟩
 ·have b0 : ((s : Int) != 0) = true := by simp; omega
  go_wp2_with fail
  refine (bits_Mul m X1 hmB hX1 _).mono ?_
  rintro e w1 ⟨rfl, rfl⟩
  go_wp2_with fail
  refine (bits_Add _ _ _ (by omega) (by omega) (by omega) (by omega) _).mono ?_
  rintro e w1 ⟨rfl, rfl⟩
  go_wp2_with fail
  refine (bits_Add _ _ _ (by omega) (by omega) (by omega) (by omega) _).mono ?_
  rintro e w1 ⟨rfl, rfl⟩
  rw [eT]
  go_wp2_with fail
  refine (bits_Mul d T hdB hTB _).mono ?_
  rintro e w1 ⟨rfl, rfl⟩
  go_wp2_with fail
  refine (bits_Sub X0 (d * T % 18446744073709551616) 0 hX0 (by omega) (by omega) 0 rfl _).mono ?_
  rintro e w1 ⟨z0, c0, rfl, hc0, hz0, k0, rfl⟩
  go_wp2_with fail
  refine (bits_Sub X1 (d * T / 18446744073709551616) c0 hX1 (by omega) hc0 c0 rfl _).mono ?_
  rintro e w1 ⟨z1, c1, rfl, hc1, hz1, k1, rfl⟩
  obtain ⟨r1, r2⟩ := ww_rest hdB hz0 hz1 hTd1 hTd2 k0 k1 hc1
  have hT1 : T + 1 < 18446744073709551616 ∨ z1 = 0 ∧ z0 < d := hTn z0 z1 r2
  clear k0 k1 hc0 hc1 hz1
  have HF := Lib.hid hfin
  clear hfin
  rcases Nat.eq_zero_or_pos z1 with hz | hz
  ·subst hz
   have b1 : (((0 : Nat) : Int) != 0) = false := by simp
   by_cases hlt : z0 < d
   ·have b2 : decide (d ≤ z0) = false := decide_eq_false (by omega)
    have HL := Lib.hid hlt
    clear hlt hT1 hz0
    go_wp2
    go_ret2
    exact ⟨T, z0, (by first | rfl | simp), HF.out _ _ _ _ r2 (.inl ⟨rfl, rfl, rfl⟩) , HL.out, rfl⟩
   ·have b2 : decide (d ≤ z0) = true := decide_eq_true (by omega)
    obtain ⟨T1, hT1e⟩ : ∃ T1, Hid (T1 = T + 1) := ⟨_, Lib.hid rfl⟩
    have a1 : IntKind.u64.wrap ((T : Int) + 1) = T1 := by rw [hT1e.out, IntKind.wrap_u64]; omega
    obtain ⟨z2, hz2⟩ : ∃ z2, Hid (z0 = z2 + d) := ⟨z0 - d, Lib.hid (by omega)⟩
    have a2 : IntKind.u64.wrap ((z0 : Int) - (d : Int)) = z2 := by have := hz2.out; rw [IntKind.wrap_u64]; omega
    have HL : Hid (z2 < d) := Lib.hid (by have := hz2.out; omega)
    clear hlt hT1 hz0
    go_wp2
    go_ret2
    exact ⟨T1, z2, (by first | rfl | simp), HF.out _ _ _ _ r2 (.inr (.inl ⟨rfl, hT1e.out, hz2.out⟩)), HL.out, rfl⟩
  ·obtain rfl : z1 = 1 := by omega
   have b1 : (((1 : Nat) : Int) != 0) = true := by simp
   obtain ⟨T1, hT1e⟩ : ∃ T1, Hid (T1 = T + 1) := ⟨_, Lib.hid rfl⟩
   have a1 : IntKind.u64.wrap ((T : Int) + 1) = T1 := by rw [hT1e.out, IntKind.wrap_u64]; omega
   have hzd : z0 < d := by
    have := hTd2
    omega
   obtain ⟨z2, hz2⟩ : ∃ z2, Hid (18446744073709551616 + z0 = z2 + d) := ⟨18446744073709551616 + z0 - d, Lib.hid (by omega)⟩
   have a2 : IntKind.u64.wrap ((z0 : Int) - (d : Int)) = z2 := by have := hz2.out; rw [IntKind.wrap_u64]; omega
   by_cases hlt : z2 < d
   ·have b2 : decide (d ≤ z2) = false := decide_eq_false (by omega)
    have HL := Lib.hid hlt
    clear hlt hT1 hz0 hz hzd
    go_wp2
    go_ret2
    exact ⟨T1, z2, (by first | rfl | simp), HF.out _ _ _ _ r2 (.inr (.inr (.inl ⟨rfl, hT1e.out, hz2.out⟩))), HL.out, rfl⟩
   ·have b2 : decide (d ≤ z2) = true := decide_eq_true (by omega)
    obtain ⟨T2, hT2e⟩ : ∃ T2, Hid (T2 = T + 2) := ⟨_, Lib.hid rfl⟩
    have ht2B : T + 2 < 18446744073709551616 := hTm z0 z2 r2 hz2.out (by omega)
    have a3 : IntKind.u64.wrap ((T1 : Int) + 1) = T2 := by have := hT1e.out; rw [hT2e.out, IntKind.wrap_u64]; omega
    obtain ⟨z3, hz3⟩ : ∃ z3, Hid (z2 = z3 + d) := ⟨z2 - d, Lib.hid (by omega)⟩
    have a4 : IntKind.u64.wrap ((z2 : Int) - (d : Int)) = z3 := by have := hz2.out; have := hz3.out; rw [IntKind.wrap_u64]; omega
    have HL : Hid (z3 < d) := Lib.hid (by have := hz3.out; have := hz2.out; omega)
    clear hlt hT1 hz0 hz hzd ht2B
    go_wp2
    go_ret2
    exact ⟨T2, z3, (by first | rfl | simp), HF.out _ _ _ _ r2 (.inr (.inr (.inr ⟨rfl, hT2e.out, by have := hz2.out; have := hz3.out; omega⟩))), HL.out, rfl⟩
set_option maxHeartbeats 1000000 in
theorem divWW (x1 x0 y s m : Nat) (w : World) (hs : Shift y s) (hm : Recip (y * 2 ^ s) m) (h1 : x1 < y) (h0 : x0 < 18446744073709551616) :
  Calls Tryz.prog 284 #[.int .u64 x1, .int .u64 x0, .int .u64 y, .int .u64 m] w fun e w' => ∃ q r : Nat, e = .returned (.tuple #[.int .u64 (q : Nat), .int .u64 (r : Nat)]) ∧ x1 * 18446744073709551616 + x0 = q * y + r ∧ r < y ∧ w = w' := by
 rcases Nat.eq_zero_or_pos s with hz | hz
 ·subst hz
  have hd := hs.lt
  have hd2 := hs.top
  rw [Nat.pow_zero, Nat.mul_one] at hd hd2 hm
  refine (divWW_core x1 x0 y 0 x1 x0 y m w hs.nlz (.inl ⟨rfl, rfl, rfl, rfl⟩) hm hd hd2 h1 h0).mono ?_
  rintro e w' ⟨q, r, rfl, e1, e2, rfl⟩
  exact ⟨q, r, by simp, e1, e2, rfl⟩
 ·have hhs : x1 * 2 ^ s < 18446744073709551616 := by
   have := Nat.mul_le_mul_right (2 ^ s) (Nat.le_of_lt h1)
   have := hs.lt
   omega
  obtain ⟨H, hsum⟩ := halves x1 x0 y s h1 h0 hs.le hs.lt hs.top
  refine (divWW_core x1 x0 y s (x1 * 2 ^ s + x0 / 2 ^ (64 - s)) (x0 * 2 ^ s % 18446744073709551616) (y * 2 ^ s) m w hs.nlz (.inr ⟨hz, hs.le, ?_, or_shift x1 x0 s hs.le hhs h0, ?_⟩) hm hs.lt hs.top H.u (Nat.mod_lt _ (by omega))).mono ?_
  ·rw [show ((y : Int) * 2 ^ s) = ((y * 2 ^ s : Nat) : Int) by push_cast; rfl]; exact MulW.wrapN _ hs.lt
  ·rw [show ((x0 : Int) * 2 ^ s) = ((x0 * 2 ^ s : Nat) : Int) by push_cast; rfl]; exact MulW.wrapM _
  ·rintro e w' ⟨q, r, rfl, e1, e2, rfl⟩
   rw [hsum] at e1
   obtain ⟨e3, e4⟩ := unshift (Nat.pow_pos (by omega)) e1 e2
   have hyp : 0 < y := by omega
   refine ⟨q, r / 2 ^ s, by push_cast; rfl, ?_, by rw [e4]; exact Nat.mod_lt _ hyp, rfl⟩
   rw [e3, e4]
   exact (Nat.div_add_mod' _ _).symm
theorem greaterThan (x1 x2 y1 y2 : Nat) (w : World) :
  Calls Tryz.prog 285 #[.int .u64 x1, .int .u64 x2, .int .u64 y1, .int .u64 y2] w fun e w' => e = .returned (.bool (decide (y1 < x1 ∨ (y1 = x1 ∧ y2 < x2)))) ∧ w = w' := by
 rcases Nat.lt_trichotomy y1 x1 with h | h | h
 ·have b1 : decide (y1 < x1) = true := decide_eq_true h
  rw [decide_eq_true (Or.inl h)]
  go_enter Tryz.func285, Tryz.ntmps285
  go_wp2
  go_ret
  exact ⟨rfl, rfl⟩
 ·subst h
  by_cases h2 : y2 < x2
  ·have b2 : decide (y2 < x2) = true := decide_eq_true h2
   rw [decide_eq_true (Or.inr ⟨rfl, h2⟩)]
   go_enter Tryz.func285, Tryz.ntmps285
   go_wp2
   go_ret
   exact ⟨rfl, rfl⟩
  ·have b2 : decide (y2 < x2) = false := decide_eq_false h2
   rw [decide_eq_false (by omega)]
   go_enter Tryz.func285, Tryz.ntmps285
   go_wp2
   go_ret
   exact ⟨rfl, rfl⟩
 ·have b1 : decide (y1 < x1) = false := decide_eq_false (by omega)
  have b2 : ((x1 : Int) == (y1 : Int)) = false := by simp; omega
  rw [decide_eq_false (by omega)]
  go_enter Tryz.func285, Tryz.ntmps285
  go_wp2
  go_ret
  exact ⟨rfl, rfl⟩
theorem bits_Sub_ex (x y b : Nat) (hx : x < 18446744073709551616) (hy : y < 18446744073709551616) (hb : b ≤ 1) :
  ∃ z c : Nat, c ≤ 1 ∧ z < 18446744073709551616 ∧ x + c * 18446744073709551616 = z + y + b ∧
   ∀ w, Calls Tryz.prog 200 #[.int .u64 x, .int .u64 y, .int .u64 b] w fun e w' => e = .returned (.tuple #[.int .u64 (z : Nat), .int .u64 (c : Nat)]) ∧ w = w' := by
 refine ⟨(x + 18446744073709551616 - y - b) % 18446744073709551616, if x < y + b then 1 else 0, ?_, by omega, ?_, fun w => bits_Sub_raw _ _ _ _ _ (run_Sub64 x y b hb) w⟩
 ·split <;> omega
 ·split <;> omega
theorem bits_Add_ex (x y b : Nat) (hx : x < 18446744073709551616) (hy : y < 18446744073709551616) (hb : b ≤ 1) :
  ∃ z c : Nat, c ≤ 1 ∧ z < 18446744073709551616 ∧ z + c * 18446744073709551616 = x + y + b ∧
   ∀ w, Calls Tryz.prog 246 #[.int .u64 x, .int .u64 y, .int .u64 b] w fun e w' => e = .returned (.tuple #[.int .u64 (z : Nat), .int .u64 (c : Nat)]) ∧ w = w' := by
 refine ⟨(x + y + b) % 18446744073709551616, (x + y + b) / 18446744073709551616, by omega, by omega, by omega, fun w => ?_⟩
 refine (bits_Add x y b (by omega) (by omega) (by omega) (by omega) w).mono ?_
 rintro e w' ⟨rfl, rfl⟩
 exact ⟨ret2 (by omega) (by omega), rfl⟩
theorem sub_step {G X Y : Nat → Nat} {oz k cc c xk yk z : Nat} (h : Vb BB X 0 k + BB ^ k * cc = Vb BB G oz k + Vb BB Y 0 k) (hx : xk = X k) (hy : yk = Y k) (e : xk + c * 18446744073709551616 = z + yk + cc) :
  Vb BB X 0 (k + 1) + BB ^ (k + 1) * c = Vb BB (upd G (oz + k) z) oz (k + 1) + Vb BB Y 0 (k + 1) := by
 rw [V_upd_succ, V_succ, V_succ, Nat.zero_add, ← hx, ← hy, Nat.pow_succ, Nat.mul_assoc]
 have e1 : BB ^ k * xk + BB ^ k * (BB * c) = BB ^ k * z + BB ^ k * yk + BB ^ k * cc := by
  rw [← Nat.mul_add, ← Nat.mul_add, ← Nat.mul_add, Nat.mul_comm BB c, BB_eq, e]
 omega
theorem add_step {G X Y : Nat → Nat} {oz k cc c xk yk z : Nat} (h : Vb BB G oz k + BB ^ k * cc = Vb BB X 0 k + Vb BB Y 0 k) (hx : xk = X k) (hy : yk = Y k) (e : z + c * 18446744073709551616 = xk + yk + cc) :
  Vb BB (upd G (oz + k) z) oz (k + 1) + BB ^ (k + 1) * c = Vb BB X 0 (k + 1) + Vb BB Y 0 (k + 1) := by
 rw [V_upd_succ, V_succ, V_succ, Nat.zero_add, ← hx, ← hy, Nat.pow_succ, Nat.mul_assoc]
 have e1 : BB ^ k * z + BB ^ k * (BB * c) = BB ^ k * xk + BB ^ k * yk + BB ^ k * cc := by
  rw [← Nat.mul_add, ← Nat.mul_add, ← Nat.mul_add, Nat.mul_comm BB c, BB_eq, e]
 omega
set_option maxHeartbeats 2000000 in
theorem subVV_g (n gz oz lz cz gx ox cx gy oy cy : Nat) (F X Y : Nat → Nat) (w : World) (hz : BlkW w gz lz F) (hx : Words w gx ox n X) (hy : Words w gy oy n Y) (hzn : oz + n ≤ lz)
  (ha : gx = gz → ox = oz) (hb : gy = gz → oy = oz) :
  Calls Tryz.prog 199 #[.slice (some ⟨gz, oz, none⟩) n cz, .slice (some ⟨gx, ox, none⟩) n cx, .slice (some ⟨gy, oy, none⟩) n cy] w fun e w' =>
   ∃ (c : Nat) (G : Nat → Nat), e = .returned (.int .u64 c) ∧ c ≤ 1 ∧ BlkW w' gz lz G ∧ (∀ j, j < oz ∨ oz + n ≤ j → G j = F j) ∧ Vb BB X 0 n + BB ^ n * c = Vb BB G oz n + Vb BB Y 0 n ∧ Fr (· = gz) w w' := by
 have hroom := hz.room
 rw [LL_eq] at hroom
 have b0 : ((n : Int) != (n : Int)) = false := by simp
 go_enter Tryz.func199, Tryz.ntmps199
 go_wp2
 go_loopw [6, 25] (fun c i wr => ∃ (k cc : Nat) (G : Nat → Nat), k ≤ n ∧ i = .int .i64 k ∧ c = .int .u64 cc ∧ cc ≤ 1 ∧ BlkW wr gz lz G ∧ Hid (∀ j, j < oz ∨ oz + k ≤ j → G j = F j) ∧ Hid (Vb BB X 0 k + BB ^ k * cc = Vb BB G oz k + Vb BB Y 0 k) ∧ Fr (· = gz) w wr)
  (fun _ i _ => n - (intOf i).toNat)
 case atStart => exact ⟨0, 0, F, Nat.zero_le _, rfl, rfl, by omega, hz, fun _ _ => rfl, by simp [Vb, Hid], Fr.refl _ _⟩
 case round =>
  obtain ⟨k, cc, G, hk, rfl, rfl, hcc, hG, hold, hV, hfr⟩ := hrel
  by_cases hlt : k < n
  ·have hXk : ∃ xk : Nat, Hid (xk = X k) ∧ xk < 18446744073709551616 ∧ wr.cell? ⟨gx, ox + k, none⟩ = some (.int .u64 xk) := by
    refine ⟨X k, rfl, hx.word _ (by omega), ?_⟩
    by_cases e : gx = gz
    ·subst e
     obtain rfl := ha rfl
     rw [hG.cell (by omega), hold.out _ (by omega), ← hz.cell (by omega), hx.cell _ (by omega)]
    ·exact (hx.fr hfr e).cell _ (by omega)
   obtain ⟨xk, hxk, hxlt, hxc⟩ := hXk
   have hYk : ∃ yk : Nat, Hid (yk = Y k) ∧ yk < 18446744073709551616 ∧ wr.cell? ⟨gy, oy + k, none⟩ = some (.int .u64 yk) := by
    refine ⟨Y k, rfl, hy.word _ (by omega), ?_⟩
    by_cases e : gy = gz
    ·subst e
     obtain rfl := hb rfl
     rw [hG.cell (by omega), hold.out _ (by omega), ← hz.cell (by omega), hy.cell _ (by omega)]
    ·exact (hy.fr hfr e).cell _ (by omega)
   obtain ⟨yk, hyk, hylt, hyc⟩ := hYk
   have hzc : wr.cell? ⟨gz, oz + k, none⟩ = some (.int .u64 (G (oz + k) : Nat)) := hG.cell (by omega)
   have hzf := hG.free (oz + k)
   obtain ⟨z, c, hc, hzl, he, M⟩ := bits_Sub_ex xk yk cc hxlt hylt hcc
   have HM := Lib.hid M
   have HE := Lib.hid he
   clear M he
   go_wp2
   go_quiet ((go_at_call 200; exact Calls.quiet_of_same ((HM.out _).mono fun _ _ h => ⟨h.1, h.2.symm⟩)))
   go_wp2
   go_roundw
   case rel =>
    refine ⟨k + 1, c, upd G (oz + k) z, by omega, by go_num, rfl, hc, (hG.drewN _).store (i := oz + k) (x := z) hzl, fun j hj => by rw [upd_other _ _ _ _ (by omega)]; exact hold.out j (by omega), ?_, (hfr.drewN _).setCell _ _ (.inr rfl)⟩
    exact sub_step hV.out hxk.out hyk.out HE.out
   case measure => simp [intOf]; omega
  ·go_wp2
   go_ret
   obtain rfl : k = n := by omega
   exact ⟨cc, G, rfl, hcc, hG, hold.out, hV.out, hfr⟩
theorem subVV (n gz oz lz cz gx ox cx gy oy cy : Nat) (F X Y : Nat → Nat) (w : World) (hz : BlkW w gz lz F) (hx : Words w gx ox n X) (hy : Words w gy oy n Y) (hzn : oz + n ≤ lz)
  (ha : gx = gz → ox = oz) (hb : gy = gz → oy = oz) :
  Calls Tryz.prog 143 #[.slice (some ⟨gz, oz, none⟩) n cz, .slice (some ⟨gx, ox, none⟩) n cx, .slice (some ⟨gy, oy, none⟩) n cy] w fun e w' =>
   ∃ (c : Nat) (G : Nat → Nat), e = .returned (.int .u64 c) ∧ c ≤ 1 ∧ BlkW w' gz lz G ∧ (∀ j, j < oz ∨ oz + n ≤ j → G j = F j) ∧ Vb BB X 0 n + BB ^ n * c = Vb BB G oz n + Vb BB Y 0 n ∧ Fr (· = gz) w w' := by
 go_enter Tryz.func143, Tryz.ntmps143
 go_wp2_with fail
 refine (subVV_g n gz oz lz cz gx ox cx gy oy cy F X Y w hz hx hy hzn ha hb).mono ?_
 rintro e w1 ⟨c, G, rfl, h⟩
 go_wp2
 go_ret
 exact ⟨c, G, rfl, h⟩
set_option maxHeartbeats 2000000 in
theorem addVV_g (n gz oz lz cz gx ox cx gy oy cy : Nat) (F X Y : Nat → Nat) (w : World) (hz : BlkW w gz lz F) (hx : Words w gx ox n X) (hy : Words w gy oy n Y) (hzn : oz + n ≤ lz)
  (ha : gx = gz → ox = oz) (hb : gy = gz → oy = oz) :
  Calls Tryz.prog 259 #[.slice (some ⟨gz, oz, none⟩) n cz, .slice (some ⟨gx, ox, none⟩) n cx, .slice (some ⟨gy, oy, none⟩) n cy] w fun e w' =>
   ∃ (c : Nat) (G : Nat → Nat), e = .returned (.int .u64 c) ∧ c ≤ 1 ∧ BlkW w' gz lz G ∧ (∀ j, j < oz ∨ oz + n ≤ j → G j = F j) ∧ Vb BB G oz n + BB ^ n * c = Vb BB X 0 n + Vb BB Y 0 n ∧ Fr (· = gz) w w' := by
 have hroom := hz.room
 rw [LL_eq] at hroom
 have b0 : ((n : Int) != (n : Int)) = false := by simp
 go_enter Tryz.func259, Tryz.ntmps259
 go_wp2
 go_loopw [6, 25] (fun c i wr => ∃ (k cc : Nat) (G : Nat → Nat), k ≤ n ∧ i = .int .i64 k ∧ c = .int .u64 cc ∧ cc ≤ 1 ∧ BlkW wr gz lz G ∧ Hid (∀ j, j < oz ∨ oz + k ≤ j → G j = F j) ∧ Hid (Vb BB G oz k + BB ^ k * cc = Vb BB X 0 k + Vb BB Y 0 k) ∧ Fr (· = gz) w wr)
  (fun _ i _ => n - (intOf i).toNat)
 case atStart => exact ⟨0, 0, F, Nat.zero_le _, rfl, rfl, by omega, hz, fun _ _ => rfl, by simp [Vb, Hid], Fr.refl _ _⟩
 case round =>
  obtain ⟨k, cc, G, hk, rfl, rfl, hcc, hG, hold, hV, hfr⟩ := hrel
  by_cases hlt : k < n
  ·have hXk : ∃ xk : Nat, Hid (xk = X k) ∧ xk < 18446744073709551616 ∧ wr.cell? ⟨gx, ox + k, none⟩ = some (.int .u64 xk) := by
    refine ⟨X k, rfl, hx.word _ (by omega), ?_⟩
    by_cases e : gx = gz
    ·subst e
     obtain rfl := ha rfl
     rw [hG.cell (by omega), hold.out _ (by omega), ← hz.cell (by omega), hx.cell _ (by omega)]
    ·exact (hx.fr hfr e).cell _ (by omega)
   obtain ⟨xk, hxk, hxlt, hxc⟩ := hXk
   have hYk : ∃ yk : Nat, Hid (yk = Y k) ∧ yk < 18446744073709551616 ∧ wr.cell? ⟨gy, oy + k, none⟩ = some (.int .u64 yk) := by
    refine ⟨Y k, rfl, hy.word _ (by omega), ?_⟩
    by_cases e : gy = gz
    ·subst e
     obtain rfl := hb rfl
     rw [hG.cell (by omega), hold.out _ (by omega), ← hz.cell (by omega), hy.cell _ (by omega)]
    ·exact (hy.fr hfr e).cell _ (by omega)
   obtain ⟨yk, hyk, hylt, hyc⟩ := hYk
   have hzc : wr.cell? ⟨gz, oz + k, none⟩ = some (.int .u64 (G (oz + k) : Nat)) := hG.cell (by omega)
   have hzf := hG.free (oz + k)
   obtain ⟨z, c, hc, hzl, he, M⟩ := bits_Add_ex xk yk cc hxlt hylt hcc
   have HM := Lib.hid M
   have HE := Lib.hid he
   clear M he
   go_wp2
   go_quiet ((go_at_call 246; exact Calls.quiet_of_same ((HM.out _).mono fun _ _ h => ⟨h.1, h.2.symm⟩)))
   go_wp2
   go_roundw
   case rel =>
    refine ⟨k + 1, c, upd G (oz + k) z, by omega, by go_num, rfl, hc, (hG.drewN _).store (i := oz + k) (x := z) hzl, fun j hj => by rw [upd_other _ _ _ _ (by omega)]; exact hold.out j (by omega), ?_, (hfr.drewN _).setCell _ _ (.inr rfl)⟩
    exact add_step hV.out hxk.out hyk.out HE.out
   case measure => simp [intOf]; omega
  ·go_wp2
   go_ret
   obtain rfl : k = n := by omega
   exact ⟨cc, G, rfl, hcc, hG, hold.out, hV.out, hfr⟩
theorem addVV (n gz oz lz cz gx ox cx gy oy cy : Nat) (F X Y : Nat → Nat) (w : World) (hz : BlkW w gz lz F) (hx : Words w gx ox n X) (hy : Words w gy oy n Y) (hzn : oz + n ≤ lz)
  (ha : gx = gz → ox = oz) (hb : gy = gz → oy = oz) :
  Calls Tryz.prog 218 #[.slice (some ⟨gz, oz, none⟩) n cz, .slice (some ⟨gx, ox, none⟩) n cx, .slice (some ⟨gy, oy, none⟩) n cy] w fun e w' =>
   ∃ (c : Nat) (G : Nat → Nat), e = .returned (.int .u64 c) ∧ c ≤ 1 ∧ BlkW w' gz lz G ∧ (∀ j, j < oz ∨ oz + n ≤ j → G j = F j) ∧ Vb BB G oz n + BB ^ n * c = Vb BB X 0 n + Vb BB Y 0 n ∧ Fr (· = gz) w w' := by
 go_enter Tryz.func218, Tryz.ntmps218
 go_wp2_with fail
 refine (addVV_g n gz oz lz cz gx ox cx gy oy cy F X Y w hz hx hy hzn ha hb).mono ?_
 rintro e w1 ⟨c, G, rfl, h⟩
 go_wp2
 go_ret
 exact ⟨c, G, rfl, h⟩
structure Bs (w : World) (g sz len : Nat) (F : Nat → Nat) : Prop where
 row : ∃ c : Array Value, w.heap[g]? = some (.cells c TW (0, 0)) ∧ c.size = sz ∧ ∀ j, j < len → c[j]? = some (.int .u64 (F j : Nat))
 word : ∀ j, j < len → F j < BB
 le : len ≤ sz
 room : len ≤ LL
section
variable {w w' : World} {g sz len : Nat} {F : Nat → Nat}
theorem Blk.bs (h : BlkW w g len F) : Bs w g len len F := ⟨h.row, h.word, Nat.le_refl _, h.room⟩
theorem Bs.blk (h : Bs w g len len F) : BlkW w g len F := ⟨h.row, h.word, h.room⟩
theorem Bs.lt (h : Bs w g sz len F) : g < w.heap.size := by
 obtain ⟨c, hc, _⟩ := h.row
 exact (zLt hc)
theorem Bs.of_eq (h : Bs w g sz len F) (e : w'.heap[g]? = w.heap[g]?) : Bs w' g sz len F :=
 ⟨by obtain ⟨c, hc, r⟩ := h.row; exact ⟨c, e.trans hc, r⟩, h.word, h.le, h.room⟩
theorem Bs.fr {S : Nat → Prop} (h : Bs w g sz len F) (f : Fr S w w') (hn : ¬ S g) : Bs w' g sz len F := h.of_eq (f.block g h.lt hn)
theorem Bs.drew (h : Bs w g sz len F) : Bs w.drew g sz len F := h.of_eq rfl
theorem Bs.drewN (h : Bs w g sz len F) (n : Nat) : Bs (w.drewN n) g sz len F := h.of_eq rfl
theorem Bs.cell (h : Bs w g sz len F) {j : Nat} (hj : j < len) : w.cell? ⟨g, j, none⟩ = some (.int .u64 (F j : Nat)) := by
 obtain ⟨c, hc, hs, hr⟩ := h.row
 simp [World.cell?, hc, hr j hj]
theorem Bs.free (h : Bs w g sz len F) (j : Nat) : w.frozen? ⟨g, j, none⟩ = false := by
 obtain ⟨c, hc, _⟩ := h.row
 simp [World.frozen?, hc]
theorem Bs.store (h : Bs w g sz len F) {i x : Nat} (hx : x < BB) : Bs (w.setCell ⟨g, i, none⟩ (.int .u64 (x : Nat))) g sz len (upd F i x) := by
 obtain ⟨c, hc, hs, hr⟩ := h.row
 have hle := h.le
 refine ⟨⟨c.setIfInBounds i (.int .u64 (x : Nat)), ?_, by simp [hs], fun j hj => ?_⟩, fun j hj => ?_, h.le, h.room⟩
 ·simp [World.setCell, Array.getElem?_modify, hc]
 ·rw [Array.getElem?_setIfInBounds]
  by_cases e : i = j
  ·subst e; rw [if_pos rfl, if_pos (by omega), upd_same]
  ·rw [if_neg e, hr j hj, upd_other _ _ _ _ (fun x => e x.symm)]
 ·unfold upd; split
  ·exact hx
  ·exact h.word j hj
theorem Bs.congr {G : Nat → Nat} (h : Bs w g sz len F) (e : ∀ j, j < len → F j = G j) : Bs w g sz len G :=
 ⟨by obtain ⟨c, hc, hs, hr⟩ := h.row; exact ⟨c, hc, hs, fun j hj => by rw [hr j hj, e j hj]⟩, fun j hj => by rw [← e j hj]; exact h.word j hj, h.le, h.room⟩
theorem Bs.words (h : Bs w g sz len F) {o n : Nat} (hn : o + n ≤ len) : Words w g o n (fun j => F (o + j)) :=
 ⟨fun j hj => h.cell (by omega), fun j hj => h.word _ (by omega)⟩
end
theorem setCells_bs (g sz len : Nat) (f : Nat → Nat) : ∀ (n off : Nat) (w : World) (F : Nat → Nat), Bs w g sz len F → (∀ j, off ≤ j → j < off + n → f j < BB) → off + n ≤ len →
  Bs (w.setCells g off ((List.range' off n).map fun j => .int .u64 (f j : Nat))) g sz len (fun j => if off ≤ j ∧ j < off + n then f j else F j) ∧ Fr (· = g) w (w.setCells g off ((List.range' off n).map fun j => .int .u64 (f j : Nat)))
 | 0, off, w, F, hb, _, _ => ⟨by simp only [List.range'_zero, List.map_nil, World.setCells]; exact hb.congr (fun j _ => by rw [if_neg (by omega)]), Fr.refl _ _⟩
 | n + 1, off, w, F, hb, hf, hl => by
  have h1 := hb.store (i := off) (hf off (by omega) (by omega))
  obtain ⟨h2, h3⟩ := setCells_bs g sz len f n (off + 1) _ _ h1 (fun j a b => hf j (by omega) (by omega)) (by omega)
  simp only [List.range'_succ, List.map_cons, World.setCells]
  refine ⟨h2.congr fun j _ => ?_, ((Fr.refl (· = g) w).setCell ⟨g, off, none⟩ _ (.inr rfl)).trans' h3⟩
  by_cases e1 : off + 1 ≤ j ∧ j < off + 1 + n
  ·rw [if_pos e1, if_pos (by omega)]
  ·rw [if_neg e1]
   unfold upd
   by_cases e2 : j = off
   ·subst e2; rw [if_pos rfl, if_pos (by omega)]
   ·rw [if_neg e2, if_neg (by omega)]
theorem copy_bs {ops : Array Oper} {rest : List Oper} {o : Oper} {a : Act} {w : World} {Q : Exit → Act → World → Prop} (hgd : o.guard = none) (d s : Operand) (dT sT : TypeId)
  (ho : o.op = .call { callee := .builtin .copy, args := #[d, s], argTypes := #[dT, sT] }) (hu : Tryz.prog.underlying dT = some (.slice TW)) (g off dl dc sz len gx ox sl sc : Nat) (F X : Nat → Nat)
  (hd : a.eval d = .slice (some ⟨g, off, none⟩) dl dc) (hs : a.eval s = .slice (some ⟨gx, ox, none⟩) sl sc) (hb : Bs w g sz len F) (hn : off + dl ≤ len) (hx : Words w gx ox sl X) (hle : sl ≤ dl)
  (h : ∀ w' G, Bs w' g sz len G → Hid (∀ j, j < sl → G (off + j) = X j) → Hid (∀ j, j < off ∨ off + sl ≤ j → G j = F j) → Fr (· = g) w w' → wpList Tryz.prog ops Q rest (a.put o.dst (.int .i64 sl)) w') :
  wpList Tryz.prog ops Q (o :: rest) a w := by
 refine wpList_plain hgd fun K hK => ?_
 unfold Oper.wp
 have hsz : (Tryz.prog.info? TW).map (·.size) = some 1 := by kernel_rfl
 have hrep : (List.range' off sl).map (fun j => Value.int .u64 ((X (j - off) : Nat) : Int)) = (List.range sl).map fun j => Value.int .u64 ((X j : Nat) : Int) := by
  apply List.ext_getElem
  ·simp
  ·intro i h1 h2; simp
 have hrun := run_copy_cells (P := Tryz.prog) w dT sT o.type TW g off dl dc ⟨gx, ox, none⟩ sl sc ((List.range' off sl).map fun j => Value.int .u64 ((X (j - off) : Nat) : Int)) hu hsz
  (by simp only [List.length_map, List.length_range']; exact (Nat.min_eq_left hle).symm)
  (fun j v hv => by
   rw [hrep] at hv
   rw [List.getElem?_map] at hv
   by_cases hj : j < sl
   ·rw [List.getElem?_range hj] at hv
    simp at hv
    subst hv
    have hadd : (⟨gx, ox, none⟩ : Addr).add j = ⟨gx, ox + j, none⟩ := by unfold Addr.add; split <;> simp_all
    rw [hadd]
    exact hx.cell j hj
   ·rw [List.getElem?_eq_none (by simp; omega)] at hv; simp at hv)
  (fun j hj => by rw [hb.cell (by simp at hj; omega)]; rfl) (fun j hj => hb.free _) (fun v hv => by simp at hv; obtain ⟨j, _, rfl⟩ := hv; rfl)
 obtain ⟨h2, h3⟩ := setCells_bs g sz len (fun j => X (j - off)) sl off w F hb (fun j a b => hx.word _ (by omega)) (by omega)
 simp only [execOp, ho, resolve, invoke, builtin, List.map_toArray, List.map_cons, List.map_nil, hd, hs]
 simp only [Sem.run_bind, Sem.run_pure, hrun, Result.andThen_ok]
 have hlen : goInt ((List.range' off sl).map fun j => Value.int .u64 ((X (j - off) : Nat) : Int)).length = .int .i64 sl := by unfold goInt; rw [List.length_map, List.length_range']
 rw [hlen]
 exact hK _ _ (h _ _ h2 (fun j hj => by show (if _ then X (off + j - off) else _) = _; rw [if_pos (by omega), Nat.add_sub_cancel_left]) (fun j a => by rw [if_neg (by omega)]) h3)
set_option maxHeartbeats 1000000 in
theorem mulAddVWW_gs (n gz oz sz lz cz gx ox cx y r : Nat) (F X : Nat → Nat) (w : World) (hz : Bs w gz sz lz F) (hx : Words w gx ox n X) (hzn : oz + n ≤ lz)
  (ha : gx = gz → ox = oz ∨ ox + n ≤ oz) (hy : y < BB) (hr : r < BB) :
  Calls Tryz.prog 269 #[.slice (some ⟨gz, oz, none⟩) n cz, .slice (some ⟨gx, ox, none⟩) n cx, .int .u64 y, .int .u64 r] w fun e w' =>
   ∃ (c : Nat) (G : Nat → Nat), e = .returned (.int .u64 c) ∧ c < BB ∧ Bs w' gz sz lz G ∧ (∀ j, j < oz ∨ oz + n ≤ j → G j = F j) ∧ Vb BB G oz n + BB ^ n * c = Vb BB X 0 n * y + r ∧ Fr (· = gz) w w' := by
 have hroom := hz.room
 rw [LL_eq] at hroom
 rw [BB_eq] at hy hr
 go_enter Tryz.func269, Tryz.ntmps269
 go_wp2
 go_loopw [8, 19] (fun c i wr => ∃ (k cc : Nat) (G : Nat → Nat), k ≤ n ∧ i = .int .i64 k ∧ c = .int .u64 cc ∧ cc < 18446744073709551616 ∧ Bs wr gz sz lz G ∧ Hid (∀ j, j < oz ∨ oz + k ≤ j → G j = F j) ∧ Hid (Vb BB G oz k + BB ^ k * cc = Vb BB X 0 k * y + r) ∧ Fr (· = gz) w wr)
  (fun _ i _ => n - (intOf i).toNat)
 case atStart => exact ⟨0, r, F, Nat.zero_le _, rfl, rfl, hr, hz, fun _ _ => rfl, by simp [Vb, Hid], Fr.refl _ _⟩
 case round =>
  obtain ⟨k, cc, G, hk, rfl, rfl, hcc, hG, hold, hV, hfr⟩ := hrel
  by_cases hlt : k < n
  ·have hXk : ∃ xk : Nat, Hid (xk = X k) ∧ xk < 18446744073709551616 ∧ wr.cell? ⟨gx, ox + k, none⟩ = some (.int .u64 xk) := by
    refine ⟨X k, rfl, hx.word _ (by omega), ?_⟩
    by_cases e : gx = gz
    ·subst e
     have := ha rfl
     rw [hG.cell (by omega), hold.out _ (by omega), ← hz.cell (by omega), hx.cell _ (by omega)]
    ·exact (hx.fr hfr e).cell _ (by omega)
   obtain ⟨xk, hxk, hxlt, hcell⟩ := hXk
   have hzc : wr.cell? ⟨gz, oz + k, none⟩ = some (.int .u64 (G (oz + k) : Nat)) := hG.cell (by omega)
   have hzf := hG.free (oz + k)
   go_wp2_with (go_at_call 290; refine (mulAddWWW_g xk y cc hxlt hy hcc _).mono ?_; rintro e w' ⟨rfl, rfl⟩)
   go_roundw
   case rel =>
    refine ⟨k + 1, (xk * y + cc) / 18446744073709551616, upd G (oz + k) ((xk * y + cc) % 18446744073709551616), by omega, by go_num, int_eq (cdiv _), ?_, hG.store (x := (xk * y + cc) % 18446744073709551616) (Nat.mod_lt _ BB_pos), fun j hj => by rw [upd_other _ _ _ _ (by omega)]; exact hold.out j (by omega), ?_, hfr.setCell _ _ (.inr rfl)⟩
    ·exact hi_lt xk y cc hxlt hy hcc
    ·exact mul_step hV.out hxk.out
   case measure => simp [intOf]; omega
  ·go_wp2
   go_ret
   obtain rfl : k = n := by omega
   exact ⟨cc, G, rfl, hcc, hG, hold.out, hV.out, hfr⟩
theorem mulAddVWW_s (n gz oz sz lz cz gx ox cx y r : Nat) (F X : Nat → Nat) (w : World) (hz : Bs w gz sz lz F) (hx : Words w gx ox n X) (hzn : oz + n ≤ lz)
  (ha : gx = gz → ox = oz ∨ ox + n ≤ oz) (hy : y < BB) (hr : r < BB) :
  Calls Tryz.prog 231 #[.slice (some ⟨gz, oz, none⟩) n cz, .slice (some ⟨gx, ox, none⟩) n cx, .int .u64 y, .int .u64 r] w fun e w' =>
   ∃ (c : Nat) (G : Nat → Nat), e = .returned (.int .u64 c) ∧ c < BB ∧ Bs w' gz sz lz G ∧ (∀ j, j < oz ∨ oz + n ≤ j → G j = F j) ∧ Vb BB G oz n + BB ^ n * c = Vb BB X 0 n * y + r ∧ Fr (· = gz) w w' := by
 go_enter Tryz.func231, Tryz.ntmps231
 go_wp2_with fail
 refine (mulAddVWW_gs n gz oz sz lz cz gx ox cx y r F X w hz hx hzn ha hy hr).mono ?_
 rintro e w1 ⟨c, G, rfl, h⟩
 go_wp2
 go_ret
 exact ⟨c, G, rfl, h⟩
end Go.Proofs.YtilmldfbmmcchaaGreatDoor
