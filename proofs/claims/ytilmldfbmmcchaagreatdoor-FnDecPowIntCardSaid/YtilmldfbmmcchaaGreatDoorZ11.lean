/- Whole numbers of any length: new ones, small ones, their signs. How many bits a word has: the library's own text, walked. No conditions but that the word is a word. Bits of words: how many there are, how far to shift, differences with a borrow. No conditions but that the words are words. Plain laws of long division: the guess of one digit of the quotient, by a reciprocal and by the highest digits. No conditions but those that each law tells. A number of two words divided by a word: the library's own text, walked. Differences of words with a borrow. No conditions but that the words are words. Conditions: each theorem bears its own. -/
import Derived.Deep.Light
import Derived.IntWalk
import Derived.Lib.BitFns
import Derived.Lib.Slices
import Derived.Lib.Small
import Derived.Lib.Strings
import Derived.Lib.Walk
import Derived.Test.YtilmldfbmmcchaaGreatDoorChecked
import Derived.Test.YtilmldfbmmcchaaGreatDoorZ10
set_option linter.unusedVariables false
set_option linter.unusedSimpArgs false
namespace Go.Proofs.YtilmldfbmmcchaaGreatDoor
open Go.RowKit
theorem blk_one (w : World) (x : Nat) (hx : x < BB) : BlkW (w.alloc (.cells #[.int .u64 (x : Int)] TW (0, 0))) w.heap.size 1 (fun _ => x) :=
 ⟨⟨_, heap_alloc_new w _, rfl, fun j hj => by obtain rfl : j = 0 := by omega
                                              rfl⟩, fun _ _ => hx, by rw [LL_eq]; omega⟩
theorem newz_one (w : World) (s : Bool) (x : Nat) (hx : x < BB) (h0 : 0 < x) :
  NewZ w ((w.alloc (.cells #[.int .u64 (x : Int)] TW (0, 0))).alloc (.cells #[.bool s, .slice (some ⟨w.heap.size, 0, none⟩) 1 1] TI (0, 0))) (w.heap.size + 1) (sgn s x) := by
 have hb := (blk_one w x hx).alloc (.cells #[.bool s, .slice (some ⟨w.heap.size, 0, none⟩) 1 1] TI (0, 0))
 refine ⟨((Fr.refl NoS w).alloc _).alloc _, Nat.le_succ _, s, .slice (some ⟨w.heap.size, 0, none⟩) 1 1, 1, fun _ => x, ⟨?_, .inr ⟨w.heap.size, 1, rfl, Nat.le_refl _, hb⟩, .inr h0, fun _ => by omega⟩, ?_, fun k hk => ?_⟩
 ·have := heap_alloc_new (w.alloc (.cells #[.int .u64 (x : Int)] TW (0, 0))) (.cells #[.bool s, .slice (some ⟨w.heap.size, 0, none⟩) 1 1] TI (0, 0))
  simpa using this
 ·simp [Vb]
 ·simp only [Value.ownBlock, Option.some.injEq] at hk
  omega
theorem newz_zero (w : World) : NewZ w (w.alloc (.cells #[.bool false, .slice none 0 0] TI (0, 0))) w.heap.size 0 :=
 ⟨(Fr.refl NoS w).alloc _, Nat.le_refl _, _, _, 0, fun _ => 0, (Zr.made w).own, rfl, fun k hk => by simp [Value.ownBlock] at hk⟩
set_option maxRecDepth 100000 in
set_option maxHeartbeats 2000000 in
theorem big_NewInt (x : Int) (w : World) (h1 : -9223372036854775808 < x) (h2 : x ≤ 9223372036854775807) :
  Calls Tryz.prog 36 #[.int .i64 x] w fun e w' => ∃ p, e = .returned (.pointer (some ⟨p, 0, none⟩)) ∧ NewZ w w' p x := by
 rcases Int.lt_trichotomy x 0 with h | rfl | h
 ·obtain ⟨n, rfl⟩ : ∃ n : Nat, x = -(n : Int) := ⟨x.natAbs, by omega⟩
  have b1 : decide (-(n : Int) < 0) = true := by simp; omega
  have b2 : ((-(n : Int)) == 0) = false := by simp; omega
  have e1 : IntKind.u64.wrap (-(n : Int)) = 18446744073709551616 - n := by simp [IntKind.wrap, IntKind.bits, IntKind.signed]; omega
  have e2 : IntKind.u64.wrap (-(18446744073709551616 - (n : Int))) = n := by simp [IntKind.wrap, IntKind.bits, IntKind.signed]; omega
  have e3 : IntKind.u64.wrap ((n : Int) - 18446744073709551616) = n := by simp [IntKind.wrap, IntKind.bits, IntKind.signed]; omega
  have hn : n < BB := by unfold BB; omega
  have hp : 0 < n := by omega
  have H := newz_one w true n hn hp
  have HH := Lib.hid H
  clear H h h1 h2 hn
  go_enter Tryz.func36, Tryz.ntmps36
  go_wp2
  go_ret
  exact ⟨_, rfl, HH.out⟩
 ·have b1 : decide ((0 : Int) < 0) = false := by simp
  have b2 : ((0 : Int) == 0) = true := by simp
  go_enter Tryz.func36, Tryz.ntmps36
  go_wp2
  go_ret
  exact ⟨_, rfl, newz_zero w⟩
 ·obtain ⟨n, rfl⟩ : ∃ n : Nat, x = (n : Int) := ⟨x.natAbs, by omega⟩
  have b1 : decide ((n : Int) < 0) = false := by simp
  have b2 : ((n : Int) == 0) = false := by simp; omega
  have e1 : IntKind.u64.wrap (n : Int) = n := by simp [IntKind.wrap, IntKind.bits, IntKind.signed]; omega
  have hn : n < BB := by unfold BB; omega
  have hp : 0 < n := by omega
  have H := newz_one w false n hn hp
  have HH := Lib.hid H
  clear H h h1 h2 hn
  go_enter Tryz.func36, Tryz.ntmps36
  go_wp2
  go_ret
  exact ⟨_, rfl, HH.out⟩
theorem z_Sign (p : Nat) (z : Int) (w : World) (h : RI w p z) :
  Calls Tryz.prog 58 #[.pointer (some ⟨p, 0, none⟩)] w fun e w' => e = .returned (.int .i64 z.sign) ∧ w = w' := by
 obtain ⟨s, v, n, F, h1, rfl⟩ := h
 have hp := h1.top.pos
 refine (int_Sign p n s v F w h1).mono ?_
 rintro e w' ⟨rfl, rfl⟩
 refine ⟨ret1 ?_, rfl⟩
 by_cases hn : n = 0
 ·subst hn; simp [Vb, sgn]
 ·have h2 := hp.2 (by omega)
  rw [if_neg hn]
  cases s
  ·simp [sgn, Int.sign_eq_one_of_pos (show (0 : Int) < (Vb BB F 0 n : Nat) by omega)]
  ·simp [sgn, Int.sign_eq_one_of_pos (show (0 : Int) < (Vb BB F 0 n : Nat) by omega)]
set_option maxHeartbeats 1000000 in
theorem z_CmpAbs (p q : Nat) (y z : Int) (w : World) (h : RI w p y) (k : RI w q z) :
  Calls Tryz.prog 99 #[.pointer (some ⟨p, 0, none⟩), .pointer (some ⟨q, 0, none⟩)] w fun e w' => e = .returned (.int .i64 (cmpI y.natAbs z.natAbs)) ∧ Fr NoS w w' := by
 obtain ⟨s, v, n, F, h1, rfl⟩ := h
 obtain ⟨t, u, m, G, k1, rfl⟩ := k
 rw [sgn_natAbs, sgn_natAbs]
 obtain ⟨A, c, rfl, _, _⟩ := h1.rd.shape
 obtain ⟨A', c', rfl, _, _⟩ := k1.rd.shape
 have C : ∀ nq, Calls Tryz.prog 140 #[.slice A n c, .slice A' m c'] (w.drewN nq) fun e w' => e = .returned (.int .i64 (cmpI (Vb BB F 0 n) (Vb BB G 0 m))) ∧ ∃ q, w' = (w.drewN nq).drewN q :=
  fun nq => nat_cmp _ _ n m F G (w.drewN nq) (h1.rd.fr ((Fr.refl NoS w).drewN nq) (fun _ _ x => x)) (k1.rd.fr ((Fr.refl NoS w).drewN nq) (fun _ _ x => x)) h1.top k1.top
 generalize cmpI (Vb BB F 0 n) (Vb BB G 0 m) = r at C ⊢
 have c1 := h1.c1
 have d1 := k1.c1
 go_enter Tryz.func99, Tryz.ntmps99
 go_wp2
 go_quiet ((go_at_call 140; exact Calls.quiet_of (C _)))
 go_wp2
 go_ret
 exact ⟨rfl, (Fr.refl NoS w).drewN _⟩
end Go.Proofs.YtilmldfbmmcchaaGreatDoor
namespace Go.Proofs.YtilmldfbmmcchaaGreatDoor
theorem len_add (k a b : Nat) (hk : k ≤ 56) (ha : a ≤ 8) (hb : b = k + a) : RowKit.wrap64 ((k : Int) + RowKit.wrap64 (a : Int)) = (b : Int) := by
 unfold RowKit.wrap64
 omega
theorem len_two (a : Nat) (ha : a ≤ 8) : RowKit.wrap64 (RowKit.wrap64 (a : Int)) = (a : Int) := by
 unfold RowKit.wrap64
 omega
theorem len_byte (y : Int) (h : y.toNat < Lib.len8tab.size) : ((Lib.len8tab[y.toNat]'h).toNat : Int) = Lib.len8 y := by
 unfold Lib.len8
 rw [getElem?_pos Lib.len8tab y.toNat h]
 rfl
set_option maxHeartbeats 32000000 in
set_option maxRecDepth 1000000 in
theorem bits_Len64 (x : Int) (w : World) (h0 : 0 ≤ x) (h1 : x ≤ 18446744073709551615) :
  Calls Tryz.prog 118 #[.int .u64 x] w fun e w' => e = .returned (.int .i64 (Lib.bitLen x.toNat)) ∧ w' = w := by
 go_enter Tryz.func118, Tryz.ntmps118
 go_wp2
 all_goals first
  | (go_ret; refine ⟨congrArg Ending.returned (congrArg (Value.int IntKind.i64) ?_), rfl⟩; go_light)
  | (exfalso
     go_light
     have hs := Lib.len8tab_size
     omega)
 all_goals first
  | (rw [len_byte (x / 4294967296 / 65536 / 256) _, Lib.len8_of (x / 4294967296 / 65536 / 256) (by omega) (by omega)]
     have e : (x / 4294967296 / 65536 / 256).toNat = x.toNat / 72057594037927936 := by omega
     have l := Lib.bitLen_le8' (x / 4294967296 / 65536 / 256) (by omega) (by omega)
     have s := Lib.bitLen_shift56 x.toNat (by omega) (by omega)
     rw [e] at l ⊢
     exact len_add 56 _ _ (by decide) l s)
  | (rw [len_byte (x / 4294967296 / 65536) _, Lib.len8_of (x / 4294967296 / 65536) (by omega) (by omega)]
     have e : (x / 4294967296 / 65536).toNat = x.toNat / 281474976710656 := by omega
     have l := Lib.bitLen_le8' (x / 4294967296 / 65536) (by omega) (by omega)
     have s := Lib.bitLen_shift48 x.toNat (by omega) (by omega)
     rw [e] at l ⊢
     exact len_add 48 _ _ (by decide) l s)
  | (rw [len_byte (x / 4294967296 / 256) _, Lib.len8_of (x / 4294967296 / 256) (by omega) (by omega)]
     have e : (x / 4294967296 / 256).toNat = x.toNat / 1099511627776 := by omega
     have l := Lib.bitLen_le8' (x / 4294967296 / 256) (by omega) (by omega)
     have s := Lib.bitLen_shift40 x.toNat (by omega) (by omega)
     rw [e] at l ⊢
     exact len_add 40 _ _ (by decide) l s)
  | (rw [len_byte (x / 4294967296) _, Lib.len8_of (x / 4294967296) (by omega) (by omega)]
     have e : (x / 4294967296).toNat = x.toNat / 4294967296 := by omega
     have l := Lib.bitLen_le8' (x / 4294967296) (by omega) (by omega)
     have s := Lib.bitLen_shift32 x.toNat (by omega) (by omega)
     rw [e] at l ⊢
     exact len_add 32 _ _ (by decide) l s)
  | (rw [len_byte (x / 65536 / 256) _, Lib.len8_of (x / 65536 / 256) (by omega) (by omega)]
     have e : (x / 65536 / 256).toNat = x.toNat / 16777216 := by omega
     have l := Lib.bitLen_le8' (x / 65536 / 256) (by omega) (by omega)
     have s := Lib.bitLen_shift24 x.toNat (by omega) (by omega)
     rw [e] at l ⊢
     exact len_add 24 _ _ (by decide) l s)
  | (rw [len_byte (x / 65536) _, Lib.len8_of (x / 65536) (by omega) (by omega)]
     have e : (x / 65536).toNat = x.toNat / 65536 := by omega
     have l := Lib.bitLen_le8' (x / 65536) (by omega) (by omega)
     have s := Lib.bitLen_shift16 x.toNat (by omega) (by omega)
     rw [e] at l ⊢
     exact len_add 16 _ _ (by decide) l s)
  | (rw [len_byte (x / 256) _, Lib.len8_of (x / 256) (by omega) (by omega)]
     have e : (x / 256).toNat = x.toNat / 256 := by omega
     have l := Lib.bitLen_le8' (x / 256) (by omega) (by omega)
     have s := Lib.bitLen_shift8 x.toNat (by omega) (by omega)
     rw [e] at l ⊢
     exact len_add 8 _ _ (by decide) l s)
  | (rw [len_byte x _, Lib.len8_of x (by omega) (by omega)]
     have l := Lib.bitLen_le8' x (by omega) (by omega)
     first | exact len_two _ l | exact len_add 0 _ _ (by decide) l (by omega) | exact len_one _ l)
end Go.Proofs.YtilmldfbmmcchaaGreatDoor
namespace Go.Proofs.YtilmldfbmmcchaaGreatDoor
open Go.RowKit Go.Lib
theorem bitLenAux_top : ∀ (f x : Nat), 0 < x → x < 2 ^ f → x < 2 ^ Lib.bitLenAux f x ∧ 2 ^ (Lib.bitLenAux f x - 1) ≤ x ∧ 0 < Lib.bitLenAux f x
 | 0, x, h0, h => by simp at h; omega
 | f + 1, x, h0, h => by
  have hne : x ≠ 0 := by omega
  simp only [Lib.bitLenAux, hne, if_false]
  rcases Nat.eq_zero_or_pos (x / 2) with hz | hz
  ·have h1 : x = 1 := by omega
   subst h1
   have : Lib.bitLenAux f (1 / 2) = 0 := by cases f <;> simp [Lib.bitLenAux]
   rw [this]
   simp
  ·have := bitLenAux_top f (x / 2) hz (by rw [Nat.pow_succ] at h; omega)
   obtain ⟨h1, h2, h3⟩ := this
   obtain ⟨k, hk⟩ : ∃ k, Lib.bitLenAux f (x / 2) = k + 1 := ⟨Lib.bitLenAux f (x / 2) - 1, by omega⟩
   rw [hk] at h1 h2 ⊢
   rw [show 1 + (k + 1) = k + 2 by omega, show k + 2 - 1 = k + 1 by omega]
   simp only [Nat.add_sub_cancel] at h2
   rw [Nat.pow_succ] at h1
   rw [Nat.pow_succ, Nat.pow_succ]
   omega
theorem bitLen_top (x : Nat) (h0 : 0 < x) (h : x < BB) : x < 2 ^ Lib.bitLen x ∧ 2 ^ (Lib.bitLen x - 1) ≤ x ∧ 0 < Lib.bitLen x ∧ Lib.bitLen x ≤ 64 := by
 obtain ⟨a, b, c⟩ := bitLenAux_top 64 x h0 h
 exact ⟨a, b, c, Lib.bitLen_le x 64 (Nat.le_refl _) h⟩
theorem bits_Len (x : Nat) (w : World) (h1 : x < BB) :
  Calls Tryz.prog 145 #[.int .u64 x] w fun e w' => e = .returned (.int .i64 (Lib.bitLen x)) ∧ w' = w := by
 rw [BB_eq] at h1
 go_enter Tryz.func145, Tryz.ntmps145
 go_wp2_with (go_at_call 118; refine (bits_Len64 x _ (by omega) (by omega)).mono ?_; rintro e w' ⟨rfl, rfl⟩)
 go_ret
 exact ⟨rfl, rfl⟩
theorem bits_LeadingZeros64 (x : Nat) (w : World) (h1 : x < BB) :
  Calls Tryz.prog 293 #[.int .u64 x] w fun e w' => e = .returned (.int .i64 ((64 - Lib.bitLen x : Nat) : Int)) ∧ w' = w := by
 have l : Lib.bitLen x ≤ 64 := Lib.bitLen_le x 64 (Nat.le_refl _) h1
 rw [BB_eq] at h1
 go_enter Tryz.func293, Tryz.ntmps293
 go_wp2_with (go_at_call 118; refine (bits_Len64 x _ (by omega) (by omega)).mono ?_; rintro e w' ⟨rfl, rfl⟩; (try rw [Int.toNat_natCast]))
 go_ret
 exact ⟨ret1 (by omega), rfl⟩
theorem bits_LeadingZeros (x : Nat) (w : World) (h1 : x < BB) :
  Calls Tryz.prog 203 #[.int .u64 x] w fun e w' => e = .returned (.int .i64 ((64 - Lib.bitLen x : Nat) : Int)) ∧ w' = w := by
 have l : Lib.bitLen x ≤ 64 := Lib.bitLen_le x 64 (Nat.le_refl _) h1
 go_enter Tryz.func203, Tryz.ntmps203
 go_wp2_with (go_at_call 145; refine (bits_Len x _ h1).mono ?_; rintro e w' ⟨rfl, rfl⟩)
 go_ret
 exact ⟨ret1 (by omega), rfl⟩
theorem nlz_raw (x : Nat) (w : World) (h1 : x < BB) :
  Calls Tryz.prog 149 #[.int .u64 x] w fun e w' => e = .returned (.int .u64 ((64 - Lib.bitLen x : Nat) : Int)) ∧ w' = w := by
 have l : Lib.bitLen x ≤ 64 := Lib.bitLen_le x 64 (Nat.le_refl _) h1
 go_enter Tryz.func149, Tryz.ntmps149
 go_wp2_with (go_at_call 203; refine (bits_LeadingZeros x _ h1).mono ?_; rintro e w' ⟨rfl, rfl⟩)
 go_ret
 exact ⟨ret1 (by omega), rfl⟩
end Go.Proofs.YtilmldfbmmcchaaGreatDoor
namespace Go.Proofs.YtilmldfbmmcchaaGreatDoor
theorem recip_guess {B d M x1 x0 t : Nat} (hB : 0 < B) (hd : d ≤ B) (hM1 : M * d < B * B) (hM2 : B * B ≤ (M + 1) * d) (hx1 : x1 < d) (hx0 : x0 < B)
  (ht1 : t * B ≤ M * x1 + x0) (ht2 : M * x1 + x0 < t * B + B) : t * d ≤ x1 * B + x0 ∧ x1 * B + x0 < t * d + B + d := by
 constructor
 ·have h : t * d * B ≤ (x1 * B + x0) * B := by
   have h1 : t * B * d ≤ (M * x1 + x0) * d := Nat.mul_le_mul_right d ht1
   have h2 : M * d * x1 ≤ B * B * x1 := Nat.mul_le_mul_right x1 (Nat.le_of_lt hM1)
   have h3 : x0 * d ≤ x0 * B := Nat.mul_le_mul_left x0 hd
   have e1 : t * B * d = t * d * B := by rw [Nat.mul_right_comm]
   have e2 : (M * x1 + x0) * d = M * d * x1 + x0 * d := by rw [Nat.add_mul, Nat.mul_right_comm]
   have e3 : (x1 * B + x0) * B = B * B * x1 + x0 * B := by grind
   omega
  exact Nat.le_of_mul_le_mul_right h hB
 ·obtain ⟨e, he⟩ := Nat.exists_eq_add_of_le hd
  have i1 : x1 * B * B ≤ M * x1 * d + d * x1 := by
   have := Nat.mul_le_mul_right x1 hM2
   grind
  have i2 : M * x1 * d + x0 * d + d ≤ t * d * B + B * d := by
   have := Nat.mul_le_mul_right d (Nat.succ_le_of_lt ht2)
   grind
  have i3 : x0 * e ≤ B * e := Nat.mul_le_mul_right e (Nat.le_of_lt hx0)
  have i4 : d * x1 + d ≤ d * d := by
   have := Nat.mul_le_mul_left d (Nat.succ_le_of_lt hx1)
   grind
  have i5 : x0 * B = x0 * d + x0 * e := by rw [he, Nat.mul_add]
  have i6 : B * B = B * e + d * d + e * d := by grind
  have e1 : (x1 * B + x0) * B = x1 * B * B + x0 * B := by rw [Nat.add_mul]
  have e2 : (t * d + B + d) * B = t * d * B + B * B + B * d := by grind
  have hlt : (x1 * B + x0) * B < (t * d + B + d) * B := by omega
  exact Nat.lt_of_mul_lt_mul_right hlt
theorem guess_le {p u v U V q : Nat} (hv : v ≤ (V + 1) * p) (hu : U * p ≤ u) (hq : (q + 1) * V ≤ U) (hqV : q ≤ V) : q * v ≤ u := by
 have h1 : q * v ≤ q * ((V + 1) * p) := Nat.mul_le_mul_left q hv
 have h2 : q * (V + 1) ≤ U := by
  rw [Nat.add_mul, Nat.one_mul] at hq
  rw [Nat.mul_add, Nat.mul_one]
  omega
 have h3 := Nat.mul_le_mul_right p h2
 rw [Nat.mul_assoc] at h3
 omega
theorem guess_ge {p u v U V q : Nat} (hv : V * p ≤ v) (hu : u < (U + 1) * p) (hq : q * v ≤ u) : q * V ≤ U := by
 have h1 : q * (V * p) ≤ q * v := Nat.mul_le_mul_left q hv
 rw [← Nat.mul_assoc] at h1
 have h2 : q * V * p < (U + 1) * p := by omega
 have h3 : 0 < p := by
  rcases Nat.eq_zero_or_pos p with h | h
  ·subst h; simp at h2
  ·exact h
 have := Nat.lt_of_mul_lt_mul_right h2
 omega
theorem half_keep {b a c u n q r D : Nat} (hq : q * a + r = u) (hD : D * (a * b + c) ≤ u * b + n) (hlt : u < a * b + c) (hn : n < b) (hc : b ≤ q ∨ b * r + n < q * c) : D + 1 ≤ q := by
 rcases hc with hc | hc
 ·refine Nat.le_trans (Nat.lt_of_mul_lt_mul_right (a := a * b + c) (b := D) (c := b) ?_) hc
  have h1 : (u + 1) * b ≤ (a * b + c) * b := Nat.mul_le_mul_right b hlt
  have h2 : (u + 1) * b = u * b + b := by grind
  have h3 : b * (a * b + c) = (a * b + c) * b := Nat.mul_comm _ _
  omega
 ·refine Nat.lt_of_mul_lt_mul_right (a := a * b + c) ?_
  have h1 : q * (a * b + c) + r * b = u * b + q * c := by rw [← hq]; grind
  have h2 : b * r = r * b := Nat.mul_comm _ _
  omega
theorem half_done {b a c u n q r : Nat} (hq : q * a + r = u) (hc : q * c ≤ b * r + n) : q * (a * b + c) ≤ u * b + n := by
 have h1 : q * (a * b + c) + r * b = u * b + q * c := by rw [← hq]; grind
 have h2 : b * r = r * b := Nat.mul_comm _ _
 omega
theorem half_over {b a c u n q r : Nat} (hq : q * a + r = u) (hr : b ≤ r) (hlt : u < a * b + c) (hcb : c < b) : q < b ∧ q * c ≤ b * r + n := by
 have hqb : q < b := by
  refine Nat.lt_of_mul_lt_mul_right (a := a) ?_
  have : a * b = b * a := Nat.mul_comm _ _
  omega
 refine ⟨hqb, ?_⟩
 have h1 : q * c ≤ b * b := Nat.mul_le_mul (Nat.le_of_lt hqb) (Nat.le_of_lt hcb)
 have h2 : b * b ≤ b * r := Nat.mul_le_mul_left b hr
 omega
theorem digit_eq {T Y q D : Nat} (hY : 0 < Y) (hD : D = T / Y) (h1 : q * Y ≤ T) (h2 : D ≤ q) : q = D := by
 have : q ≤ T / Y := (Nat.le_div_iff_mul_le hY).2 h1
 omega
end Go.Proofs.YtilmldfbmmcchaaGreatDoor
namespace Go.Proofs.YtilmldfbmmcchaaGreatDoor
open Go.RowKit
structure Halves (Y U L a c m n : Nat) : Prop where
 y : Y = a * 4294967296 + c
 top : 2147483648 ≤ a
 al : a < 4294967296
 cl : c < 4294967296
 u : U < Y
 l : L = m * 4294967296 + n
 ml : m < 4294967296
 nl : n < 4294967296
theorem or_shift (hi lo s : Nat) (hs : s ≤ 63) (hh : hi * 2 ^ s < 18446744073709551616) (hl : lo < 18446744073709551616) :
  bits .or .u64 (IntKind.u64.wrap ((hi : Int) * 2 ^ s)) ((lo : Int) / 2 ^ (64 - s)) = ((hi * 2 ^ s + lo / 2 ^ (64 - s) : Nat) : Int) := by
 have e1 : ((hi : Int) * 2 ^ s) = ((hi * 2 ^ s : Nat) : Int) := by push_cast; rfl
 have e2 : (lo : Int) / 2 ^ (64 - s) = ((lo / 2 ^ (64 - s) : Nat) : Int) := by push_cast; rfl
 have e3 : lo / 2 ^ (64 - s) < 2 ^ s := by
  rw [Nat.div_lt_iff_lt_mul (Nat.pow_pos (by omega)), ← Nat.pow_add, show s + (64 - s) = 64 by omega]
  exact hl
 have e4 : lo / 2 ^ (64 - s) < 18446744073709551616 := Nat.lt_of_le_of_lt (Nat.div_le_self _ _) hl
 rw [e1, e2, MulW.wrapN _ hh, bits_or_u64_nat _ _ hh e4, Nat.mul_comm hi, Nat.two_pow_add_eq_or_of_lt e3]
theorem halves (hi lo y s : Nat) (hh : hi < y) (hl : lo < 18446744073709551616) (hs : s ≤ 63) (hy1 : y * 2 ^ s < 18446744073709551616) (hy2 : 9223372036854775808 ≤ y * 2 ^ s) :
  Halves (y * 2 ^ s) (hi * 2 ^ s + lo / 2 ^ (64 - s)) (lo * 2 ^ s % 18446744073709551616) (y * 2 ^ s / 4294967296) (y * 2 ^ s % 4294967296) (lo * 2 ^ s % 18446744073709551616 / 4294967296) (lo * 2 ^ s % 18446744073709551616 % 4294967296) ∧
  (hi * 2 ^ s + lo / 2 ^ (64 - s)) * 18446744073709551616 + lo * 2 ^ s % 18446744073709551616 = (hi * 18446744073709551616 + lo) * 2 ^ s := by
 have e3 : lo / 2 ^ (64 - s) < 2 ^ s := by
  rw [Nat.div_lt_iff_lt_mul (Nat.pow_pos (by omega)), ← Nat.pow_add, show s + (64 - s) = 64 by omega]
  exact hl
 have e5 : hi * 2 ^ s + 2 ^ s ≤ y * 2 ^ s := by
  have := Nat.mul_le_mul_right (2 ^ s) (show hi + 1 ≤ y from hh)
  rw [Nat.add_mul, Nat.one_mul] at this
  exact this
 have e6 : lo * 2 ^ s / 18446744073709551616 = lo / 2 ^ (64 - s) := by
  have : (18446744073709551616 : Nat) = 2 ^ (64 - s) * 2 ^ s := by rw [← Nat.pow_add, show 64 - s + s = 64 by omega]
  rw [this, Nat.mul_div_mul_right _ _ (Nat.pow_pos (by omega))]
 refine ⟨⟨by omega, by omega, by omega, by omega, by omega, by omega, by omega, by omega⟩, ?_⟩
 rw [← e6]
 have : (hi * 18446744073709551616 + lo) * 2 ^ s = hi * 2 ^ s * 18446744073709551616 + lo * 2 ^ s := by grind
 omega
theorem guess_le_div {D U a c m : Nat} (ha : 0 < a) (hm : m < 4294967296) (h : D * (a * 4294967296 + c) ≤ U * 4294967296 + m) : D ≤ U / a := by
 rw [Nat.le_div_iff_mul_le ha]
 have h1 : a * 4294967296 ≤ a * 4294967296 + c := Nat.le_add_right _ _
 have h2 : U * 4294967296 + m < (U + 1) * 4294967296 := by omega
 exact guess_ge h1 h2 h
set_option maxHeartbeats 4000000 in
set_option maxRecDepth 100000 in
theorem bitsDiv64_pos (hi lo y s Y U L a c m n : Nat) (w : World) (hh0 : 0 < hi) (hh : hi < y) (hs63 : s ≤ 63)
  (HL : ∀ w, Calls Tryz.prog 293 #[.int .u64 y] w fun e w' => e = .returned (.int .i64 (s : Int)) ∧ w' = w)
  (eY : IntKind.u64.wrap ((y : Int) * 2 ^ s) = Y) (eU : bits .or .u64 (IntKind.u64.wrap ((hi : Int) * 2 ^ s)) ((lo : Int) / 2 ^ (64 - s)) = U) (eL : IntKind.u64.wrap ((lo : Int) * 2 ^ s) = L) (hv : Hid (Halves Y U L a c m n)) :
  Calls Tryz.prog 291 #[.int .u64 hi, .int .u64 lo, .int .u64 y] w fun e w' => ∃ q r : Nat, e = .returned (.tuple #[.int .u64 (q : Nat), .int .u64 (((r : Nat) : Int) / 2 ^ s)]) ∧ U * 18446744073709551616 + L = q * Y + r ∧ r < Y ∧ w' = w := by
 have b1 : ((y : Int) == 0) = false := by simp; omega
 have b2 : decide (y ≤ hi) = false := decide_eq_false (by omega)
 have b3 : ((hi : Int) == 0) = false := by simp; omega
 obtain ⟨q, hq⟩ : ∃ q, Hid (q = U / a) := ⟨_, Lib.hid rfl⟩
 have HV := hv.out
 have ha := HV.top
 have hcl := HV.cl
 have hal := HV.al
 have hml := HV.ml
 have hnl := HV.nl
 have hUY := HV.u
 have hYB : Y < 18446744073709551616 := by have := HV.y; omega
 have hqB : q < 18446744073709551616 := by rw [hq.out]; exact Nat.lt_of_le_of_lt (Nat.div_le_self _ _) (by omega)
 have qa : IntKind.u64.wrap ((U : Int) / (a : Int)) = q := by rw [show (U : Int) / (a : Int) = ((U / a : Nat) : Int) from by push_cast; rfl, ← hq.out, MulW.wrapN q hqB]
 obtain ⟨r, hr⟩ : ∃ r, Hid (q * a + r = U ∧ r < a) := ⟨U % a, Lib.hid ⟨by rw [hq.out, Nat.mul_comm]; exact Nat.div_add_mod U a, Nat.mod_lt _ (by omega)⟩⟩
 have ra : IntKind.u64.wrap ((U : Int) - IntKind.u64.wrap ((q : Int) * (a : Int))) = r := by
  have h1 := hr.out.1
  have h2 := hr.out.2
  rw [MulW.mulN]
  generalize q * a = p at h1 ⊢
  rw [MulW.wrapN p (by omega), IntKind.wrap_u64]
  omega
 have ea : (Y : Int) / 4294967296 = a := by have := HV.y; have := HV.cl; omega
 have ec : bits .and .u64 (Y : Int) 4294967295 = c := by
  have h1 := HV.y; have h2 := HV.cl; have := HV.al
  rw [MulW.maskN Y (by omega)]; omega
 have em : (L : Int) / 4294967296 = m := by have := HV.l; have := HV.nl; omega
 have en : bits .and .u64 (L : Int) 4294967295 = n := by
  have h1 := HV.l; have h2 := HV.nl; have := HV.ml
  rw [MulW.maskN L (by omega)]; omega
 have a0 : ((a : Int) == 0) = false := by have := HV.top; simp; omega
 obtain ⟨D, hD⟩ : ∃ D, Hid (D = (U * 4294967296 + m) / Y) := ⟨_, Lib.hid rfl⟩
 have hDle : D * (a * 4294967296 + c) ≤ U * 4294967296 + m := by rw [hD.out, ← HV.y]; exact Nat.div_mul_le_self _ _
 have HD := Lib.hid hDle
 have hlt := HV.u
 rw [HV.y] at hlt
 have HLT := Lib.hid hlt
 have hDq : D ≤ q := by rw [hq.out]; exact guess_le_div (by omega) hml hDle
 obtain ⟨R, hR⟩ : ∃ R, Hid (D * Y + R = U * 4294967296 + m ∧ R < Y) := ⟨(U * 4294967296 + m) % Y, Lib.hid ⟨by rw [hD.out, Nat.mul_comm]; exact Nat.div_add_mod _ Y, Nat.mod_lt _ (by omega)⟩⟩
 have eR : IntKind.u64.wrap (IntKind.u64.wrap (IntKind.u64.wrap ((U : Int) * 4294967296) + (m : Int)) - IntKind.u64.wrap ((D : Int) * (Y : Int))) = R := by
  have h1 := hR.out.1
  have h2 := hR.out.2
  rw [MulW.mulN]
  generalize D * Y = p at h1 ⊢
  simp only [IntKind.wrap_u64]
  omega
 obtain ⟨q2, hq2⟩ : ∃ q2, Hid (q2 = R / a) := ⟨_, Lib.hid rfl⟩
 have hRB : R < 18446744073709551616 := by have := hR.out.2; omega
 have hqB2 : q2 < 18446744073709551616 := by rw [hq2.out]; exact Nat.lt_of_le_of_lt (Nat.div_le_self _ _) (by omega)
 have qa2 : IntKind.u64.wrap ((R : Int) / (a : Int)) = q2 := by rw [show (R : Int) / (a : Int) = ((R / a : Nat) : Int) from by push_cast; rfl, ← hq2.out, MulW.wrapN q2 hqB2]
 obtain ⟨r2, hr2⟩ : ∃ r2, Hid (q2 * a + r2 = R ∧ r2 < a) := ⟨R % a, Lib.hid ⟨by rw [hq2.out, Nat.mul_comm]; exact Nat.div_add_mod R a, Nat.mod_lt _ (by omega)⟩⟩
 have ra2 : IntKind.u64.wrap ((R : Int) - IntKind.u64.wrap ((q2 : Int) * (a : Int))) = r2 := by
  have h1 := hr2.out.1
  have h2 := hr2.out.2
  rw [MulW.mulN]
  generalize q2 * a = p at h1 ⊢
  rw [MulW.wrapN p (by omega), IntKind.wrap_u64]
  omega
 have HY := Lib.hid HV.y
 obtain ⟨E, hE⟩ : ∃ E, Hid (E = (R * 4294967296 + n) / Y) := ⟨_, Lib.hid rfl⟩
 have hEle : E * (a * 4294967296 + c) ≤ R * 4294967296 + n := by rw [hE.out, ← HV.y]; exact Nat.div_mul_le_self _ _
 have HE := Lib.hid hEle
 have hrt := hR.out.2
 rw [HV.y] at hrt
 have HRT := Lib.hid hrt
 have hEq : E ≤ q2 := by rw [hq2.out]; exact guess_le_div (by omega) hnl hEle
 obtain ⟨R0, hR0⟩ : ∃ R0, Hid (E * Y + R0 = R * 4294967296 + n ∧ R0 < Y) := ⟨(R * 4294967296 + n) % Y, Lib.hid ⟨by rw [hE.out, Nat.mul_comm]; exact Nat.div_add_mod _ Y, Nat.mod_lt _ (by omega)⟩⟩
 have hDB : D < 4294967296 := by
  rw [hD.out, Nat.div_lt_iff_lt_mul (by omega), Nat.mul_comm]
  omega
 have hEB : E < 4294967296 := by
  have := hR.out.2
  rw [hE.out, Nat.div_lt_iff_lt_mul (by omega), Nat.mul_comm]
  omega
 have eF : IntKind.u64.wrap (IntKind.u64.wrap ((D : Int) * 4294967296) + (E : Int)) = ((D * 4294967296 + E : Nat) : Int) := by simp only [IntKind.wrap_u64]; omega
 have eR0 : IntKind.u64.wrap (IntKind.u64.wrap (IntKind.u64.wrap ((R : Int) * 4294967296) + (n : Int)) - IntKind.u64.wrap ((E : Int) * (Y : Int))) = R0 := by
  have h1 := hR0.out.1
  have h2 := hR0.out.2
  rw [MulW.mulN]
  generalize E * Y = p at h1 ⊢
  simp only [IntKind.wrap_u64]
  omega
 have hfin : Hid (U * 18446744073709551616 + L = (D * 4294967296 + E) * Y + R0 ∧ R0 < Y) := Lib.hid ⟨by
  have h1 := hR0.out.1
  have h2 := hR.out.1
  have h3 := HV.l
  rw [Nat.add_mul, Nat.mul_right_comm]
  generalize D * Y = d1 at *
  generalize E * Y = d2 at *
  omega, hR0.out.2⟩
 clear hDle hlt HV hEle hrt hDB hEB
 go_enter Tryz.func291, Tryz.ntmps291
 go_wp2_with (go_at_call 293; refine (HL _).mono ?_; rintro e w' ⟨rfl, rfl⟩)
 go_loop [15, 16] (fun x y => ∃ q r : Nat, x = .int .u64 q ∧ y = .int .u64 r ∧ q < 18446744073709551616 ∧ r < 4294967296 ∧ Hid (q * a + r = U) ∧ Hid (D ≤ q))
  (fun x _ => (intOf x).toNat)
 case atStart => exact ⟨q, r, rfl, rfl, hqB, by have := hr.out.2; omega, hr.out.1, hDq⟩
 case round =>
  clear qa ra hDq hq hqB hr
  obtain ⟨q', r', rfl, rfl, hqB, hrB, hqr, hDq⟩ := hrel
  rcases Nat.lt_or_ge q' 4294967296 with hq4 | hq4
  ·have i1 : decide ((q' : Int) < 4294967296) = true := decide_eq_true (by omega)
   have i2 : decide ((4294967296 : Int) ≤ q') = false := decide_eq_false (by omega)
   obtain ⟨p, hp⟩ : ∃ p, Hid (p = q' * c) := ⟨_, Lib.hid rfl⟩
   have hpB : p < 18446744073709551616 := by
    have := Nat.mul_le_mul (show q' ≤ 4294967295 by omega) (show c ≤ 4294967295 by omega)
    rw [hp.out]; omega
   have ep : IntKind.u64.wrap ((q' : Int) * (c : Int)) = p := by rw [MulW.mulN, ← hp.out, MulW.wrapN p hpB]
   obtain ⟨t, ht⟩ : ∃ t, Hid (t = 4294967296 * r' + m) := ⟨_, Lib.hid rfl⟩
   have et : IntKind.u64.wrap (IntKind.u64.wrap (4294967296 * (r' : Int)) + (m : Int)) = (t : Int) := by
    rw [ht.out, show (4294967296 * (r' : Int)) = ((4294967296 * r' : Nat) : Int) by omega, MulW.wrapN _ (by omega), MulW.addN, MulW.wrapN _ (by omega)]
   by_cases hpt : t < p
   ·have g2 : decide (t < p) = true := decide_eq_true hpt
    clear hq4
    have hk : D + 1 ≤ q' := half_keep (b := 4294967296) hqr.out HD.out HLT.out hml (.inr (by rw [← hp.out, ← ht.out]; exact hpt))
    obtain ⟨k, hqk⟩ : ∃ k, Hid (q' = k + 1) := ⟨q' - 1, Lib.hid (by omega)⟩
    have e1 : IntKind.u64.wrap ((q' : Int) - 1) = k := by have := hqk.out; rw [IntKind.wrap_u64]; omega
    have hkB : k < 18446744073709551616 := by have := hqk.out; omega
    have hDk : Hid (D ≤ k) := Lib.hid (by have := hqk.out; omega)
    obtain ⟨r3, hr3⟩ : ∃ r3, Hid (r3 = r' + a) := ⟨_, Lib.hid rfl⟩
    have hr3B : r3 < 18446744073709551616 := by rw [hr3.out]; omega
    have e2 : IntKind.u64.wrap ((r' : Int) + (a : Int)) = r3 := by rw [hr3.out, IntKind.wrap_u64]; omega
    have hkr : Hid (k * a + r3 = U) := Lib.hid (by
     have := hqr.out
     rw [hqk.out, Nat.add_mul, Nat.one_mul] at this
     rw [hr3.out]; omega)
    by_cases hov0 : r3 < 4294967296
    ·have hov := Lib.hid hov0
     have i5 : decide ((4294967296 : Int) ≤ r3) = false := decide_eq_false (by omega)
     have i6 : decide ((r3 : Int) < 4294967296) = true := decide_eq_true (by omega)
     clear hov0 hrB hpt hpB
     go_wp2
     go_round
     case rel => exact ⟨k, r3, rfl, rfl, hkB, hov.out, hkr.out, hDk.out⟩
     case measure => have := hqk.out; simp [intOf]; omega
    ·have i5 : decide ((4294967296 : Int) ≤ r3) = true := decide_eq_true (by omega)
     have i6 : decide ((r3 : Int) < 4294967296) = false := decide_eq_false (by omega)
     clear hpt hpB
     obtain rfl : k = D := by
      have ho := half_over (b := 4294967296) (n := m) hkr.out (by omega) HLT.out hcl
      exact digit_eq (Y := Y) (T := U * 4294967296 + m) (by omega) hD.out (by rw [HY.out]; exact half_done hkr.out ho.2) hDk.out
     clear hov0 hrB
     go_wp2
     go_loop [16, 18] (fun y x => ∃ q r : Nat, x = .int .u64 q ∧ y = .int .u64 r ∧ q < 18446744073709551616 ∧ r < 4294967296 ∧ Hid (q * a + r = R) ∧ Hid (E ≤ q))
      (fun _ x => (intOf x).toNat)
     case atStart => exact ⟨q2, r2, rfl, rfl, hqB2, by have := hr2.out.2; omega, hr2.out.1, hEq⟩
     case round =>
      clear qa2 ra2 hEq hq2 hqB2 hr2
      obtain ⟨q', r', rfl, rfl, hqB, hrB, hqr, hDq⟩ := hrel
      rcases Nat.lt_or_ge q' 4294967296 with hq4 | hq4
      ·have i1 : decide ((q' : Int) < 4294967296) = true := decide_eq_true (by omega)
       have i2 : decide ((4294967296 : Int) ≤ q') = false := decide_eq_false (by omega)
       obtain ⟨p, hp⟩ : ∃ p, Hid (p = q' * c) := ⟨_, Lib.hid rfl⟩
       have hpB : p < 18446744073709551616 := by
        have := Nat.mul_le_mul (show q' ≤ 4294967295 by omega) (show c ≤ 4294967295 by omega)
        rw [hp.out]; omega
       have ep : IntKind.u64.wrap ((q' : Int) * (c : Int)) = p := by rw [MulW.mulN, ← hp.out, MulW.wrapN p hpB]
       obtain ⟨t, ht⟩ : ∃ t, Hid (t = 4294967296 * r' + n) := ⟨_, Lib.hid rfl⟩
       have et : IntKind.u64.wrap (IntKind.u64.wrap (4294967296 * (r' : Int)) + (n : Int)) = (t : Int) := by
        rw [ht.out, show (4294967296 * (r' : Int)) = ((4294967296 * r' : Nat) : Int) by omega, MulW.wrapN _ (by omega), MulW.addN, MulW.wrapN _ (by omega)]
       by_cases hpt : t < p
       ·have g2 : decide (t < p) = true := decide_eq_true hpt
        clear hq4
        have hk : E + 1 ≤ q' := half_keep (b := 4294967296) hqr.out HE.out HRT.out hnl (.inr (by rw [← hp.out, ← ht.out]; exact hpt))
        obtain ⟨k, hqk⟩ : ∃ k, Hid (q' = k + 1) := ⟨q' - 1, Lib.hid (by omega)⟩
        have e1 : IntKind.u64.wrap ((q' : Int) - 1) = k := by have := hqk.out; rw [IntKind.wrap_u64]; omega
        have hkB : k < 18446744073709551616 := by have := hqk.out; omega
        have hDk : Hid (E ≤ k) := Lib.hid (by have := hqk.out; omega)
        obtain ⟨r3, hr3⟩ : ∃ r3, Hid (r3 = r' + a) := ⟨_, Lib.hid rfl⟩
        have hr3B : r3 < 18446744073709551616 := by rw [hr3.out]; omega
        have e2 : IntKind.u64.wrap ((r' : Int) + (a : Int)) = r3 := by rw [hr3.out, IntKind.wrap_u64]; omega
        have hkr : Hid (k * a + r3 = R) := Lib.hid (by
         have := hqr.out
         rw [hqk.out, Nat.add_mul, Nat.one_mul] at this
         rw [hr3.out]; omega)
        by_cases hov0 : r3 < 4294967296
        ·have hov := Lib.hid hov0
         have i5 : decide ((4294967296 : Int) ≤ r3) = false := decide_eq_false (by omega)
         have i6 : decide ((r3 : Int) < 4294967296) = true := decide_eq_true (by omega)
         clear hov0 hrB hpt hpB
         go_wp2
         go_round
         case rel => exact ⟨k, r3, rfl, rfl, hkB, hov.out, hkr.out, hDk.out⟩
         case measure => have := hqk.out; simp [intOf]; omega
        ·have i5 : decide ((4294967296 : Int) ≤ r3) = true := decide_eq_true (by omega)
         have i6 : decide ((r3 : Int) < 4294967296) = false := decide_eq_false (by omega)
         clear hpt hpB
         obtain rfl : k = E := by
          have ho := half_over (b := 4294967296) (n := n) hkr.out (by omega) HRT.out hcl
          exact digit_eq (Y := Y) (T := R * 4294967296 + n) (by omega) hE.out (by rw [HY.out]; exact half_done hkr.out ho.2) hDk.out
         clear hov0 hrB
         go_wp2
         go_ret2
         exact ⟨_, _, rfl, hfin.out.1, hfin.out.2, rfl⟩
       ·have g2 : decide (t < p) = false := decide_eq_false hpt
        obtain rfl : q' = E := by
         refine digit_eq (Y := Y) (T := R * 4294967296 + n) (by omega) hE.out ?_ hDq.out
         rw [HY.out]
         exact half_done hqr.out (by rw [← hp.out, ← ht.out]; omega)
        clear hq4 hpt hp ht hqr hrB hDq
        go_wp2
        go_ret2
        exact ⟨_, _, rfl, hfin.out.1, hfin.out.2, rfl⟩
      ·have i1 : decide ((q' : Int) < 4294967296) = false := decide_eq_false (by omega)
       have i2 : decide ((4294967296 : Int) ≤ q') = true := decide_eq_true (by omega)
       have hk : E + 1 ≤ q' := half_keep (b := 4294967296) hqr.out HE.out HRT.out hnl (.inl hq4)
       obtain ⟨k, hqk⟩ : ∃ k, Hid (q' = k + 1) := ⟨q' - 1, Lib.hid (by omega)⟩
       have e1 : IntKind.u64.wrap ((q' : Int) - 1) = k := by have := hqk.out; rw [IntKind.wrap_u64]; omega
       have hkB : k < 18446744073709551616 := by have := hqk.out; omega
       have hDk : Hid (E ≤ k) := Lib.hid (by have := hqk.out; omega)
       obtain ⟨r3, hr3⟩ : ∃ r3, Hid (r3 = r' + a) := ⟨_, Lib.hid rfl⟩
       have hr3B : r3 < 18446744073709551616 := by rw [hr3.out]; omega
       have e2 : IntKind.u64.wrap ((r' : Int) + (a : Int)) = r3 := by rw [hr3.out, IntKind.wrap_u64]; omega
       have hkr : Hid (k * a + r3 = R) := Lib.hid (by
        have := hqr.out
        rw [hqk.out, Nat.add_mul, Nat.one_mul] at this
        rw [hr3.out]; omega)
       by_cases hov0 : r3 < 4294967296
       ·have hov := Lib.hid hov0
        have i5 : decide ((4294967296 : Int) ≤ r3) = false := decide_eq_false (by omega)
        have i6 : decide ((r3 : Int) < 4294967296) = true := decide_eq_true (by omega)
        clear hov0 hrB hq4
        go_wp2
        go_round
        case rel => exact ⟨k, r3, rfl, rfl, hkB, hov.out, hkr.out, hDk.out⟩
        case measure => have := hqk.out; simp [intOf]; omega
       ·have i5 : decide ((4294967296 : Int) ≤ r3) = true := decide_eq_true (by omega)
        have i6 : decide ((r3 : Int) < 4294967296) = false := decide_eq_false (by omega)
        clear hq4
        obtain rfl : k = E := by
         have ho := half_over (b := 4294967296) (n := n) hkr.out (by omega) HRT.out hcl
         exact digit_eq (Y := Y) (T := R * 4294967296 + n) (by omega) hE.out (by rw [HY.out]; exact half_done hkr.out ho.2) hDk.out
        clear hov0 hrB
        go_wp2
        go_ret2
        exact ⟨_, _, rfl, hfin.out.1, hfin.out.2, rfl⟩
   ·have g2 : decide (t < p) = false := decide_eq_false hpt
    obtain rfl : q' = D := by
     refine digit_eq (Y := Y) (T := U * 4294967296 + m) (by omega) hD.out ?_ hDq.out
     rw [HY.out]
     exact half_done hqr.out (by rw [← hp.out, ← ht.out]; omega)
    clear hq4 hpt hp ht hqr hrB hDq
    go_wp2
    go_loop [16, 18] (fun y x => ∃ q r : Nat, x = .int .u64 q ∧ y = .int .u64 r ∧ q < 18446744073709551616 ∧ r < 4294967296 ∧ Hid (q * a + r = R) ∧ Hid (E ≤ q))
     (fun _ x => (intOf x).toNat)
    case atStart => exact ⟨q2, r2, rfl, rfl, hqB2, by have := hr2.out.2; omega, hr2.out.1, hEq⟩
    case round =>
     clear qa2 ra2 hEq hq2 hqB2 hr2
     obtain ⟨q', r', rfl, rfl, hqB, hrB, hqr, hDq⟩ := hrel
     rcases Nat.lt_or_ge q' 4294967296 with hq4 | hq4
     ·have i1 : decide ((q' : Int) < 4294967296) = true := decide_eq_true (by omega)
      have i2 : decide ((4294967296 : Int) ≤ q') = false := decide_eq_false (by omega)
      obtain ⟨p, hp⟩ : ∃ p, Hid (p = q' * c) := ⟨_, Lib.hid rfl⟩
      have hpB : p < 18446744073709551616 := by
       have := Nat.mul_le_mul (show q' ≤ 4294967295 by omega) (show c ≤ 4294967295 by omega)
       rw [hp.out]; omega
      have ep : IntKind.u64.wrap ((q' : Int) * (c : Int)) = p := by rw [MulW.mulN, ← hp.out, MulW.wrapN p hpB]
      obtain ⟨t, ht⟩ : ∃ t, Hid (t = 4294967296 * r' + n) := ⟨_, Lib.hid rfl⟩
      have et : IntKind.u64.wrap (IntKind.u64.wrap (4294967296 * (r' : Int)) + (n : Int)) = (t : Int) := by
       rw [ht.out, show (4294967296 * (r' : Int)) = ((4294967296 * r' : Nat) : Int) by omega, MulW.wrapN _ (by omega), MulW.addN, MulW.wrapN _ (by omega)]
      by_cases hpt : t < p
      ·have g2 : decide (t < p) = true := decide_eq_true hpt
       clear hq4
       have hk : E + 1 ≤ q' := half_keep (b := 4294967296) hqr.out HE.out HRT.out hnl (.inr (by rw [← hp.out, ← ht.out]; exact hpt))
       obtain ⟨k, hqk⟩ : ∃ k, Hid (q' = k + 1) := ⟨q' - 1, Lib.hid (by omega)⟩
       have e1 : IntKind.u64.wrap ((q' : Int) - 1) = k := by have := hqk.out; rw [IntKind.wrap_u64]; omega
       have hkB : k < 18446744073709551616 := by have := hqk.out; omega
       have hDk : Hid (E ≤ k) := Lib.hid (by have := hqk.out; omega)
       obtain ⟨r3, hr3⟩ : ∃ r3, Hid (r3 = r' + a) := ⟨_, Lib.hid rfl⟩
       have hr3B : r3 < 18446744073709551616 := by rw [hr3.out]; omega
       have e2 : IntKind.u64.wrap ((r' : Int) + (a : Int)) = r3 := by rw [hr3.out, IntKind.wrap_u64]; omega
       have hkr : Hid (k * a + r3 = R) := Lib.hid (by
        have := hqr.out
        rw [hqk.out, Nat.add_mul, Nat.one_mul] at this
        rw [hr3.out]; omega)
       by_cases hov0 : r3 < 4294967296
       ·have hov := Lib.hid hov0
        have i5 : decide ((4294967296 : Int) ≤ r3) = false := decide_eq_false (by omega)
        have i6 : decide ((r3 : Int) < 4294967296) = true := decide_eq_true (by omega)
        clear hov0 hrB hpt hpB
        go_wp2
        go_round
        case rel => exact ⟨k, r3, rfl, rfl, hkB, hov.out, hkr.out, hDk.out⟩
        case measure => have := hqk.out; simp [intOf]; omega
       ·have i5 : decide ((4294967296 : Int) ≤ r3) = true := decide_eq_true (by omega)
        have i6 : decide ((r3 : Int) < 4294967296) = false := decide_eq_false (by omega)
        clear hpt hpB
        obtain rfl : k = E := by
         have ho := half_over (b := 4294967296) (n := n) hkr.out (by omega) HRT.out hcl
         exact digit_eq (Y := Y) (T := R * 4294967296 + n) (by omega) hE.out (by rw [HY.out]; exact half_done hkr.out ho.2) hDk.out
        clear hov0 hrB
        go_wp2
        go_ret2
        exact ⟨_, _, rfl, hfin.out.1, hfin.out.2, rfl⟩
      ·have g2 : decide (t < p) = false := decide_eq_false hpt
       obtain rfl : q' = E := by
        refine digit_eq (Y := Y) (T := R * 4294967296 + n) (by omega) hE.out ?_ hDq.out
        rw [HY.out]
        exact half_done hqr.out (by rw [← hp.out, ← ht.out]; omega)
       clear hq4 hpt hp ht hqr hrB hDq
       go_wp2
       go_ret2
       exact ⟨_, _, rfl, hfin.out.1, hfin.out.2, rfl⟩
     ·have i1 : decide ((q' : Int) < 4294967296) = false := decide_eq_false (by omega)
      have i2 : decide ((4294967296 : Int) ≤ q') = true := decide_eq_true (by omega)
      have hk : E + 1 ≤ q' := half_keep (b := 4294967296) hqr.out HE.out HRT.out hnl (.inl hq4)
      obtain ⟨k, hqk⟩ : ∃ k, Hid (q' = k + 1) := ⟨q' - 1, Lib.hid (by omega)⟩
      have e1 : IntKind.u64.wrap ((q' : Int) - 1) = k := by have := hqk.out; rw [IntKind.wrap_u64]; omega
      have hkB : k < 18446744073709551616 := by have := hqk.out; omega
      have hDk : Hid (E ≤ k) := Lib.hid (by have := hqk.out; omega)
      obtain ⟨r3, hr3⟩ : ∃ r3, Hid (r3 = r' + a) := ⟨_, Lib.hid rfl⟩
      have hr3B : r3 < 18446744073709551616 := by rw [hr3.out]; omega
      have e2 : IntKind.u64.wrap ((r' : Int) + (a : Int)) = r3 := by rw [hr3.out, IntKind.wrap_u64]; omega
      have hkr : Hid (k * a + r3 = R) := Lib.hid (by
       have := hqr.out
       rw [hqk.out, Nat.add_mul, Nat.one_mul] at this
       rw [hr3.out]; omega)
      by_cases hov0 : r3 < 4294967296
      ·have hov := Lib.hid hov0
       have i5 : decide ((4294967296 : Int) ≤ r3) = false := decide_eq_false (by omega)
       have i6 : decide ((r3 : Int) < 4294967296) = true := decide_eq_true (by omega)
       clear hov0 hrB hq4
       go_wp2
       go_round
       case rel => exact ⟨k, r3, rfl, rfl, hkB, hov.out, hkr.out, hDk.out⟩
       case measure => have := hqk.out; simp [intOf]; omega
      ·have i5 : decide ((4294967296 : Int) ≤ r3) = true := decide_eq_true (by omega)
       have i6 : decide ((r3 : Int) < 4294967296) = false := decide_eq_false (by omega)
       clear hq4
       obtain rfl : k = E := by
        have ho := half_over (b := 4294967296) (n := n) hkr.out (by omega) HRT.out hcl
        exact digit_eq (Y := Y) (T := R * 4294967296 + n) (by omega) hE.out (by rw [HY.out]; exact half_done hkr.out ho.2) hDk.out
       clear hov0 hrB
       go_wp2
       go_ret2
       exact ⟨_, _, rfl, hfin.out.1, hfin.out.2, rfl⟩
  ·have i1 : decide ((q' : Int) < 4294967296) = false := decide_eq_false (by omega)
   have i2 : decide ((4294967296 : Int) ≤ q') = true := decide_eq_true (by omega)
   have hk : D + 1 ≤ q' := half_keep (b := 4294967296) hqr.out HD.out HLT.out hml (.inl hq4)
   obtain ⟨k, hqk⟩ : ∃ k, Hid (q' = k + 1) := ⟨q' - 1, Lib.hid (by omega)⟩
   have e1 : IntKind.u64.wrap ((q' : Int) - 1) = k := by have := hqk.out; rw [IntKind.wrap_u64]; omega
   have hkB : k < 18446744073709551616 := by have := hqk.out; omega
   have hDk : Hid (D ≤ k) := Lib.hid (by have := hqk.out; omega)
   obtain ⟨r3, hr3⟩ : ∃ r3, Hid (r3 = r' + a) := ⟨_, Lib.hid rfl⟩
   have hr3B : r3 < 18446744073709551616 := by rw [hr3.out]; omega
   have e2 : IntKind.u64.wrap ((r' : Int) + (a : Int)) = r3 := by rw [hr3.out, IntKind.wrap_u64]; omega
   have hkr : Hid (k * a + r3 = U) := Lib.hid (by
    have := hqr.out
    rw [hqk.out, Nat.add_mul, Nat.one_mul] at this
    rw [hr3.out]; omega)
   by_cases hov0 : r3 < 4294967296
   ·have hov := Lib.hid hov0
    have i5 : decide ((4294967296 : Int) ≤ r3) = false := decide_eq_false (by omega)
    have i6 : decide ((r3 : Int) < 4294967296) = true := decide_eq_true (by omega)
    clear hov0 hrB hq4
    go_wp2
    go_round
    case rel => exact ⟨k, r3, rfl, rfl, hkB, hov.out, hkr.out, hDk.out⟩
    case measure => have := hqk.out; simp [intOf]; omega
   ·have i5 : decide ((4294967296 : Int) ≤ r3) = true := decide_eq_true (by omega)
    have i6 : decide ((r3 : Int) < 4294967296) = false := decide_eq_false (by omega)
    clear hq4
    obtain rfl : k = D := by
     have ho := half_over (b := 4294967296) (n := m) hkr.out (by omega) HLT.out hcl
     exact digit_eq (Y := Y) (T := U * 4294967296 + m) (by omega) hD.out (by rw [HY.out]; exact half_done hkr.out ho.2) hDk.out
    clear hov0 hrB
    go_wp2
    go_loop [16, 18] (fun y x => ∃ q r : Nat, x = .int .u64 q ∧ y = .int .u64 r ∧ q < 18446744073709551616 ∧ r < 4294967296 ∧ Hid (q * a + r = R) ∧ Hid (E ≤ q))
     (fun _ x => (intOf x).toNat)
    case atStart => exact ⟨q2, r2, rfl, rfl, hqB2, by have := hr2.out.2; omega, hr2.out.1, hEq⟩
    case round =>
     clear qa2 ra2 hEq hq2 hqB2 hr2
     obtain ⟨q', r', rfl, rfl, hqB, hrB, hqr, hDq⟩ := hrel
     rcases Nat.lt_or_ge q' 4294967296 with hq4 | hq4
     ·have i1 : decide ((q' : Int) < 4294967296) = true := decide_eq_true (by omega)
      have i2 : decide ((4294967296 : Int) ≤ q') = false := decide_eq_false (by omega)
      obtain ⟨p, hp⟩ : ∃ p, Hid (p = q' * c) := ⟨_, Lib.hid rfl⟩
      have hpB : p < 18446744073709551616 := by
       have := Nat.mul_le_mul (show q' ≤ 4294967295 by omega) (show c ≤ 4294967295 by omega)
       rw [hp.out]; omega
      have ep : IntKind.u64.wrap ((q' : Int) * (c : Int)) = p := by rw [MulW.mulN, ← hp.out, MulW.wrapN p hpB]
      obtain ⟨t, ht⟩ : ∃ t, Hid (t = 4294967296 * r' + n) := ⟨_, Lib.hid rfl⟩
      have et : IntKind.u64.wrap (IntKind.u64.wrap (4294967296 * (r' : Int)) + (n : Int)) = (t : Int) := by
       rw [ht.out, show (4294967296 * (r' : Int)) = ((4294967296 * r' : Nat) : Int) by omega, MulW.wrapN _ (by omega), MulW.addN, MulW.wrapN _ (by omega)]
      by_cases hpt : t < p
      ·have g2 : decide (t < p) = true := decide_eq_true hpt
       clear hq4
       have hk : E + 1 ≤ q' := half_keep (b := 4294967296) hqr.out HE.out HRT.out hnl (.inr (by rw [← hp.out, ← ht.out]; exact hpt))
       obtain ⟨k, hqk⟩ : ∃ k, Hid (q' = k + 1) := ⟨q' - 1, Lib.hid (by omega)⟩
       have e1 : IntKind.u64.wrap ((q' : Int) - 1) = k := by have := hqk.out; rw [IntKind.wrap_u64]; omega
       have hkB : k < 18446744073709551616 := by have := hqk.out; omega
       have hDk : Hid (E ≤ k) := Lib.hid (by have := hqk.out; omega)
       obtain ⟨r3, hr3⟩ : ∃ r3, Hid (r3 = r' + a) := ⟨_, Lib.hid rfl⟩
       have hr3B : r3 < 18446744073709551616 := by rw [hr3.out]; omega
       have e2 : IntKind.u64.wrap ((r' : Int) + (a : Int)) = r3 := by rw [hr3.out, IntKind.wrap_u64]; omega
       have hkr : Hid (k * a + r3 = R) := Lib.hid (by
        have := hqr.out
        rw [hqk.out, Nat.add_mul, Nat.one_mul] at this
        rw [hr3.out]; omega)
       by_cases hov0 : r3 < 4294967296
       ·have hov := Lib.hid hov0
        have i5 : decide ((4294967296 : Int) ≤ r3) = false := decide_eq_false (by omega)
        have i6 : decide ((r3 : Int) < 4294967296) = true := decide_eq_true (by omega)
        clear hov0 hrB hpt hpB
        go_wp2
        go_round
        case rel => exact ⟨k, r3, rfl, rfl, hkB, hov.out, hkr.out, hDk.out⟩
        case measure => have := hqk.out; simp [intOf]; omega
       ·have i5 : decide ((4294967296 : Int) ≤ r3) = true := decide_eq_true (by omega)
        have i6 : decide ((r3 : Int) < 4294967296) = false := decide_eq_false (by omega)
        clear hpt hpB
        obtain rfl : k = E := by
         have ho := half_over (b := 4294967296) (n := n) hkr.out (by omega) HRT.out hcl
         exact digit_eq (Y := Y) (T := R * 4294967296 + n) (by omega) hE.out (by rw [HY.out]; exact half_done hkr.out ho.2) hDk.out
        clear hov0 hrB
        go_wp2
        go_ret2
        exact ⟨_, _, rfl, hfin.out.1, hfin.out.2, rfl⟩
      ·have g2 : decide (t < p) = false := decide_eq_false hpt
       obtain rfl : q' = E := by
        refine digit_eq (Y := Y) (T := R * 4294967296 + n) (by omega) hE.out ?_ hDq.out
        rw [HY.out]
        exact half_done hqr.out (by rw [← hp.out, ← ht.out]; omega)
       clear hq4 hpt hp ht hqr hrB hDq
       go_wp2
       go_ret2
       exact ⟨_, _, rfl, hfin.out.1, hfin.out.2, rfl⟩
     ·have i1 : decide ((q' : Int) < 4294967296) = false := decide_eq_false (by omega)
      have i2 : decide ((4294967296 : Int) ≤ q') = true := decide_eq_true (by omega)
      have hk : E + 1 ≤ q' := half_keep (b := 4294967296) hqr.out HE.out HRT.out hnl (.inl hq4)
      obtain ⟨k, hqk⟩ : ∃ k, Hid (q' = k + 1) := ⟨q' - 1, Lib.hid (by omega)⟩
      have e1 : IntKind.u64.wrap ((q' : Int) - 1) = k := by have := hqk.out; rw [IntKind.wrap_u64]; omega
      have hkB : k < 18446744073709551616 := by have := hqk.out; omega
      have hDk : Hid (E ≤ k) := Lib.hid (by have := hqk.out; omega)
      obtain ⟨r3, hr3⟩ : ∃ r3, Hid (r3 = r' + a) := ⟨_, Lib.hid rfl⟩
      have hr3B : r3 < 18446744073709551616 := by rw [hr3.out]; omega
      have e2 : IntKind.u64.wrap ((r' : Int) + (a : Int)) = r3 := by rw [hr3.out, IntKind.wrap_u64]; omega
      have hkr : Hid (k * a + r3 = R) := Lib.hid (by
       have := hqr.out
       rw [hqk.out, Nat.add_mul, Nat.one_mul] at this
       rw [hr3.out]; omega)
      by_cases hov0 : r3 < 4294967296
      ·have hov := Lib.hid hov0
       have i5 : decide ((4294967296 : Int) ≤ r3) = false := decide_eq_false (by omega)
       have i6 : decide ((r3 : Int) < 4294967296) = true := decide_eq_true (by omega)
       clear hov0 hrB hq4
       go_wp2
       go_round
       case rel => exact ⟨k, r3, rfl, rfl, hkB, hov.out, hkr.out, hDk.out⟩
       case measure => have := hqk.out; simp [intOf]; omega
      ·have i5 : decide ((4294967296 : Int) ≤ r3) = true := decide_eq_true (by omega)
       have i6 : decide ((r3 : Int) < 4294967296) = false := decide_eq_false (by omega)
       clear hq4
       obtain rfl : k = E := by
        have ho := half_over (b := 4294967296) (n := n) hkr.out (by omega) HRT.out hcl
        exact digit_eq (Y := Y) (T := R * 4294967296 + n) (by omega) hE.out (by rw [HY.out]; exact half_done hkr.out ho.2) hDk.out
       clear hov0 hrB
       go_wp2
       go_ret2
       exact ⟨_, _, rfl, hfin.out.1, hfin.out.2, rfl⟩
def subEntry : Array Value → Sem Value := fun args => do
 let (x, y, b) ← Extern.MathBitsCarry.three "Sub64" args
 pure (Extern.MathBitsCarry.pair ((x + Extern.MathBitsCarry.m64 - y - b) % Extern.MathBitsCarry.m64) (if x < y + b then 1 else 0))
theorem run_sub (P : Program) (x y b : Nat) (hb : b ≤ 1) (w : World) : (subEntry #[.int .u64 x, .int .u64 y, .int .u64 b]).run P w =
  .ok (.tuple #[.int .u64 (((x + 18446744073709551616 - y - b) % 18446744073709551616 : Nat) : Int), .int .u64 ((if x < y + b then 1 else 0 : Nat) : Int)]) w := by
 have : b = 0 ∨ b = 1 := by omega
 rcases this with rfl | rfl <;> rfl
theorem run_Sub64 (x y b : Nat) (hb : b ≤ 1) (w : World) :
  (callFunc 244 #[.int .u64 x, .int .u64 y, .int .u64 b]).run Tryz.prog w =
   .ok (.value (.tuple #[.int .u64 (((x + 18446744073709551616 - y - b) % 18446744073709551616 : Nat) : Int), .int .u64 ((if x < y + b then 1 else 0 : Nat) : Int)])) w := by
 rw [run_callFunc_extern Tryz.func244 (by kernel_rfl) (by kernel_rfl) (by kernel_rfl) (e := subEntry) (by kernel_rfl), run_sub Tryz.prog x y b hb]
 rfl
theorem bits_Sub_raw (x y b z c : Int) (h : ∀ w, (callFunc 244 #[.int .u64 x, .int .u64 y, .int .u64 b]).run Tryz.prog w = .ok (.value (.tuple #[.int .u64 z, .int .u64 c])) w) (w : World) :
  Calls Tryz.prog 200 #[.int .u64 x, .int .u64 y, .int .u64 b] w fun e w' => e = .returned (.tuple #[.int .u64 z, .int .u64 c]) ∧ w = w' := by
 go_enter Tryz.func200, Tryz.ntmps200
 go_wp2
 go_ret2
 exact ⟨rfl, rfl⟩
end Go.Proofs.YtilmldfbmmcchaaGreatDoor
