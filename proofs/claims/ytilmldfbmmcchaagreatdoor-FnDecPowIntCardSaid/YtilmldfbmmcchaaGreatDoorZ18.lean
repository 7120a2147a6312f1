/- How many digits a whole number has. The decimal package's small functions on decimals: signs, new ones, whether the amount is one. Plain laws of long division by rows of words: one digit of the quotient, and the sum of all. No conditions but those that each law tells. Conditions: each theorem bears its own. -/
import Derived.Test.YtilmldfbmmcchaaGreatDoorZ17
set_option linter.unusedVariables false
set_option linter.unusedSimpArgs false
namespace Go.Proofs.YtilmldfbmmcchaaGreatDoor
open Go.RowKit
theorem pw_le_dig (a b c : Nat) (h1 : 0 < a) (h2 : b ≤ c) : a ^ b ≤ a ^ c := Nat.pow_le_pow_right h1 h2
def IsDig (z : Int) (d : Nat) : Prop := 1 ≤ d ∧ z.natAbs < 10 ^ d ∧ 10 ^ (d - 1) ≤ z.natAbs
theorem isDig_pick {z : Int} {e : Nat} (h1 : e = 0 ∨ 10 ^ (e - 1) ≤ z.natAbs) (h2 : z.natAbs < 10 ^ (e + 1)) (hz : z ≠ 0) : IsDig z (if 10 ^ e ≤ z.natAbs then e + 1 else e) := by
 split
 ·exact ⟨by omega, h2, by rw [Nat.add_sub_cancel]; assumption⟩
 ·rename_i h
  rcases h1 with h1 | h1
  ·subst h1; simp at h; omega
  ·rcases Nat.eq_zero_or_pos e with h0 | h0
   ·subst h0; simp at h; omega
   ·exact ⟨h0, by omega, h1⟩
set_option maxRecDepth 100000 in
set_option maxHeartbeats 4000000 in
theorem num_small (p : Nat) (e : Int) (z : Int) (w : World) (h : RI w p z) (h0 : z ≠ 0) (h1 : -9223372036854775808 ≤ z) (h2 : z < 9223372036854775808) :
  Calls Tryz.prog 88 #[DV p e] w fun en w' => ∃ d : Nat, en = .returned (.int .i64 d) ∧ IsDig z d ∧ Fr NoS w w' := by
 have hA : Fr NoS w (w.alloc (.cells #[.pointer (some ⟨p, 0, none⟩), .int .i32 e] 48 (0, 0))) := (Fr.refl NoS w).alloc _
 have G := sh_getValue p e (w.alloc (.cells #[.pointer (some ⟨p, 0, none⟩), .int .i32 e] 48 (0, 0))) z (h.fr hA)
 obtain ⟨u, hu⟩ : ∃ u : Nat, Hid (z.natAbs = u) := ⟨_, Lib.hid rfl⟩
 have hu0 : 0 < u := by rw [← hu.out]; omega
 have huB : u < 18446744073709551616 := by rw [← hu.out]; omega
 have hL := bitLen_top u hu0 huB
 have BL := fun W => bits_Len64 (u : Int) W (by omega) (by omega)
 rw [Int.toNat_natCast] at BL
 obtain ⟨L, hLL⟩ : ∃ L, Hid (Lib.bitLen u = L) := ⟨_, Lib.hid rfl⟩
 rw [hLL.out] at hL BL
 have T := List.all_eq_true.1 est_small L (List.mem_range.2 (by omega))
 simp only [Bool.or_eq_true, Bool.and_eq_true, decide_eq_true_eq, beq_iff_eq] at T
 obtain ⟨E, hE⟩ : ∃ E, Hid (L * 1233 / 4096 = E) := ⟨_, Lib.hid rfl⟩
 rw [hE.out] at T
 have hT : (E = 0 ∨ 10 ^ (E - 1) ≤ u) ∧ u < 10 ^ (E + 1) ∧ E ≤ 19 := by
  rcases T with T | ⟨⟨T1, T2⟩, T3⟩
  ·omega
  ·refine ⟨?_, by omega, T3⟩
   rcases T1 with T1 | T1
   ·exact .inl T1
   ·exact .inr (by omega)
 have hEI : ((L : Int) * 1233) / 4096 = (E : Int) := by rw [← hE.out]; omega
 have eM : IntKind.i64.wrap ((L : Int) * 1233) = (L : Int) * 1233 := IntWalk.i64_in _ (by omega)
 have P10 := fun W => sh_pow10Uint64 E W hT.2.2
 obtain ⟨X, hX⟩ : ∃ X, Hid (10 ^ E = X) := ⟨_, Lib.hid rfl⟩
 rw [hX.out] at P10
 have pick := isDig_pick (z := z) (e := E) (by rw [hu.out]; exact hT.1) (by rw [hu.out]; exact hT.2.1) h0
 rw [hX.out, hu.out] at pick
 have HPK := Lib.hid pick
 have eC : IntKind.i32.wrap (E : Int) = E := IntWalk.i32_in _ (by omega)
 have eE : IntKind.i64.wrap ((E : Int) + 1) = (E : Int) + 1 := IntWalk.i64_in _ (by omega)
 have hE19 := hT.2.2
 have hL64 := hL.2.2.2
 have bI : (decide (-9223372036854775808 ≤ z) && decide (z < 9223372036854775808)) = true := by simp; omega
 have bS : decide (z.sign < 0) = decide (z < 0) := by
  rcases Int.lt_trichotomy z 0 with h | h | h
  ·rw [Int.sign_eq_neg_one_of_neg h]; simp [h]
  ·omega
  ·rw [Int.sign_eq_one_of_pos h]; simp; omega
 have hSg := z.sign
 clear T hL pick hT
 go_enter Tryz.func88, Tryz.ntmps88
 go_wp2_with fail
 refine G.mono ?_
 rintro en w1 ⟨rfl, hf1⟩
 have hF1 := hA.trans' hf1
 have hr1 := h.fr hF1
 go_wp2_with fail
 refine (z_IsInt64 p z w1 hr1).mono ?_
 rintro en w2 ⟨rfl, rfl⟩
 rw [bI]
 go_wp2_with fail
 refine (z_Int64 p z w1 hr1 h1 h2).mono ?_
 rintro en w2 ⟨rfl, rfl⟩
 have fin : ∀ W, Fr NoS w W → ∀ b : Bool, (decide (X ≤ u)) = b → (∃ d : Nat, Ending.returned (.int .i64 (if b = true then (E : Int) + 1 else (E : Int))) = .returned (.int .i64 d) ∧ IsDig z d ∧ Fr NoS w W) := by
  intro W hW b hb
  refine ⟨if X ≤ u then E + 1 else E, ret1 ?_, HPK.out, hW⟩
  subst hb
  by_cases h : X ≤ u
  ·simp [h]
  ·simp [h]
 have FIN := Lib.hid fin
 clear fin
 have hxB : X < 18446744073709551616 := by rw [← hX.out]; exact Nat.lt_of_le_of_lt (Nat.pow_le_pow_right (by omega) hE19) (by decide)
 rcases Int.lt_trichotomy z 0 with hz | hz | hz
 ·have ez : z = -(u : Int) := by rw [← hu.out]; omega
  subst ez
  have e0 : ((18446744073709551616 : Int) - (u : Int) == 0) = false := by simp; omega
  have e1 : IntKind.u64.wrap (-(u : Int)) = 18446744073709551616 - u := by simp [IntKind.wrap, IntKind.bits, IntKind.signed]; omega
  have e3 : IntKind.u64.wrap (-(18446744073709551616 - (u : Int))) = u := by simp [IntKind.wrap, IntKind.bits, IntKind.signed]; omega
  have e4 : IntKind.u64.wrap ((u : Int) - 18446744073709551616) = u := by simp [IntKind.wrap, IntKind.bits, IntKind.signed]; omega
  have S := z_Sign p (-(u : Int)) w1 hr1
  have es : (-(u : Int)).sign = -1 := Int.sign_eq_neg_one_of_neg hz
  rw [es] at S
  clear bS bI es
  go_wp2_with fail
  refine S.mono ?_
  rintro en w2 ⟨rfl, rfl⟩
  go_wp2_with fail
  refine (BL _).mono ?_
  rintro en w2 ⟨rfl, ew⟩
  obtain rfl := ew.symm
  go_wp2_with fail
  refine (P10 _).mono ?_
  rintro en w2 ⟨rfl, rfl⟩
  obtain ⟨b, hb⟩ : ∃ b, decide (X ≤ u) = b := ⟨_, rfl⟩
  have hbI : decide ((X : Int) ≤ (u : Int)) = b := by rw [← hb]; simp
  have FB := FIN.out w1 hF1 b hb
  cases b
  all_goals
   go_wp2
   go_ret
   exact FB
 ·omega
 ·have ez : z = (u : Int) := by rw [← hu.out]; omega
  subst ez
  have e0 : ((u : Int) == 0) = false := by simp; omega
  have e1 : IntKind.u64.wrap (u : Int) = u := IntWalk.u64_in _ (by omega)
  have e2 : decide ((u : Int).sign < 0) = false := by rw [bS]; simp
  have S := z_Sign p u w1 hr1
  have es : (u : Int).sign = 1 := Int.sign_eq_one_of_pos hz
  rw [es] at S
  clear bS bI e2 es
  go_wp2_with fail
  refine S.mono ?_
  rintro en w2 ⟨rfl, rfl⟩
  go_wp2_with fail
  refine (BL _).mono ?_
  rintro en w2 ⟨rfl, ew⟩
  obtain rfl := ew.symm
  go_wp2_with fail
  refine (P10 _).mono ?_
  rintro en w2 ⟨rfl, rfl⟩
  obtain ⟨b, hb⟩ : ∃ b, decide (X ≤ u) = b := ⟨_, rfl⟩
  have hbI : decide ((X : Int) ≤ (u : Int)) = b := by rw [← hb]; simp
  have FB := FIN.out w1 hF1 b hb
  cases b
  all_goals
   go_wp2
   go_ret
   exact FB
set_option maxRecDepth 100000 in
set_option maxHeartbeats 4000000 in
theorem num_big (p : Nat) (e : Int) (z : Int) (w : World) (h : RI w p z) (h0 : ¬ (-9223372036854775808 ≤ z ∧ z < 9223372036854775808)) (hb : z.natAbs < 2 ^ 1390) (hG : Glob w) :
  Calls Tryz.prog 88 #[DV p e] w fun en w' => ∃ d : Nat, en = .returned (.int .i64 d) ∧ IsDig z d ∧ Fr NoS w w' := by
 have hA : Fr NoS w (w.alloc (.cells #[.pointer (some ⟨p, 0, none⟩), .int .i32 e] 48 (0, 0))) := (Fr.refl NoS w).alloc _
 have G := sh_getValue p e (w.alloc (.cells #[.pointer (some ⟨p, 0, none⟩), .int .i32 e] 48 (0, 0))) z (h.fr hA)
 have bI : (decide (-9223372036854775808 ≤ z) && decide (z < 9223372036854775808)) = false := by
  rw [← Bool.decide_and]; exact decide_eq_false h0
 have hz0 : z ≠ 0 := fun e => h0 (by omega)
 go_enter Tryz.func88, Tryz.ntmps88
 go_wp2_with fail
 refine G.mono ?_
 rintro en w1 ⟨rfl, hf1⟩
 have hF1 := hA.trans' hf1
 have hr1 := h.fr hF1
 go_wp2_with fail
 refine (z_IsInt64 p z w1 hr1).mono ?_
 rintro en w2 ⟨rfl, rfl⟩
 rw [bI]
 go_wp2_with fail
 refine (z_BitLen p z w1 hr1).mono ?_
 rintro en w2 ⟨L, rfl, hL1, hL2, rfl⟩
 have hL3 := hL2 hz0
 have hLlo : 60 ≤ L := by
  refine Nat.le_of_not_lt fun hlt => h0 ?_
  have : (2 : Nat) ^ L ≤ 2 ^ 59 := Nat.pow_le_pow_right (by omega) (by omega)
  omega
 have hLhi : L ≤ 1390 := by
  refine Nat.le_of_not_lt fun hlt => ?_
  have : (2 : Nat) ^ 1390 ≤ 2 ^ (L - 1) := pw_le_dig 2 1390 (L - 1) (by decide) (by omega)
  exact absurd (Nat.lt_of_le_of_lt this (Nat.lt_of_le_of_lt hL3.1 hb)) (Nat.lt_irrefl _)
 have T := List.all_eq_true.1 est_table L (List.mem_range.2 (by omega))
 have T2 := List.all_eq_true.1 est_pow L (List.mem_range.2 (by omega))
 simp only [Bool.or_eq_true, Bool.and_eq_true, decide_eq_true_eq] at T2
 obtain ⟨E, hE⟩ : ∃ E, Hid (estN L = E) := ⟨_, Lib.hid rfl⟩
 have hE420 : E ≤ 420 := by rw [← hE.out]; unfold estN; omega
 rw [hE.out] at T T2
 have hT2 : (10 ^ (E - 1) ≤ 2 ^ (L - 1) ∧ 2 ^ L ≤ 10 ^ (E + 1)) ∧ 0 < E := by
  rcases T2 with h | h
  ·omega
  ·exact h
 split at T
 ·rename_i q hq
  have hq2 : floatToIntVal .f64 q .i64 = some (E : Int) := by simpa using T
  have m1 : ∀ u, (binOp .quo 120 (.float .f64 (floatOfInt .f64 (L : Int))) (.float .f64 4614662735865160561)).run Tryz.prog u = .ok (.float .f64 q) u := fun u => run_float_arith u .quo _ .f64 _ _ _ hq
  have m2 : ∀ u, (convert 120 3 (.float .f64 q)).run Tryz.prog u = .ok (.int .i64 E) u := fun u => run_convert_float_int u _ _ _ _ _ _ (by kernel_rfl) (by kernel_rfl) hq2
  have pick := isDig_pick (z := z) (e := E) (.inr (Nat.le_trans hT2.1.1 hL3.1)) (Nat.lt_of_lt_of_le hL1 hT2.1.2) hz0
  have HPK := Lib.hid pick
  have hE0 := hT2.2
  clear T T2 hq hq2 hT2 hL1 hL2 hL3 pick hb
  go_wp2_with fail
  refine (math_Log2_10 _).mono ?_
  rintro en w2 ⟨rfl, rfl⟩
  go_wp2_with fail
  refine (sh_pow10 E w1 hE420 (hG.fr hF1)).mono ?_
  rintro en w3 ⟨pt, rfl, hN⟩
  go_wp2_with fail
  refine (z_CmpAbs p pt z (10 ^ E) w3 (hr1.fr hN.fr) hN.rd).mono ?_
  rintro en w4 ⟨rfl, hf4⟩
  have hF4 := (hF1.trans' hN.fr).trans' hf4
  rw [Int.natAbs_pow, show (10 : Int).natAbs = 10 from rfl]
  have fin : ∀ b : Bool, decide ((0 : Int) ≤ cmpI z.natAbs (10 ^ E)) = b → ∃ d : Nat, Ending.returned (.int .i64 (if b = true then (E : Int) + 1 else (E : Int))) = .returned (.int .i64 d) ∧ IsDig z d ∧ Fr NoS w w4 := by
   intro b hb
   refine ⟨if 10 ^ E ≤ z.natAbs then E + 1 else E, ret1 ?_, HPK.out, hF4⟩
   subst hb
   by_cases h : 10 ^ E ≤ z.natAbs
   ·have : 0 ≤ cmpI z.natAbs (10 ^ E) := by unfold cmpI; rw [if_neg (by omega)]; split <;> omega
    simp [h, this]
   ·rw [cmpI_lt (by omega)]
    simp [h]
  have FIN := Lib.hid fin
  obtain ⟨b, hb⟩ : ∃ b, decide ((0 : Int) ≤ cmpI z.natAbs (10 ^ E)) = b := ⟨_, rfl⟩
  have FB := FIN.out b hb
  have eE : IntKind.i64.wrap ((E : Int) + 1) = (E : Int) + 1 := IntWalk.i64_in _ (by omega)
  clear fin FIN HPK hN hf4 hF4 m1 m2
  generalize cmpI z.natAbs (10 ^ E) = cc at *
  cases b
  all_goals
   go_wp2
   go_ret
   exact FB
 ·cases T
theorem sh_NumDigits (p : Nat) (e : Int) (z : Int) (w : World) (h : RI w p z) (h0 : z ≠ 0) (hb : z.natAbs < 2 ^ 1390) (hG : Glob w) :
  Calls Tryz.prog 88 #[DV p e] w fun en w' => ∃ d : Nat, en = .returned (.int .i64 d) ∧ IsDig z d ∧ Fr NoS w w' := by
 by_cases hs : -9223372036854775808 ≤ z ∧ z < 9223372036854775808
 ·exact num_small p e z w h h0 hs.1 hs.2
 ·exact num_big p e z w h hs hb hG
theorem pw_le_shop2 (a b c : Nat) (h1 : 0 < a) (h2 : b ≤ c) : a ^ b ≤ a ^ c := Nat.pow_le_pow_right h1 h2
set_option maxHeartbeats 1000000 in
theorem sh_Sign (p : Nat) (e : Int) (z : Int) (w : World) (h : RI w p z) :
  Calls Tryz.prog 78 #[DV p e] w fun en w' => en = .returned (.int .i64 z.sign) ∧ Fr NoS w w' := by
 have hA : Fr NoS w (w.alloc (.cells #[.pointer (some ⟨p, 0, none⟩), .int .i32 e] 48 (0, 0))) := (Fr.refl NoS w).alloc _
 have G := sh_getValue p e (w.alloc (.cells #[.pointer (some ⟨p, 0, none⟩), .int .i32 e] 48 (0, 0))) z (h.fr hA)
 go_enter Tryz.func78, Tryz.ntmps78
 go_wp2_with fail
 refine G.mono ?_
 rintro en w1 ⟨rfl, hf1⟩
 go_wp2_with fail
 refine (z_Sign p z w1 ((h.fr hA).fr hf1)).mono ?_
 rintro en w2 ⟨rfl, rfl⟩
 go_wp2
 go_ret
 exact ⟨rfl, hA.trans' hf1⟩
set_option maxHeartbeats 1000000 in
theorem sh_IsZero (p : Nat) (e : Int) (z : Int) (w : World) (h : RI w p z) :
  Calls Tryz.prog 68 #[DV p e] w fun en w' => en = .returned (.bool (decide (z = 0))) ∧ Fr NoS w w' := by
 have hA : Fr NoS w (w.alloc (.cells #[.pointer (some ⟨p, 0, none⟩), .int .i32 e] 48 (0, 0))) := (Fr.refl NoS w).alloc _
 have G := sh_Sign p e z (w.alloc (.cells #[.pointer (some ⟨p, 0, none⟩), .int .i32 e] 48 (0, 0))) (h.fr hA)
 have hs : (z.sign == 0) = decide (z = 0) := by
  by_cases h : z = 0
  ·subst h; rfl
  ·have : z.sign ≠ 0 := fun e => h (Int.sign_eq_zero_iff_zero.1 e)
   rw [decide_eq_false h]; simp [this]
 obtain ⟨s, hz⟩ : ∃ s, z.sign = s := ⟨_, rfl⟩
 rw [hz] at G hs
 obtain ⟨b, hb⟩ : ∃ b, decide (z = 0) = b := ⟨_, rfl⟩
 rw [hb] at hs ⊢
 clear hz hb
 go_enter Tryz.func68, Tryz.ntmps68
 go_wp2_with fail
 refine G.mono ?_
 rintro en w1 ⟨rfl, hf1⟩
 go_wp2
 go_ret
 exact ⟨rfl, hA.trans' hf1⟩
theorem cells2 {w : World} {g : Nat} {a b : Value} {t : TypeId} (h : w.heap[g]? = some (.cells #[a, b] t (0, 0))) :
  w.cell? ⟨g, 0, none⟩ = some a ∧ w.cell? ⟨g, 1, none⟩ = some b ∧ w.frozen? ⟨g, 0, none⟩ = false ∧ w.frozen? ⟨g, 1, none⟩ = false := by
 simp [World.cell?, World.frozen?, h]
set_option maxHeartbeats 1000000 in
theorem sh_New1 (w : World) :
  Calls Tryz.prog 106 #[.int .i64 1, .int .i32 0] w fun en w' => ∃ p, en = .returned (DV p 0) ∧ NewZ w w' p 1 := by
 obtain ⟨u0, hu0⟩ : ∃ u0 : World, Hid (u0 = w.alloc (.cells #[.pointer none, .int .i32 0] 48 (0, 0))) := ⟨_, Lib.hid rfl⟩
 have hblk : u0.heap[w.heap.size]? = some (.cells #[.pointer none, .int .i32 0] 48 (0, 0)) := by rw [hu0.out]; exact heap_alloc_new w _
 have hA : Fr NoS w u0 := by rw [hu0.out]; exact (Fr.refl NoS w).alloc _
 have hsz : w.heap.size < u0.heap.size := by rw [hu0.out]; simp
 go_enter Tryz.func106, Tryz.ntmps106
 go_wp2_with fail
 rw [← hu0.out]
 refine (big_NewInt 1 _ (by omega) (by omega)).mono ?_
 rintro en w1 ⟨p, rfl, hN⟩
 have hblk1 := (hN.fr.block _ hsz (fun x => x)).trans hblk
 obtain ⟨k0, k1, f0, f1⟩ := cells2 hblk1
 have hE := (((Fr.refl (fun k => k = w.heap.size) w1).setCell ⟨w.heap.size, 0, none⟩ (.pointer (some ⟨p, 0, none⟩)) (.inr rfl)).setCell ⟨w.heap.size, 1, none⟩ (.int .i32 0) (.inr rfl))
 have fin : NewZ w ((w1.setCell ⟨w.heap.size, 0, none⟩ (.pointer (some ⟨p, 0, none⟩))).setCell ⟨w.heap.size, 1, none⟩ (.int .i32 0)) p 1 := NewZ.beside (hN.before hA) hE hblk1 (by decide) (Nat.le_refl _) (by have := hN.old; omega)
 have FIN := Lib.hid fin
 clear fin hE hN hblk hblk1 hA hsz
 go_wp2
 exact bodyPost_ret (v := DV p 0) (by simp [results, Tryz.results106, go_sem, k0, k1]) rfl ⟨p, rfl, FIN.out⟩
set_option maxHeartbeats 1000000 in
theorem sh_abs64 (n : Int) (w : World) (h1 : -1000000 ≤ n) (h2 : n ≤ 1000000) :
  Calls Tryz.prog 82 #[.int .i64 n] w fun en w' => en = .returned (.int .i64 (n.natAbs : Int)) ∧ w = w' := by
 by_cases h : n < 0
 ·have b : decide (n < 0) = true := decide_eq_true h
  have e1 : IntKind.i64.wrap (-n) = -n := IntWalk.i64_in _ (by omega)
  go_enter Tryz.func82, Tryz.ntmps82
  go_wp2
  go_ret
  exact ⟨ret1 (by omega), rfl⟩
 ·have b : decide (n < 0) = false := decide_eq_false h
  go_enter Tryz.func82, Tryz.ntmps82
  go_wp2
  go_ret
  exact ⟨ret1 (by omega), rfl⟩
set_option maxHeartbeats 1000000 in
theorem sh_powMinSig (w : World) :
  Calls Tryz.prog 108 #[.int .i32 16] w fun en w' => en = .returned (.int .i64 16) ∧ w = w' := by
 go_enter Tryz.func108, Tryz.ntmps108
 go_wp2
 go_ret
 exact ⟨rfl, rfl⟩
set_option maxRecDepth 100000 in
set_option maxHeartbeats 4000000 in
theorem sh_absIsOne (p : Nat) (e : Int) (z : Int) (w : World) (h : RI w p z) (h0 : z ≠ 0) (hb : z.natAbs < 10 ^ 410) (he : -1000 ≤ e ∧ e ≤ 1000) (hG : Glob w) :
  Calls Tryz.prog 79 #[DV p e] w fun en w' => ∃ b : Bool, en = .returned (.bool b) ∧ (b = true → ∃ k : Nat, e = -(k : Int) ∧ z.natAbs = 10 ^ k) ∧ Fr NoS w w' := by
 have hA : Fr NoS w (w.alloc (.cells #[.pointer (some ⟨p, 0, none⟩), .int .i32 e] 48 (0, 0))) := (Fr.refl NoS w).alloc _
 have hb2 : z.natAbs < 2 ^ 1390 := Nat.lt_trans hb (by decide +kernel)
 have N := sh_NumDigits p e z (w.alloc (.cells #[.pointer (some ⟨p, 0, none⟩), .int .i32 e] 48 (0, 0))) (h.fr hA) h0 hb2 (hG.fr hA)
 have HB := Lib.hid hb
 clear hb hb2
 obtain ⟨u0, hu0⟩ : ∃ u0 : World, Hid (u0 = w.alloc (.cells #[.pointer (some ⟨p, 0, none⟩), .int .i32 e] 48 (0, 0))) := ⟨_, Lib.hid rfl⟩
 have hblk : u0.heap[w.heap.size]? = some (.cells #[.pointer (some ⟨p, 0, none⟩), .int .i32 e] 48 (0, 0)) := by rw [hu0.out]; exact heap_alloc_new w _
 have hsz : w.heap.size < u0.heap.size := by rw [hu0.out]; simp
 rw [← hu0.out] at N hA
 go_enter Tryz.func79, Tryz.ntmps79
 go_wp2_with fail
 rw [← hu0.out]
 refine N.mono ?_
 rintro en w1 ⟨d, rfl, hd, hf1⟩
 have hd410 : d ≤ 410 := by
  refine Nat.le_of_not_lt fun hlt => ?_
  have h1 : (10 : Nat) ^ 410 ≤ 10 ^ (d - 1) := pw_le_shop2 10 410 (d - 1) (by decide) (by omega)
  exact absurd (Nat.lt_of_le_of_lt h1 (Nat.lt_of_le_of_lt hd.2.2 HB.out)) (Nat.lt_irrefl _)
 have hd1 := hd.1
 have HD := Lib.hid hd
 clear hd N
 have hF1 := hA.trans' hf1
 have hr1 := h.fr hF1
 have hblk1 := (hf1.block _ hsz (fun x => x)).trans hblk
 have c0 : w1.cell? ⟨w.heap.size, 0, none⟩ = some (.pointer (some ⟨p, 0, none⟩)) := by simp [World.cell?, hblk1]
 have c1 : w1.cell? ⟨w.heap.size, 1, none⟩ = some (.int .i32 e) := by simp [World.cell?, hblk1]
 by_cases ht : (d : Int) - 1 + e = 0
 ·have bt : ((d : Int) - 1 + e == 0) = true := by simp; exact ht
  have G := sh_getValue p e w1 z hr1
  have eK : (d : Int) - 1 = ((d - 1 : Nat) : Int) := by omega
  go_wp2_with fail
  refine G.mono ?_
  rintro en w2 ⟨rfl, hf2⟩
  have hF2 := hF1.trans' hf2
  go_wp2_with fail
  refine (sh_pow10 (d - 1) w2 (by omega) (hG.fr hF2)).mono ?_
  rintro en w3 ⟨pt, rfl, hN⟩
  go_wp2_with fail
  refine (z_CmpAbs p pt z (10 ^ (d - 1)) w3 ((hr1.fr hf2).fr hN.fr) hN.rd).mono ?_
  rintro en w4 ⟨rfl, hf4⟩
  rw [Int.natAbs_pow, show (10 : Int).natAbs = 10 from rfl]
  have fin : ∀ b : Bool, (cmpI z.natAbs (10 ^ (d - 1)) == 0) = b → (b = true → ∃ k : Nat, e = -(k : Int) ∧ z.natAbs = 10 ^ k) := by
   intro b hb hbt
   subst hb
   refine ⟨d - 1, by omega, ?_⟩
   simp only [beq_iff_eq] at hbt
   unfold cmpI at hbt
   split at hbt
   ·omega
   ·split at hbt <;> omega
  have FIN := Lib.hid fin
  obtain ⟨b, hb⟩ : ∃ b, (cmpI z.natAbs (10 ^ (d - 1)) == 0) = b := ⟨_, rfl⟩
  have FB := Lib.hid (FIN.out b hb)
  have hF4 := (hF2.trans' hN.fr).trans' hf4
  clear fin FIN HD HB
  generalize cmpI z.natAbs (10 ^ (d - 1)) = cc at *
  go_wp2
  go_ret
  exact ⟨_, rfl, FB.out, hF4⟩
 ·have bt : ((d : Int) - 1 + e == 0) = false := by simp; omega
  go_wp2
  go_ret
  exact ⟨false, rfl, (fun h => by cases h), hF1⟩
end Go.Proofs.YtilmldfbmmcchaaGreatDoor
namespace Go.Proofs.YtilmldfbmmcchaaGreatDoor
theorem top_parts {F : Nat → Nat} {o n : Nat} (hF : ∀ j, j < n + 2 → F (o + j) < BB) :
  (F (o + n + 1) * BB + F (o + n)) * BB ^ n ≤ Vb BB F o (n + 2) ∧ Vb BB F o (n + 2) < (F (o + n + 1) * BB + F (o + n) + 1) * BB ^ n := by
 have e : Vb BB F o (n + 2) = Vb BB F o n + (F (o + n + 1) * BB + F (o + n)) * BB ^ n := by
  rw [V_succ, V_succ, Nat.pow_succ, show o + (n + 1) = o + n + 1 by omega]
  generalize Vb BB F o n = a
  generalize BB ^ n = c
  generalize F (o + n + 1) = x
  generalize F (o + n) = y
  generalize BB = b
  grind
 have h : Vb BB F o n < BB ^ n := V_lt (fun j hj => hF j (by omega))
 rw [e, Nat.add_mul (_ + _) 1, Nat.one_mul]
 omega
theorem top_parts3 {F : Nat → Nat} {o n : Nat} (hF : ∀ j, j < n + 3 → F (o + j) < BB) :
  ((F (o + n + 2) * BB + F (o + n + 1)) * BB + F (o + n)) * BB ^ n ≤ Vb BB F o (n + 3) ∧ Vb BB F o (n + 3) < ((F (o + n + 2) * BB + F (o + n + 1)) * BB + F (o + n) + 1) * BB ^ n := by
 have e : Vb BB F o (n + 3) = Vb BB F o n + ((F (o + n + 2) * BB + F (o + n + 1)) * BB + F (o + n)) * BB ^ n := by
  rw [V_succ, V_succ, V_succ, show BB ^ (n + 2) = BB ^ n * BB * BB by rw [Nat.pow_succ, Nat.pow_succ], Nat.pow_succ, show o + (n + 2) = o + n + 2 by omega, show o + (n + 1) = o + n + 1 by omega]
  generalize Vb BB F o n = a
  generalize BB ^ n = c
  generalize F (o + n + 2) = z
  generalize F (o + n + 1) = x
  generalize F (o + n) = y
  generalize BB = b
  grind
 have h : Vb BB F o n < BB ^ n := V_lt (fun j hj => hF j (by omega))
 rw [e, Nat.add_mul (_ + _) 1, Nat.one_mul]
 omega
structure Guess (S v V2 U3 q : Nat) : Prop where
 ge : ∀ D, D * v ≤ S → D * V2 ≤ U3
 le : ∀ t, (t + 1) * V2 ≤ U3 → t ≤ V2 → t * v ≤ S
 dig : q = S / v
 pos : 0 < v
theorem guess_mk {S v V2 U3 p : Nat} (hp : 0 < p) (h1 : V2 * p ≤ v) (h2 : v < (V2 + 1) * p) (h3 : U3 * p ≤ S) (h4 : S < (U3 + 1) * p) (h0 : 0 < V2) : Guess S v V2 U3 (S / v) :=
 ⟨fun D hD => guess_ge h1 h4 hD, fun t ht hV => guess_le (Nat.le_of_lt h2) h3 ht hV, rfl, Nat.lt_of_lt_of_le (Nat.mul_pos h0 hp) h1⟩
theorem Guess.top {S v V2 U3 q t : Nat} (h : Guess S v V2 U3 q) (ht : t * V2 ≤ U3) (hV : t ≤ V2 + 1) : t ≤ q + 1 := by
 rcases Nat.eq_zero_or_pos t with h0 | h0
 ·omega
 ·obtain ⟨s, rfl⟩ : ∃ s, t = s + 1 := ⟨t - 1, by omega⟩
  have := h.le s ht (by omega)
  have : s ≤ q := by rw [h.dig]; exact (Nat.le_div_iff_mul_le h.pos).2 this
  omega
theorem Guess.low {S v V2 U3 q : Nat} (h : Guess S v V2 U3 q) : q * V2 ≤ U3 := h.ge q (by rw [h.dig]; exact Nat.div_mul_le_self _ _)
theorem right_guess {S v q qh R c P : Nat} (hq : q = S / v) (hge : q ≤ qh) (hv : 0 < v) (he : S + P * c = R + qh * v) (hc : c = 0) : qh = q ∧ S = q * v + R ∧ R < v := by
 subst hc
 have h1 : qh * v ≤ S := by omega
 have h2 : qh ≤ S / v := (Nat.le_div_iff_mul_le hv).2 h1
 have h3 : qh = q := by omega
 subst h3
 refine ⟨rfl, by omega, ?_⟩
 have h4 := Nat.mod_lt S hv
 have h5 := Nat.div_add_mod' S v
 rw [← hq] at h5
 omega
theorem wrong_guess {S v q qh R c P lo hi lo2 c3 p B : Nat} (hq : q = S / v) (hle : qh ≤ q + 1) (hv : 0 < v) (hP : P = p * B) (hp : 0 < p) (he : S + P * c = R + qh * v) (hc : c = 1) (hR : R = lo + p * hi) (hRP : R < P) (hvP : v < p)
  (hadd : lo2 + p * c3 = lo + v) (hlo2 : lo2 < p) (hc3 : c3 ≤ 1) (hhi : hi < B) : qh = q + 1 ∧ S = q * v + (lo2 + p * ((hi + c3) % B)) ∧ lo2 + p * ((hi + c3) % B) < v := by
 subst hc
 rw [Nat.mul_one] at he
 have h1 : q < qh := by
  refine Nat.lt_of_not_le fun h => ?_
  have h2 : q * v ≤ S := by rw [hq]; exact Nat.div_mul_le_self _ _
  have h3 := Nat.mul_le_mul_right v h
  omega
 have h3 : qh = q + 1 := by omega
 have h4 := Nat.mod_lt S hv
 have h5 := Nat.div_add_mod' S v
 rw [← hq] at h5
 generalize S % v = r at h4 h5
 rw [h3, Nat.add_mul, Nat.one_mul] at he
 refine ⟨h3, ?_⟩
 have h6 : lo2 + p * (hi + c3) = r + P := by
  rw [Nat.mul_add]; omega
 have hB : p * B = P := hP.symm
 by_cases hd : hi + c3 < B
 ·have h7 := Nat.mul_le_mul_left p (show hi + c3 + 1 ≤ B from hd)
  rw [Nat.mul_add] at h7
  omega
 ·have h8 : hi + c3 = B := by omega
  rw [h8] at h6
  rw [h8, Nat.mod_self, Nat.mul_zero]
  omega
theorem bas_step {G G' Q : Nat → Nat} {N v k m n q R : Nat} (hk : k < m) (hN : N = Vb BB Q (k + 1) (m - (k + 1)) * v * BB ^ (k + 1) + Vb BB G 0 (k + 1 + n)) (hS : Vb BB G k (n + 1) = q * v + R)
  (hlow : ∀ j, j < k → G' j = G j) (hR : Vb BB G' k n = R) : N = Vb BB (upd Q k q) k (m - k) * v * BB ^ k + Vb BB G' 0 (k + n) := by
 obtain ⟨d, rfl⟩ : ∃ d, m = k + 1 + d := ⟨m - (k + 1), by omega⟩
 rw [show k + 1 + d - (k + 1) = d by omega] at hN
 rw [show k + 1 + d - k = d + 1 by omega, V_cons, upd_same, V_congr (F := upd Q k q) (G := Q) (o' := k + 1) (fun j hj => upd_other _ _ _ _ (by omega))]
 rw [show k + 1 + n = k + (n + 1) by omega, V_add BB G 0 k (n + 1), Nat.zero_add, hS, Nat.pow_succ] at hN
 rw [V_add BB G' 0 k n, Nat.zero_add, hR, V_congr (F := G') (G := G) (o' := 0) (fun j hj => by rw [Nat.zero_add]; exact hlow j hj), hN]
 generalize Vb BB Q (k + 1) d = a
 generalize Vb BB G 0 k = g
 generalize BB ^ k = c
 generalize BB = b
 grind
theorem rest_low {F : Nat → Nat} {o n R : Nat} (h : Vb BB F o (n + 1) = R) (hR : R < BB ^ n) : Vb BB F o n = R ∧ F (o + n) = 0 := by
 rw [V_succ] at h
 rcases Nat.eq_zero_or_pos (F (o + n)) with h0 | h0
 ·rw [h0, Nat.mul_zero] at h; exact ⟨h, h0⟩
 ·have := Nat.mul_le_mul_left (BB ^ n) h0; omega
theorem guess_of {G V : Nat → Nat} {n k n1 n2 uj u1 u0 v1 v2 : Nat} (hn1 : n = n1 + 1) (hn2 : n = n2 + 2) (huj : uj = G (k + n)) (hu1 : u1 = G (k + n1)) (hu0 : u0 = G (k + n2)) (hv1 : v1 = V (n - 1)) (hv2 : v2 = V n2)
  (hV : ∀ j, j < n → V j < BB) (hG : ∀ j, j < n + 1 → G (k + j) < BB) (h0 : 0 < v1) : Guess (Vb BB G k (n + 1)) (Vb BB V 0 n) (v1 * BB + v2) ((uj * BB + u1) * BB + u0) (Vb BB G k (n + 1) / Vb BB V 0 n) := by
 obtain ⟨a1, a2⟩ := top_parts (F := V) (o := 0) (n := n2) (fun j hj => by rw [Nat.zero_add]; exact hV j (by omega))
 obtain ⟨b1, b2⟩ := top_parts3 (F := G) (o := k) (n := n2) (fun j hj => hG j (by omega))
 obtain rfl : n1 = n2 + 1 := by omega
 subst hn2
 rw [Nat.zero_add, ← hv2, show n2 + 1 = n2 + 2 - 1 by omega, ← hv1] at a1 a2
 rw [show k + n2 + 2 = k + (n2 + 2) by omega, show k + n2 + 1 = k + (n2 + 1) by omega, ← huj, ← hu1, ← hu0] at b1 b2
 refine guess_mk (Nat.pow_pos (n := n2) BB_pos) a1 a2 b1 b2 ?_
 have := Nat.mul_pos h0 BB_pos
 omega
theorem V_top_lt2 {U V : Nat → Nat} {o o' n : Nat} (hU : ∀ j, j < n → U (o + j) < BB) (h : U (o + n) < V (o' + n)) : Vb BB U o (n + 1) < Vb BB V o' (n + 1) := by
 rw [V_succ, V_succ]
 have h1 : Vb BB U o n < BB ^ n := V_lt hU
 have h2 := Nat.mul_le_mul_left (BB ^ n) (show U (o + n) + 1 ≤ V (o' + n) from h)
 rw [Nat.mul_add, Nat.mul_one] at h2
 omega
theorem top_le {U V : Nat → Nat} {o n : Nat} (h : Vb BB U o (n + 1) < Vb BB V 0 (n + 1)) (hV : ∀ j, j < n → V j < BB) : U (o + n) ≤ V n := by
 refine Nat.le_of_not_lt fun h2 => ?_
 have := V_top_lt2 (U := V) (V := U) (o := 0) (o' := o) (n := n) (fun j hj => by rw [Nat.zero_add]; exact hV j hj) (by rw [Nat.zero_add]; exact h2)
 omega
theorem max_guess {G V : Nat → Nat} {k n : Nat} (hu : G (k + 1 + n) = V n) (hv : 9223372036854775808 ≤ V n) (hV : ∀ j, j < n → V j < BB) : 18446744073709551614 * Vb BB V 0 (n + 1) ≤ Vb BB G k (n + 1 + 1) := by
 rw [V_succ, V_succ (F := G), Nat.zero_add, show k + (n + 1) = k + 1 + n by omega, hu, Nat.pow_succ]
 have h1 : Vb BB V 0 n < BB ^ n := V_lt (fun j hj => by rw [Nat.zero_add]; exact hV j hj)
 have h2 : 18446744073709551614 * (V n + 1) ≤ BB * V n := by rw [BB_eq]; omega
 have h3 := Nat.mul_le_mul_left (BB ^ n) h2
 rw [← Nat.mul_assoc (BB ^ n) BB] at h3
 have h4 : BB ^ n * (18446744073709551614 * (V n + 1)) = 18446744073709551614 * (BB ^ n * V n) + 18446744073709551614 * BB ^ n := by
  rw [Nat.mul_left_comm, Nat.mul_add, Nat.mul_one, Nat.mul_add]
 rw [Nat.mul_add]
 omega
theorem first_guess {D v1 v2 T u0 q r : Nat} (h : D * (v1 * 18446744073709551616 + v2) ≤ T * 18446744073709551616 + u0) (hu : u0 < 18446744073709551616) (hT : T = q * v1 + r) (hr : r < v1) : D ≤ q := by
 have h1 : D * v1 ≤ T := guess_ge (p := 18446744073709551616) (V := v1) (v := v1 * 18446744073709551616 + v2) (u := T * 18446744073709551616 + u0) (Nat.le_add_right _ _) (by rw [Nat.add_mul, Nat.one_mul]; omega) h
 have h2 : D * v1 < (q + 1) * v1 := by rw [Nat.add_mul, Nat.one_mul]; omega
 have := Nat.lt_of_mul_lt_mul_right h2
 omega
theorem down_one {a a' b' b2 v2 p : Nat} (h1 : a * 18446744073709551616 + b' = p + v2) (h2 : a = a' + 1) (h3 : b2 + v2 = b' + 18446744073709551616) : a' * 18446744073709551616 + b2 = p := by
 rw [h2, Nat.add_mul, Nat.one_mul] at h1
 generalize a' * 18446744073709551616 = c at *
 generalize 18446744073709551616 = M at *
 omega
theorem down_none {a b' b2 v2 p : Nat} (h1 : a * 18446744073709551616 + b' = p + v2) (h3 : b2 + v2 = b') : a * 18446744073709551616 + b2 = p := by omega
end Go.Proofs.YtilmldfbmmcchaaGreatDoor
