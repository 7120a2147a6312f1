/- The door of powers: a decimal to the power of a whole number, as data. Natural numbers of nine digits a limb in memory, said by the number alone: what the functions on them compute. Whole numbers of the reference, said by the number alone. Whole numbers of the reference: products. Whole numbers of the reference, read from their text. Decimals of the reference, from data. The plain law of the powers: what the code computes is what the reference rounds. No program is in sight. Whole numbers of the reference: compared, their sign, their text; fractions in memory. Conditions: each theorem bears its own. -/
import Derived.Test.YtilmldfbmmcchaaGreatDoorZ24
set_option linter.unusedVariables false
set_option linter.unusedSimpArgs false
namespace Go.Proofs.YtilmldfbmmcchaaGreatDoor
open Go.RowKit
theorem pw_le_doorq (a b c : Nat) (h1 : 0 < a) (h2 : b ≤ c) : a ^ b ≤ a ^ c := Nat.pow_le_pow_right h1 h2
def rnd (a b : Nat) : Nat := if 2 * (a % b) < b then a / b else a / b + 1
theorem rnd_le (a b : Nat) : rnd a b ≤ a + 1 := by
 unfold rnd
 have := Nat.div_le_self a b
 split <;> omega
theorem dround_rnd (a : Nat) (B : Int) : dround a B = if B < 0 then -(rnd a B.natAbs : Int) else (rnd a B.natAbs : Int) := by
 unfold dround rnd
 have hm : ((a : Int).tmod B).natAbs = a % B.natAbs := by rw [Int.natAbs_tmod]; rfl
 rw [hm]
 have hd : (a : Int).tdiv B = if B < 0 then -((a / B.natAbs : Nat) : Int) else ((a / B.natAbs : Nat) : Int) := by
  by_cases h : B < 0
  ·rw [if_pos h]
   obtain ⟨n, rfl⟩ : ∃ n : Nat, B = -(n : Int) := ⟨B.natAbs, by omega⟩
   rw [Int.tdiv_neg, Int.natAbs_neg]; rfl
  ·rw [if_neg h]
   obtain ⟨n, rfl⟩ : ∃ n : Nat, B = (n : Int) := ⟨B.natAbs, by omega⟩
   rfl
 rw [hd]
 by_cases h : B < 0
 ·simp only [if_pos h]; split <;> simp <;> omega
 ·simp only [if_neg h]; split <;> simp
theorem dround_le (a : Nat) (B : Int) : (dround a B).natAbs ≤ a + 1 := by
 rw [dround_rnd]
 have := rnd_le a B.natAbs
 split <;> omega
theorem ten_nat (k : Nat) : (10 : Int) ^ k = ((10 ^ k : Nat) : Int) := by rw [Int.natCast_pow]; rfl
theorem sm_dround (k : Nat) (B : Int) (hk : k ≤ 420) : Sm (dround (10 ^ k) B) := by
 rw [ten_nat]
 have h1 := dround_le (10 ^ k) B
 have h2 : ∃ N : Nat, (10 : Nat) ^ k ≤ N ∧ N + 1 < BB ^ 39 := ⟨10 ^ 420, pw_le_doorq 10 k 420 (by decide) hk, by decide +kernel⟩
 obtain ⟨N, h2, h3⟩ := h2
 exact Nat.lt_of_le_of_lt (Nat.le_trans h1 (Nat.succ_le_succ h2)) h3
theorem mul_small (N : Nat) (e : Int) (hN : N ≤ 20) (he : -10 ≤ e ∧ e ≤ 10) : -200 ≤ (N : Int) * e ∧ (N : Int) * e ≤ 200 := by
 have h1 : (N : Int) * e ≤ 20 * 10 := by
  rcases Int.le_total 0 e with h | h
  ·exact Int.mul_le_mul (by omega) he.2 h (by omega)
  ·exact Int.le_trans (Int.mul_nonpos_of_nonneg_of_nonpos (by omega) h) (by omega)
 have h2 : (N : Int) * (-e) ≤ 20 * 10 := by
  rcases Int.le_total 0 (-e) with h | h
  ·exact Int.mul_le_mul (by omega) (by omega) h (by omega)
  ·exact Int.le_trans (Int.mul_nonpos_of_nonneg_of_nonpos (by omega) h) (by omega)
 rw [Int.mul_neg] at h2
 omega
theorem isDig_le {X : Int} {nd : Nat} (h : IsDig X nd) (hX : X.natAbs < 10 ^ 401) : nd ≤ 401 := by
 refine Nat.le_of_not_lt fun hlt => ?_
 have h1 : (10 : Nat) ^ 401 ≤ 10 ^ (nd - 1) := pw_le_doorq 10 401 (nd - 1) (by decide) (by omega)
 exact absurd (Nat.lt_of_le_of_lt h1 (Nat.lt_of_le_of_lt h.2.2 hX)) (Nat.lt_irrefl _)
theorem powIs_small {z e n q s : Int} (h : PowIs z e n q s) (hb : z.natAbs < 10 ^ 20) (hn : -20 ≤ n ∧ n ≤ 20) (he : -10 ≤ e ∧ e ≤ 10) : Sm q ∧ -1000 ≤ s ∧ s ≤ 1000 := by
 rcases h with ⟨h0, rfl, rfl⟩ | ⟨h0, N, hE, hN⟩
 ·have h1 := pow_lt_of z n.toNat hb (by omega)
  have h2 := mul_small n.toNat e (by omega) he
  rw [show ((n.toNat : Nat) : Int) = n by omega] at h2
  exact ⟨Nat.lt_trans h1 (by decide +kernel), by omega, by omega⟩
 ·have hN20 : N ≤ 20 := by
   rcases hN with rfl | ⟨k, _, _, rfl⟩ <;> omega
  have hm := mul_small N e hN20 he
  have hX := pow_lt_of z N hb hN20
  rcases hE with ⟨_, rfl, rfl⟩ | ⟨_, nd, P, hd, hP, rfl, rfl⟩
  ·exact ⟨sm_dround _ _ (by omega), by omega, by omega⟩
  ·have h401 := isDig_le hd hX
   have h1 := hd.1
   have hPb : P ≤ 15 + nd + N * e ∧ 14 + nd + N * e ≤ P := by split at hP <;> omega
   exact ⟨sm_dround _ _ (by omega), by omega, by omega⟩
set_option maxHeartbeats 1000000 in
theorem pow_later (a b : Nat) (w : World) :
  CallsD Tryz.prog 16 #[.pointer (some ⟨a, 0, none⟩), .pointer (some ⟨b, 0, none⟩)] .returning w fun e u' w' => e = .returned (.tuple #[]) ∧ u' = .returning ∧ w' = w := by
 refine callsD_of_wpS Tryz.func16 rfl fun c₀ cs hu => ?_
 apply wpS_seq
 apply wpS_region
 simp [wpOpsS, go_sem, recoverD, hu, Tryz.ntmps16, Exit.thenS]
 refine wpS_cond (t := false) (by simp [Act.eval, Array.replicate]) ?_
 simp only [Bool.false_eq_true, if_false]
 refine wpS_of_wp (wp_skip ?_)
 cases c₀
 simp_all [bodyPostS, results, Tryz.results16]
theorem cells1 {w : World} {g : Nat} {a : Value} {t : TypeId} (h : w.heap[g]? = some (.cells #[a] t (0, 0))) : w.cell? ⟨g, 0, none⟩ = some a ∧ w.frozen? ⟨g, 0, none⟩ = false := by
 simp [World.cell?, World.frozen?, h]
def DoorPost (z e n : Int) (w w' : World) (en : Ending) : Prop :=
 Fr NoS w w' ∧ ((z = 0 ∧ n ≤ 0 ∧ en = .returned (.tuple #[.agg #[.string ⟨#[]⟩, .int .i64 0], .int .i64 1])) ∨
  (¬ (z = 0 ∧ n ≤ 0) ∧ ∃ q s, PowIs z e n q s ∧ en = .returned (.tuple #[DC q s, .int .i64 0])))
set_option maxRecDepth 100000 in
set_option maxHeartbeats 4000000 in
theorem im_DecPowInt (z e n : Int) (w : World) (hb : z.natAbs < 10 ^ 20) (hn : -20 ≤ n ∧ n ≤ 20) (he : -10 ≤ e ∧ e ≤ 10) (hG : Glob w) :
  Calls Tryz.prog 7 #[DC z e, .int .i64 n] w fun en w' => DoorPost z e n w w' en := by
 have hl21 : (lz z).length ≤ 21 := by
  unfold lz
  rw [List.length_append]
  have := dg_length_le z.natAbs 20 hb
  split <;> split <;> simp <;> omega
 have hs41 : (tz z).size ≤ 41 := by rw [tz_size]; omega
 have MD := fun W => im_made z e W (by omega) (by omega) (by omega)
 have LT := fun W => im_little (tz z) e W hs41 (by omega) (by omega)
 have PW := fun p W (h : RI W p z) (g : Glob W) => sh_PowInt32 p e z n W h hn he hb g
 have HB := Lib.hid hb
 clear hb hl21 hs41
 obtain ⟨t, ht⟩ : ∃ t, tz z = t := ⟨_, rfl⟩
 rw [ht] at LT
 have MD' : ∀ W, Calls Tryz.prog 17 #[.agg #[.string t, .int .i64 e]] W fun en w' => ∃ p, en = .returned (.tuple #[DV p e, .bool true]) ∧ RI w' p z ∧ Fr NoS W w' := by rw [← ht]; exact MD
 clear MD
 show Calls _ _ #[.agg #[.string (tz z), .int .i64 e], .int .i64 n] w _
 rw [ht]
 clear ht
 obtain ⟨u0, hu0⟩ : ∃ u0 : World, Hid (u0 = ((w.alloc (.cells #[.string t, .int .i64 e] TDec (0, 0))).alloc (.cells #[.string ⟨#[]⟩, .int .i64 0] TDec (0, 0))).alloc (.cells #[.int .i64 0] 3 (0, 0))) := ⟨_, Lib.hid rfl⟩
 have hA : Fr NoS w u0 := by rw [hu0.out]; exact (((Fr.refl NoS w).alloc _).alloc _).alloc _
 have B2 : u0.heap[w.heap.size]? = some (.cells #[.string t, .int .i64 e] TDec (0, 0)) := by rw [hu0.out, old1 (by simp; omega), old1 (by simp), new1 (by simp)]
 have B4 : u0.heap[w.heap.size + 1]? = some (.cells #[.string ⟨#[]⟩, .int .i64 0] TDec (0, 0)) := by rw [hu0.out, old1 (by simp), new1 (by simp)]
 have B5 : u0.heap[w.heap.size + 1 + 1]? = some (.cells #[.int .i64 0] 3 (0, 0)) := by rw [hu0.out, new1 (by simp)]
 obtain ⟨c20, c21, _, _⟩ := cells2 B2
 rw [hu0.out] at c20 c21
 have w32 : IntKind.i32.wrap n = n := IntWalk.i32_in _ (by omega)
 have hmf : ∀ (fn : Fn) (first cap : Array Value) (w : World), (Instr.makeFunc fn first cap).run Tryz.prog w = .ok (.func fn first cap) w := fun _ _ _ _ => rfl
 go_enter_defers Tryz.func7, Tryz.ntmps7
 go_wp2_with fail
 rw [← hu0.out]
 refine (MD' u0).mono ?_
 rintro en w1 ⟨p, rfl, hR1, hf1⟩
 have D2 := hf1.kp B2
 have D4 := hf1.kp B4
 have D5 := hf1.kp B5
 have hF1 := hA.trans' hf1
 clear c20 c21 B2 B4 B5 hf1
 obtain ⟨c20, c21, _, _⟩ := cells2 D2
 have l2 := (zLt D2)
 have n2 : w.heap.size ≠ w1.heap.size := by omega
 go_wp2_with fail
 refine (LT _).mono ?_
 rintro en w2 ⟨rfl, hf2⟩
 have f12 : Fr NoS w1 w2 := ((Fr.refl NoS w1).alloc (.cells #[.pointer (some ⟨p, 0, none⟩), .int .i32 e] TShop (0, 0))).trans' hf2
 have D6 : w2.heap[w1.heap.size]? = some (.cells #[.pointer (some ⟨p, 0, none⟩), .int .i32 e] TShop (0, 0)) := box_made' hf2
 have E4 := f12.kp D4
 have E5 := f12.kp D5
 have hF2 := hF1.trans' f12
 have hR2 := hR1.fr f12
 have hG2 := hG.fr hF2
 clear c20 c21 D2 D4 D5 hf2 n2
 obtain ⟨c60, c61, _, _⟩ := cells2 D6
 have e1 : decide (n < -64) = false := decide_eq_false (by omega)
 have e2 : decide (64 < n) = false := decide_eq_false (by omega)
 go_wp2_with fail
 refine (PW p w2 hR2 hG2).mono ?_
 intro en w3 hP
 have f23 := hP.fr
 have hF3 := hF2.trans' f23
 have G4 := f23.kp E4
 have G5 := f23.kp E5
 have l5 := (zLt G5)
 clear E4 E5 D6 c60 c61
 rcases hP with ⟨hz, hn0, ⟨er, rfl, ti, ai, rfl⟩, _⟩ | ⟨hnz, pq, q, s, rfl, hN, hPI⟩
 ·obtain ⟨u4, hu4⟩ : ∃ u4 : World, Hid (u4 = w3.alloc (.cells #[.pointer none, .int .i32 0] TShop (0, 0))) := ⟨_, Lib.hid rfl⟩
  have f34 : Fr NoS w3 u4 := by rw [hu4.out]; exact (Fr.refl NoS w3).alloc _
  have H4 := f34.kp G4
  have H5 := f34.kp G5
  obtain ⟨k40, k41, f40, f41⟩ := cells2 H4
  obtain ⟨k50, f50⟩ := cells1 H5
  have hE : Fr NoS w (((u4.setCell ⟨w.heap.size + 1, 0, none⟩ (.string ⟨#[]⟩)).setCell ⟨w.heap.size + 1, 1, none⟩ (.int .i64 0)).setCell ⟨w.heap.size + 1 + 1, 0, none⟩ (.int .i64 1)) := (((hF3.trans' f34).setCell ⟨w.heap.size + 1, 0, none⟩ _ (.inl (by simp))).setCell ⟨w.heap.size + 1, 1, none⟩ _ (.inl (by simp))).setCell ⟨w.heap.size + 1 + 1, 0, none⟩ _ (.inl (by simp; omega))
  rw [hu4.out] at k40 k41 f40 f41 k50 f50 hE
  have HE := Lib.hid hE
  have HZ := Lib.hid (And.intro hz hn0)
  clear hz hn0 G4 G5 H4 H5 f34 hu4 hE
  go_wp2
  refine leaves_cons (f := 16) (args := #[.pointer (some ⟨w.heap.size + 1, 0, none⟩), .pointer (some ⟨w.heap.size + 1 + 1, 0, none⟩)]) (by simp) (by simp [go_sem]) ?_
  refine (pow_later _ _ _).mono ?_
  rintro e u' w'' ⟨rfl, rfl, rfl⟩
  simp [Leaves, settle, results, Tryz.results7, go_sem, k40, k41, k50]
  exact ⟨HE.out, .inl ⟨HZ.out.1, HZ.out.2, rfl⟩⟩
 ·obtain ⟨u4, hu4⟩ : ∃ u4 : World, Hid (u4 = w3.alloc (.cells #[.pointer (some ⟨pq, 0, none⟩), .int .i32 s] TShop (0, 0))) := ⟨_, Lib.hid rfl⟩
  have f34 : Fr NoS w3 u4 := by rw [hu4.out]; exact (Fr.refl NoS w3).alloc _
  have H4 := f34.kp G4
  have H5 := f34.kp G5
  obtain ⟨hsq, hs1, hs2⟩ := powIs_small hPI HB.out hn he
  have DD := im_dec pq s q u4 (hN.rd.fr f34) hsq (by omega) (by omega)
  obtain ⟨tq, htq⟩ : ∃ tq, Hid (tz q = tq) := ⟨_, Lib.hid rfl⟩
  have DD' : Calls Tryz.prog 20 #[DV pq s] u4 fun en w' => en = .returned (.agg #[.string tq, .int .i64 s]) ∧ Fr NoS u4 w' := by rw [← htq.out]; exact DD
  rw [hu4.out] at DD'
  have HPI := Lib.hid (And.intro hnz hPI)
  clear DD hnz hPI hN G4 G5
  go_wp2_with fail
  refine DD'.mono ?_
  rintro en w5 ⟨rfl, f45⟩
  rw [← hu4.out] at f45
  have J4 := f45.kp H4
  have J5 := f45.kp H5
  obtain ⟨k40, k41, f40, f41⟩ := cells2 J4
  obtain ⟨k50, f50⟩ := cells1 J5
  have hE : Fr NoS w (((w5.setCell ⟨w.heap.size + 1, 0, none⟩ (.string tq)).setCell ⟨w.heap.size + 1, 1, none⟩ (.int .i64 s)).setCell ⟨w.heap.size + 1 + 1, 0, none⟩ (.int .i64 0)) := ((((hF3.trans' f34).trans' f45).setCell ⟨w.heap.size + 1, 0, none⟩ _ (.inl (by simp))).setCell ⟨w.heap.size + 1, 1, none⟩ _ (.inl (by simp))).setCell ⟨w.heap.size + 1 + 1, 0, none⟩ _ (.inl (by simp; omega))
  have HE := Lib.hid hE
  clear H4 H5 J4 J5 hE f34 f45 DD'
  go_wp2
  refine leaves_cons (f := 16) (args := #[.pointer (some ⟨w.heap.size + 1, 0, none⟩), .pointer (some ⟨w.heap.size + 1 + 1, 0, none⟩)]) (by simp) (by simp [go_sem]) ?_
  refine (pow_later _ _ _).mono ?_
  rintro e u' w'' ⟨rfl, rfl, rfl⟩
  simp [Leaves, settle, results, Tryz.results7, go_sem, k40, k41, k50]
  exact ⟨HE.out, .inr ⟨HPI.out.1, q, s, HPI.out.2, by rw [← htq.out]⟩⟩
end Go.Proofs.YtilmldfbmmcchaaGreatDoor
namespace Go.Proofs.YtilmldfbmmcchaaGreatDoor
open Go.RowKit Go.Proofs.YtilmldfbmmcchaaGreatDoorW.PrintWords Go.Proofs.YtilmldfbmmcchaaGreatDoorW.PrintLast Go.Proofs.YtilmldfbmmcchaaGreatDoorW.PrintMore PFnDecPowInt
def RN (w : World) (v : Value) (n : Nat) : Prop := ∃ (A : Option Addr) (c : Nat), v = .slice A (limbs n).length c ∧ (limbs n).length ≤ c ∧ Kd.C (Kd.int .u32) w A (limbs n).length (limbs n)
theorem RN.fr {w w' : World} {v : Value} {n : Nat} (h : RN w v n) (f : Fr NoS w w') : RN w' v n := by
 obtain ⟨A, c, hv, hc, hC⟩ := h
 exact ⟨A, c, hv, hc, Kd.C_below hC f.below⟩
theorem RN.of_V {w : World} {e b : Nat} {ok : Nat → Prop} {v : Value} {n : Nat} (h : Kd.V (Kd.int .u32) e w b ok v (limbs n)) : RN w v n := by
 obtain ⟨A, c, rfl⟩ := Kd.V_slice h
 obtain ⟨_, h2, h3⟩ := Kd.V_reads' h
 exact ⟨A, c, rfl, h2, h3⟩
theorem RN.of_R {w : World} {e b : Nat} {ok : Nat → Prop} {v : Value} {n : Nat} (h : Kd.R (Kd.int .u32) e w b ok v (limbs n)) : RN w v n := by
 obtain ⟨A, c, rfl, h2, h3⟩ := Kd.R_reads h
 exact ⟨A, c, rfl, h2, h3⟩
theorem RN.nil (w : World) : RN w (.slice none 0 0) 0 := ⟨none, 0, by rw [limbs_zero]; rfl, by rw [limbs_zero]; exact Nat.le_refl _, by rw [limbs_zero]; exact Kd.C_nil _ w⟩
theorem RN.slice {w : World} {v : Value} {n : Nat} (h : RN w v n) : ∃ A l c, v = .slice A l c ∧ (l = 0 ↔ n = 0) ∧ l ≤ c := by
 obtain ⟨A, c, rfl, hc, hC⟩ := h
 refine ⟨A, _, c, rfl, ?_, hc⟩
 constructor
 ·intro h
  refine Nat.eq_zero_of_not_pos fun hp => ?_
  have := len_pos hp
  omega
 ·rintro rfl; rw [limbs_zero]; rfl
theorem sp_NatMul (v1 v2 : Value) (a b : Nat) (w : World) (h1 : RN w v1 a) (h2 : RN w v2 b) (ha : a < LIM 40000) (hb : b < LIM 40000) :
  Calls Tryz.prog 29 #[v1, v2] w fun e w' => ∃ v, e = .returned v ∧ RN w' v (a * b) ∧ Fr NoS w w' := by
 obtain ⟨A, c, rfl, hc, hC⟩ := h1
 obtain ⟨A', c', rfl, hc', hC'⟩ := h2
 obtain ⟨k, hk⟩ := (mulN a b (lim_lt ha 50000 (by decide)) (lim_lt hb 50000 (by decide))).rounds
 refine (spec_NatMul.calls k A c _ A' c' _ _ w hC hc hC' hc' hk).mono ?_
 rintro e w' ⟨v, rfl, hV, hB⟩
 exact ⟨v, rfl, RN.of_V hV, Fr.of_below hB⟩
theorem sp_Pow10 (n : Nat) (w : World) (hn : n ≤ 9000) :
  Calls Tryz.prog 30 #[.int .i64 n] w fun e w' => ∃ v, e = .returned v ∧ RN w' v (10 ^ n) ∧ Fr NoS w w' := by
 obtain ⟨k, hk⟩ := (pow10N n hn).rounds
 refine (spec_Pow10.calls k _ _ w hk).mono ?_
 rintro e w' ⟨v, rfl, hV, hB⟩
 exact ⟨v, rfl, RN.of_R hV, Fr.of_below hB⟩
theorem sp_NatFrom (n : Nat) (w : World) (hn : n < 18446744073709551616) :
  Calls Tryz.prog 45 #[.int .u64 n] w fun e w' => ∃ v, e = .returned v ∧ RN w' v n ∧ Fr NoS w w' := by
 obtain ⟨k, hk⟩ := (fromN n hn).rounds
 refine (spec_NatFrom.calls k _ _ w hk).mono ?_
 rintro e w' ⟨v, rfl, hV, hB⟩
 exact ⟨v, rfl, RN.of_R hV, Fr.of_below hB⟩
theorem sp_NatPow (v1 : Value) (a n : Nat) (w : World) (h1 : RN w v1 a) (hn : n ≤ 100000) (ha : ∀ j, j ≤ n → a ^ j < LIM 40000) :
  Calls Tryz.prog 26 #[v1, .int .i64 n] w fun e w' => ∃ v, e = .returned v ∧ RN w' v (a ^ n) ∧ Fr NoS w w' := by
 obtain ⟨A, c, rfl, hc, hC⟩ := h1
 obtain ⟨k, hk⟩ := (powN a n hn (fun j hj => lim_lt (ha j hj) 50000 (by decide))).rounds
 refine (spec_NatPow.calls k A c _ _ _ w hC hc hk).mono ?_
 rintro e w' ⟨v, rfl, hV, hB⟩
 exact ⟨v, rfl, RN.of_V hV, Fr.of_below hB⟩
theorem sp_NatAdd (v1 v2 : Value) (a b : Nat) (w : World) (h1 : RN w v1 a) (h2 : RN w v2 b) (ha : a < LIM 40000) (hb : b < LIM 40000) :
  Calls Tryz.prog 49 #[v1, v2] w fun e w' => ∃ v, e = .returned v ∧ RN w' v (a + b) ∧ Fr NoS w w' := by
 obtain ⟨A, c, rfl, hc, hC⟩ := h1
 obtain ⟨A', c', rfl, hc', hC'⟩ := h2
 obtain ⟨k, hk⟩ := (addN a b (lim_lt ha 100000 (by decide)) (lim_lt hb 100000 (by decide))).rounds
 refine (spec_NatAdd.calls k A c _ A' c' _ _ w hC hc hC' hc' hk).mono ?_
 rintro e w' ⟨v, rfl, hV, hB⟩
 exact ⟨v, rfl, RN.of_R hV, Fr.of_below hB⟩
theorem sp_NatCmp (v1 v2 : Value) (a b : Nat) (w : World) (h1 : RN w v1 a) (h2 : RN w v2 b) (ha : a < LIM 40000) :
  Calls Tryz.prog 48 #[v1, v2] w fun e w' => e = .returned (.int .i64 (cmp3 a b)) ∧ Fr NoS w w' := by
 obtain ⟨A, c, rfl, hc, hC⟩ := h1
 obtain ⟨A', c', rfl, hc', hC'⟩ := h2
 obtain ⟨k, hk⟩ := (cmpN a b (lim_lt ha 100000 (by decide))).rounds
 refine (spec_NatCmp.calls k A c _ A' c' _ _ w hC hc hC' hc' hk).mono ?_
 rintro e w' ⟨rfl, hD⟩
 refine ⟨rfl, ?_⟩
 obtain ⟨q, rfl⟩ := hD
 exact (Fr.refl NoS w).drewN q
theorem sp_NatDiv (v1 v2 : Value) (a b : Nat) (w : World) (h1 : RN w v1 a) (h2 : RN w v2 b) (hb : 0 < b) (ha : a < LIM 40000) :
  Calls Tryz.prog 46 #[v1, v2] w fun e w' => ∃ v u, e = .returned (.tuple #[v, u]) ∧ RN w' v (a / b) ∧ RN w' u (a % b) ∧ Fr NoS w w' := by
 obtain ⟨A, c, rfl, hc, hC⟩ := h1
 obtain ⟨A', c', rfl, hc', hC'⟩ := h2
 obtain ⟨k, hk⟩ := (divN a b hb ha).rounds
 refine (spec_NatDiv.calls k A c _ A' c' _ _ _ w hC hc hC' hc' hk).mono ?_
 rintro e w' ⟨v, u, rfl, hV, hU, hB⟩
 exact ⟨v, u, rfl, RN.of_V hV, RN.of_V hU, Fr.of_below hB⟩
theorem sp_String (v1 : Value) (a : Nat) (w : World) (h1 : RN w v1 a) (ha : a < 10 ^ 5000) :
  Calls Tryz.prog 61 #[v1] w fun e w' => e = .returned (.string (tz (a : Int))) ∧ Fr NoS w w' := by
 obtain ⟨A, c, rfl, hc, hC⟩ := h1
 obtain ⟨k, hk⟩ := (strN a ha).rounds
 refine (spec_Nat_String.calls k A c _ _ w hC hc hk).mono ?_
 rintro e w' ⟨rfl, hB⟩
 exact ⟨rfl, Fr.of_below hB⟩
theorem sp_Digits (v1 : Value) (a : Nat) (w : World) (h1 : RN w v1 a) (ha : a < 10 ^ 5000) :
  Calls Tryz.prog 51 #[v1] w fun e w' => e = .returned (.int .i64 ((dg a).length : Int)) ∧ Fr NoS w w' := by
 obtain ⟨A, c, rfl, hc, hC⟩ := h1
 obtain ⟨k, hk⟩ := (digitsN a ha).rounds
 refine (spec_Nat_Digits.calls k A c _ _ w hC hc hk).mono ?_
 rintro e w' ⟨rfl, hB⟩
 exact ⟨rfl, Fr.of_below hB⟩
theorem sp_NatOf (s : ByteArray) (D n : Nat) (w : World) (T : DText s D n) (hD : D ≤ 100000) :
  Calls Tryz.prog 60 #[.string s] w fun e w' => ∃ v, e = .returned (.tuple #[v, .bool true]) ∧ RN w' v n ∧ Fr NoS w w' := by
 obtain ⟨k, hk⟩ := (ofN s D n T hD).rounds
 refine (spec_NatOf.calls k s _ _ w hk).mono ?_
 rintro e w' ⟨v, rfl, hV, hB⟩
 exact ⟨v, rfl, RN.of_V hV, Fr.of_below hB⟩
def RW (w : World) (x : Value) (z : Int) : Prop := ∃ v, x = .agg #[.bool (decide (z < 0)), v] ∧ RN w v z.natAbs
theorem RW.fr {w w' : World} {x : Value} {z : Int} (h : RW w x z) (f : Fr NoS w w') : RW w' x z := by
 obtain ⟨v, hx, hv⟩ := h
 exact ⟨v, hx, hv.fr f⟩
def sg (neg : Bool) (n : Nat) : Int := if neg then -(n : Int) else n
theorem sg_abs (neg : Bool) (n : Nat) : (sg neg n).natAbs = n := by cases neg <;> simp [sg]
theorem sg_neg (neg : Bool) (n : Nat) : decide (sg neg n < 0) = (neg && decide (0 < n)) := by
 cases neg
 ·simp [sg]
 ·simp only [sg, Bool.true_and, if_true]
  by_cases h : 0 < n
  ·rw [decide_eq_true h, decide_eq_true (by omega)]
  ·rw [decide_eq_false h, decide_eq_false (by omega)]
set_option maxHeartbeats 1000000 in
theorem sp_wholeOf (neg : Bool) (v : Value) (n : Nat) (w : World) (h : RN w v n) :
  Calls Tryz.prog 25 #[.bool neg, v] w fun e w' => ∃ x, e = .returned x ∧ RW w' x (sg neg n) ∧ Fr NoS w w' := by
 have hf : ∀ o, RN (w.alloc o) v n := fun o => h.fr ((Fr.refl NoS w).alloc o)
 have hsn := sg_neg neg n
 have hsa := sg_abs neg n
 obtain ⟨A, l, c, rfl, hl, hc⟩ := h.slice
 have hd : decide (0 < l) = decide (0 < n) := by
  by_cases h0 : n = 0
  ·rw [decide_eq_false (by omega), decide_eq_false (by have := hl.2 h0; omega)]
  ·rw [decide_eq_true (by omega), decide_eq_true (by omega)]
 have fin : ∀ (b : Bool) o, b = (neg && decide (0 < l)) → RW (w.alloc o) (.agg #[.bool b, .slice A l c]) (sg neg n) := fun b o hb => ⟨.slice A l c, by rw [hb, hsn, hd], by rw [hsa]; exact hf o⟩
 have HF := Lib.hid fin
 clear fin hf hsn hsa hd hl h
 cases neg with
 | true =>
  go_enter Tryz.func25, Tryz.ntmps25
  go_wp2
  exact bodyPost_ret (v := .agg #[.bool (decide (0 < l)), .slice A l c]) (by simp [results, Tryz.results25, go_sem]) rfl ⟨_, rfl, HF.out _ _ (by simp), (Fr.refl _ _).alloc _⟩
 | false =>
  go_enter Tryz.func25, Tryz.ntmps25
  go_wp2
  exact bodyPost_ret (v := .agg #[.bool false, .slice A l c]) (by simp [results, Tryz.results25, go_sem]) rfl ⟨_, rfl, HF.out _ _ (by simp), (Fr.refl _ _).alloc _⟩
theorem limbs_one : limbs 1 = [1] := by rw [limbs_pos (by omega)]; simp [limbs_zero]
set_option maxHeartbeats 1000000 in
theorem sp_one (w : World) :
  Calls Tryz.prog 31 #[] w fun e w' => ∃ v, e = .returned v ∧ RN w' v 1 ∧ Fr NoS w w' := by
 have K : RN (w.alloc (.cells #[.int .u32 1] 87 (0, 0))) (.slice (some ⟨w.heap.size, 0, none⟩) 1 1) 1 := by
  refine ⟨some ⟨w.heap.size, 0, none⟩, 1, by rw [limbs_one]; rfl, by rw [limbs_one]; exact Nat.le_refl _, ?_⟩
  rw [limbs_one]
  refine Kd.C_of_reads (d := 0) ⟨rfl, by decide, fun _ => ⟨_, rfl, fun j hj => ?_⟩⟩
  obtain rfl : j = 0 := by simp at hj; exact hj
  exact cell_of_heap (heap_alloc_new w _) rfl
 have HK := Lib.hid K
 clear K
 go_enter Tryz.func31, Tryz.ntmps31
 go_wp2
 go_ret
 exact ⟨_, rfl, HK.out, (Fr.refl _ _).alloc _⟩
abbrev TWh : TypeId := 28
theorem sg_mul (a b : Int) : sg (!(decide (a < 0) == decide (b < 0))) (a.natAbs * b.natAbs) = a * b := by
 rcases Int.lt_or_le a 0 with h | h <;> rcases Int.lt_or_le b 0 with k | k
 ·obtain ⟨m, rfl⟩ : ∃ m : Nat, a = -(m : Int) := ⟨a.natAbs, by omega⟩
  obtain ⟨n, rfl⟩ : ∃ n : Nat, b = -(n : Int) := ⟨b.natAbs, by omega⟩
  rw [decide_eq_true h, decide_eq_true k]; simp [sg, Int.neg_mul_neg]
 ·obtain ⟨m, rfl⟩ : ∃ m : Nat, a = -(m : Int) := ⟨a.natAbs, by omega⟩
  obtain ⟨n, rfl⟩ : ∃ n : Nat, b = (n : Int) := ⟨b.natAbs, by omega⟩
  rw [decide_eq_true h, decide_eq_false (by omega)]; simp [sg, Int.neg_mul]
 ·obtain ⟨m, rfl⟩ : ∃ m : Nat, a = (m : Int) := ⟨a.natAbs, by omega⟩
  obtain ⟨n, rfl⟩ : ∃ n : Nat, b = -(n : Int) := ⟨b.natAbs, by omega⟩
  rw [decide_eq_true k, decide_eq_false (by omega)]; simp [sg, Int.mul_neg]
 ·obtain ⟨m, rfl⟩ : ∃ m : Nat, a = (m : Int) := ⟨a.natAbs, by omega⟩
  obtain ⟨n, rfl⟩ : ∃ n : Nat, b = (n : Int) := ⟨b.natAbs, by omega⟩
  rw [decide_eq_false (by omega), decide_eq_false (by omega)]; simp [sg]
theorem RN.beside {w w' : World} {v : Value} {n g : Nat} {cs : Array Value} {t : TypeId} (h : RN w v n) (hg : w.heap[g]? = some (.cells cs t (0, 0))) (hc : ∀ (j : Nat) (z : Int), cs[j]? ≠ some (.int .u32 z)) (f : Fr (· = g) w w') : RN w' v n := by
 obtain ⟨A, c, rfl, hl, hC⟩ := h
 obtain ⟨h1, h2, h3⟩ := Kd.reads_of_C (d := 0) hC
 refine ⟨A, c, rfl, hl, Kd.C_of_reads (d := 0) ⟨h1, h2, fun hn => ?_⟩⟩
 obtain ⟨ad, e, hr⟩ := h3 hn
 refine ⟨ad, e, fun j hj => ?_⟩
 have hcell := hr j hj
 have hne : (ad.add j).block ≠ g := by
  intro eb
  generalize ad.add j = q at hcell eb
  obtain ⟨b, o, sp⟩ := q
  simp only at eb
  subst eb
  cases sp with
  | none =>
   simp only [World.cell?, hg] at hcell
   exact hc o _ (by simpa using hcell)
  | some x => simp [World.cell?, hg] at hcell
 rw [f.cell (World.block_lt_of_cell? w _ hcell) hne]
 exact hcell
set_option maxRecDepth 100000 in
set_option maxHeartbeats 4000000 in
theorem sp_WMul (x y : Value) (a b : Int) (w : World) (hx : RW w x a) (hy : RW w y b) (ha : a.natAbs < LIM 40000) (hb : b.natAbs < LIM 40000) :
  Calls Tryz.prog 44 #[x, y] w fun e w' => ∃ r, e = .returned r ∧ RW w' r (a * b) ∧ Fr NoS w w' := by
 obtain ⟨va, rfl, h1⟩ := hx
 obtain ⟨vb, rfl, h2⟩ := hy
 have hm := sg_mul a b
 obtain ⟨na, hna⟩ : ∃ n, decide (a < 0) = n := ⟨_, rfl⟩
 obtain ⟨nb, hnb⟩ : ∃ n, decide (b < 0) = n := ⟨_, rfl⟩
 rw [hna, hnb] at hm ⊢
 obtain ⟨A1, l1, c1, rfl, _, _⟩ := h1.slice
 obtain ⟨A2, l2, c2, rfl, _, _⟩ := h2.slice
 clear hna hnb
 obtain ⟨u0, hu0⟩ : ∃ u0 : World, Hid (u0 = ((w.alloc (.cells #[.bool na, .slice A1 l1 c1] TWh (0, 0))).alloc (.cells #[.bool nb, .slice A2 l2 c2] TWh (0, 0))).alloc (.cells #[.bool false, .slice none 0 0] TWh (0, 0))) := ⟨_, Lib.hid rfl⟩
 have hA : Fr NoS w u0 := by rw [hu0.out]; exact (((Fr.refl NoS w).alloc _).alloc _).alloc _
 have B2 : u0.heap[w.heap.size]? = some (.cells #[.bool na, .slice A1 l1 c1] TWh (0, 0)) := by rw [hu0.out, old1 (by simp; omega), old1 (by simp), new1 (by simp)]
 have B3 : u0.heap[w.heap.size + 1]? = some (.cells #[.bool nb, .slice A2 l2 c2] TWh (0, 0)) := by rw [hu0.out, old1 (by simp), new1 (by simp)]
 have B4 : u0.heap[w.heap.size + 1 + 1]? = some (.cells #[.bool false, .slice none 0 0] TWh (0, 0)) := by rw [hu0.out, new1 (by simp)]
 obtain ⟨c20, c21, _, _⟩ := cells2 B2
 obtain ⟨c30, c31, _, _⟩ := cells2 B3
 have r1 := h1.fr hA
 have r2 := h2.fr hA
 have NM := sp_NatMul (.slice A1 l1 c1) (.slice A2 l2 c2) a.natAbs b.natAbs u0.drew (r1.fr (Fr.refl NoS u0).drew) (r2.fr (Fr.refl NoS u0).drew) ha hb
 have HM := Lib.hid hm
 have n1 : w.heap.size ≠ w.heap.size + 1 + 1 := by omega
 have n1' : w.heap.size + 1 + 1 ≠ w.heap.size := by omega
 clear hm h1 h2 r1 r2
 go_enter Tryz.func44, Tryz.ntmps44
 go_wp2_with fail
 rw [← hu0.out]
 go_region_held3 (fun w' => w'.cell? ⟨w.heap.size, 0, none⟩ = some (.bool na) ∧ w'.cell? ⟨w.heap.size, 1, none⟩ = some (.slice A1 l1 c1) ∧ w'.cell? ⟨w.heap.size + 1, 0, none⟩ = some (.bool nb) ∧ w'.cell? ⟨w.heap.size + 1, 1, none⟩ = some (.slice A2 l2 c2)) (go_keep) (first | (go_at_call 29; (with_reducible refine NM.mono ?_); rintro en w1 ⟨v, rfl, hv, f1⟩; have F1 : Fr NoS u0 w1 := (Fr.refl NoS u0).drew.trans' f1; have D2 := F1.kp B2; have D3 := F1.kp B3; clear c20 c21 c30 c31 f1; obtain ⟨c20, c21, _, _⟩ := cells2 D2; obtain ⟨c30, c31, _, _⟩ := cells2 D3) | (go_at_call 25; (with_reducible refine (sp_wholeOf (!(na == nb)) v (a.natAbs * b.natAbs) w1 hv).mono ?_); rintro en w2 ⟨r, rfl, hr, f2⟩; have F2 : Fr NoS u0 w2 := F1.trans' f2; have E2 := F2.kp B2; have E3 := F2.kp B3; have E4 := F2.kp B4; clear c20 c21 c30 c31 f2; obtain ⟨c20, c21, _, _⟩ := cells2 E2; obtain ⟨c30, c31, _, _⟩ := cells2 E3; obtain ⟨k0, k1, kf0, kf1⟩ := cells2 E4; obtain ⟨vr, rfl, hvr⟩ := hr; obtain ⟨A3, l3, c3, rfl, _, _⟩ := hvr.slice))
 all_goals
  have fE : Fr (fun k => k = w.heap.size + 1 + 1) w2 ((w2.setCell ⟨w.heap.size + 1 + 1, 0, none⟩ (.bool (decide (sg (!(na == nb)) (a.natAbs * b.natAbs) < 0)))).setCell ⟨w.heap.size + 1 + 1, 1, none⟩ (.slice A3 l3 c3)) := (Fr.set _ _ _ _).trans' (Fr.set _ _ _ _)
  have hv3 := hvr.beside E4 (fun j z e => by
   rcases j with _ | _ | j <;> simp at e) fE
  have hsz := hA.size
  have hFE := (hA.trans' F2).trans fE (fun i hi e => by omega)
  have HV := Lib.hid (And.intro hv3 hFE)
  clear fE hv3 hFE E2 E3 E4 D2 D3 B2 B3 B4 c20 c21 c30 c31 NM
  go_wp2
  exact bodyPost_ret (v := .agg #[.bool (decide (sg (!(na == nb)) (a.natAbs * b.natAbs) < 0)), .slice A3 l3 c3]) (by simp [results, Tryz.results44, go_sem, k0, k1]) rfl ⟨_, rfl, by rw [← HM.out]; exact ⟨_, rfl, HV.out.1⟩, HV.out.2⟩
set_option maxRecDepth 100000 in
set_option maxHeartbeats 4000000 in
theorem sp_Parse (z : Int) (w : World) (h : (lz z).length ≤ 100000) :
  Calls Tryz.prog 41 #[.string (tz z)] w fun e w' => ∃ x, e = .returned (.tuple #[x, .bool true]) ∧ RW w' x z ∧ Fr NoS w w' := by
 obtain ⟨s, hs⟩ : ∃ s, Hid (s = tz z) := ⟨_, Lib.hid rfl⟩
 rw [← hs.out]
 obtain ⟨u0, hu0⟩ : ∃ u0 : World, Hid (u0 = w.alloc (.cells #[.bool false, .slice none 0 0] TWh (0, 0))) := ⟨_, Lib.hid rfl⟩
 have hA : Fr NoS w u0 := by rw [hu0.out]; exact (Fr.refl NoS w).alloc _
 have B2 : u0.heap[w.heap.size]? = some (.cells #[.bool false, .slice none 0 0] TWh (0, 0)) := by rw [hu0.out, new1 (by simp)]
 rcases Int.lt_or_le z 0 with hneg | hpos
 ·obtain ⟨b0, b1, T⟩ := dtext_neg z hneg
  rw [← hs.out] at b0 b1 T
  have hDl : (dg z.natAbs).length ≤ 100000 := by
   have : (lz z).length = (dg z.natAbs).length + 1 := by rw [lz, if_neg (by omega), if_pos hneg]; simp
   omega
  have NO := sp_NatOf _ _ _ u0 T hDl
  have k0 : ∀ h : 0 < s.size, ((s[0]'h).toNat : Int) = 45 := fun h => (bt_at s 0 h).trans b0
  have e1 : (!s.toList.isEmpty) = true := ba_ne s (by omega)
  have e2 : s.toList.isEmpty = false := by simpa using e1
  have s2 : (0 : Nat) < s.size := by omega
  have s3 : (1 : Int) ≤ (s.size : Int) := by omega
  rw [hu0.out] at NO
  go_enter Tryz.func41, Tryz.ntmps41
  go_wp2_with fail
  refine NO.mono ?_
  rintro en w1 ⟨v, rfl, hv, f1⟩
  rw [← hu0.out] at f1
  go_wp2_with fail
  refine (sp_wholeOf true v z.natAbs w1 hv).mono ?_
  rintro en w2 ⟨r, rfl, hr, f2⟩
  have hF2 : Fr NoS u0 w2 := f1.trans' f2
  have E2 := hF2.kp B2
  obtain ⟨vr, rfl, hvr⟩ := hr
  obtain ⟨A3, l3, c3, rfl, _, _⟩ := hvr.slice
  rw [(show sg true z.natAbs = z by simp [sg]; omega)] at hvr ⊢
  obtain ⟨bb, hbb⟩ : ∃ bb, Hid (decide (z < 0) = bb) := ⟨_, rfl⟩
  rw [hbb.out]
  have fE : Fr (fun k => k = w.heap.size) w2 ((w2.setCell ⟨w.heap.size, 0, none⟩ (.bool bb)).setCell ⟨w.heap.size, 1, none⟩ (.slice A3 l3 c3)) := (Fr.set _ _ _ _).trans' (Fr.set _ _ _ _)
  have hv3 := hvr.beside E2 (fun j z e => by rcases j with _ | _ | j <;> simp at e) fE
  have hFE := (hA.trans' hF2).trans fE (fun i hi e => by omega)
  obtain ⟨k0', k1, kf0, kf1⟩ := cells2 E2
  have HV := Lib.hid (And.intro hv3 hFE)
  clear fE hv3 hFE E2 B2 NO hvr hv f1 f2 hF2
  go_wp2
  exact bodyPost_ret (v := .tuple #[.agg #[.bool bb, .slice A3 l3 c3], .bool true]) (by simp [results, Tryz.results41, go_sem, k0', k1]) rfl ⟨_, rfl, ⟨_, by rw [hbb.out], HV.out.1⟩, HV.out.2⟩
 ·have T := dtext_pos z hpos
  rw [← hs.out] at T
  have NO := sp_NatOf _ _ _ u0 T h
  have hsz : 0 < s.size := by have := T.size; have := T.pos; omega
  obtain ⟨c, hc⟩ : ∃ c, bt s 0 = c := ⟨_, rfl⟩
  have hcb : 48 ≤ c := by
   have := T.byte 0 T.pos
   rw [show ((0 : Nat) : Int) = 0 from rfl, hc] at this; omega
  have k0 : ∀ h : 0 < s.size, ((s[0]'h).toNat : Int) = c := fun h => (bt_at s 0 h).trans hc
  have e1 : (!s.toList.isEmpty) = true := ba_ne s hsz
  have e2 : s.toList.isEmpty = false := by simpa using e1
  have e3 : (c == 45) = false := beq_eq_false_iff_ne.2 (by omega)
  have e4 : (c == 43) = false := beq_eq_false_iff_ne.2 (by omega)
  clear hc
  rw [hu0.out] at NO
  go_enter Tryz.func41, Tryz.ntmps41
  go_wp2_with fail
  refine NO.mono ?_
  rintro en w1 ⟨v, rfl, hv, f1⟩
  rw [← hu0.out] at f1
  go_wp2_with fail
  refine (sp_wholeOf false v z.natAbs w1 hv).mono ?_
  rintro en w2 ⟨r, rfl, hr, f2⟩
  have hF2 : Fr NoS u0 w2 := f1.trans' f2
  have E2 := hF2.kp B2
  obtain ⟨vr, rfl, hvr⟩ := hr
  obtain ⟨A3, l3, c3, rfl, _, _⟩ := hvr.slice
  rw [(show sg false z.natAbs = z by simp [sg]; omega)] at hvr ⊢
  obtain ⟨bb, hbb⟩ : ∃ bb, Hid (decide (z < 0) = bb) := ⟨_, rfl⟩
  rw [hbb.out]
  have fE : Fr (fun k => k = w.heap.size) w2 ((w2.setCell ⟨w.heap.size, 0, none⟩ (.bool bb)).setCell ⟨w.heap.size, 1, none⟩ (.slice A3 l3 c3)) := (Fr.set _ _ _ _).trans' (Fr.set _ _ _ _)
  have hv3 := hvr.beside E2 (fun j z e => by rcases j with _ | _ | j <;> simp at e) fE
  have hFE := (hA.trans' hF2).trans fE (fun i hi e => by omega)
  obtain ⟨k0', k1, kf0, kf1⟩ := cells2 E2
  have HV := Lib.hid (And.intro hv3 hFE)
  clear fE hv3 hFE E2 B2 NO hvr hv f1 f2 hF2
  go_wp2
  exact bodyPost_ret (v := .tuple #[.agg #[.bool bb, .slice A3 l3 c3], .bool true]) (by simp [results, Tryz.results41, go_sem, k0', k1]) rfl ⟨_, rfl, ⟨_, by rw [hbb.out], HV.out.1⟩, HV.out.2⟩
set_option maxRecDepth 100000 in
set_option maxHeartbeats 2000000 in
theorem sp_WholeIn (z : Int) (w : World) (h : (lz z).length ≤ 100000) :
  Calls Tryz.prog 43 #[.string (tz z)] w fun e w' => ∃ x, e = .returned x ∧ RW w' x z ∧ Fr NoS w w' := by
 obtain ⟨u0, hu0⟩ : ∃ u0 : World, Hid (u0 = w.alloc (.cells #[.bool false, .slice none 0 0] TWh (0, 0))) := ⟨_, Lib.hid rfl⟩
 have hA : Fr NoS w u0 := by rw [hu0.out]; exact (Fr.refl NoS w).alloc _
 have B2 : u0.heap[w.heap.size]? = some (.cells #[.bool false, .slice none 0 0] TWh (0, 0)) := by rw [hu0.out, new1 (by simp)]
 have PA := sp_Parse z u0 h
 obtain ⟨s, hs⟩ : ∃ s, tz z = s := ⟨_, rfl⟩
 rw [hs] at PA ⊢
 rw [hu0.out] at PA
 clear hs
 go_enter Tryz.func43, Tryz.ntmps43
 go_wp2_with fail
 refine PA.mono ?_
 rintro en w1 ⟨x, rfl, hx, f1⟩
 rw [← hu0.out] at f1
 obtain ⟨vr, rfl, hvr⟩ := hx
 obtain ⟨A3, l3, c3, rfl, _, _⟩ := hvr.slice
 obtain ⟨bb, hbb⟩ : ∃ bb, Hid (decide (z < 0) = bb) := ⟨_, rfl⟩
 rw [hbb.out]
 obtain ⟨u2, hu2⟩ : ∃ u2 : World, Hid (u2 = w1.alloc (.cells #[.bool bb, .slice A3 l3 c3] TWh (0, 0))) := ⟨_, Lib.hid rfl⟩
 have f12 : Fr NoS w1 u2 := by rw [hu2.out]; exact (Fr.refl NoS w1).alloc _
 have hF2 := f1.trans' f12
 have E2 := hF2.kp B2
 have fE : Fr (fun k => k = w.heap.size) u2 ((u2.setCell ⟨w.heap.size, 0, none⟩ (.bool bb)).setCell ⟨w.heap.size, 1, none⟩ (.slice A3 l3 c3)) := (Fr.set _ _ _ _).trans' (Fr.set _ _ _ _)
 have hv3 := (hvr.fr f12).beside E2 (fun j z e => by rcases j with _ | _ | j <;> simp at e) fE
 have hFE := (hA.trans' hF2).trans fE (fun i hi e => by omega)
 obtain ⟨k0', k1, kf0, kf1⟩ := cells2 E2
 have HV := Lib.hid (And.intro hv3 hFE)
 have K2 : u2.heap[w1.heap.size]? = some (.cells #[.bool bb, .slice A3 l3 c3] TWh (0, 0)) := by rw [hu2.out]; exact heap_alloc_new w1 _
 obtain ⟨j0, j1, _, _⟩ := cells2 K2
 rw [hu2.out] at k0' k1 kf0 kf1 j0 j1 HV
 clear fE hv3 hFE E2 B2 PA hvr f1 f12 hF2 K2
 go_wp2
 exact bodyPost_ret (v := .agg #[.bool bb, .slice A3 l3 c3]) (by simp [results, Tryz.results43, go_sem, k0', k1]) rfl ⟨_, rfl, ⟨_, by rw [hbb.out], HV.out.1⟩, HV.out.2⟩
theorem cells3 {w : World} {g : Nat} {a b c : Value} {t : TypeId} (h : w.heap[g]? = some (.cells #[a, b, c] t (0, 0))) :
  w.cell? ⟨g, 0, none⟩ = some a ∧ w.cell? ⟨g, 1, none⟩ = some b ∧ w.cell? ⟨g, 2, none⟩ = some c ∧ w.frozen? ⟨g, 0, none⟩ = false ∧ w.frozen? ⟨g, 1, none⟩ = false ∧ w.frozen? ⟨g, 2, none⟩ = false := by
 simp [World.cell?, World.frozen?, h]
theorem nocell3 (a : Bool) (v : Option Addr × Nat × Nat) (e : Int) (j : Nat) (z : Int) (h : (#[.bool a, .slice v.1 v.2.1 v.2.2, .int .i64 e] : Array Value)[j]? = some (.int .u32 z)) : False := by
 rcases j with _ | _ | _ | j
 ·simp at h
 ·simp at h
 ·simp at h
 ·simp at h
abbrev TSd : TypeId := 40
set_option maxRecDepth 100000 in
set_option maxHeartbeats 2000000 in
theorem sp_DecIn (z e : Int) (w : World) (h : (lz z).length ≤ 100000) :
  Calls Tryz.prog 23 #[DC z e] w fun en w' => ∃ v, en = .returned (.agg #[.bool (decide (z < 0)), v, .int .i64 e]) ∧ RN w' v z.natAbs ∧ Fr NoS w w' := by
 obtain ⟨u0, hu0⟩ : ∃ u0 : World, Hid (u0 = (w.alloc (.cells #[.string (tz z), .int .i64 e] TDec (0, 0))).alloc (.cells #[.bool false, .slice none 0 0, .int .i64 0] TSd (0, 0))) := ⟨_, Lib.hid rfl⟩
 have hA : Fr NoS w u0 := by rw [hu0.out]; exact ((Fr.refl NoS w).alloc _).alloc _
 have B1 : u0.heap[w.heap.size]? = some (.cells #[.string (tz z), .int .i64 e] TDec (0, 0)) := by rw [hu0.out, old1 (by simp), new1 (by simp)]
 have B2 : u0.heap[w.heap.size + 1]? = some (.cells #[.bool false, .slice none 0 0, .int .i64 0] TSd (0, 0)) := by rw [hu0.out, new1 (by simp)]
 have WI := sp_WholeIn z u0.drew h
 obtain ⟨s, hs⟩ : ∃ s, tz z = s := ⟨_, rfl⟩
 show Calls _ _ #[.agg #[.string (tz z), .int .i64 e]] w _
 rw [hs] at WI B1 ⊢
 rw [hs] at hu0
 clear hs
 obtain ⟨c10, c11, _, _⟩ := cells2 B1
 have n1 : w.heap.size ≠ w.heap.size + 1 := by omega
 go_enter Tryz.func23, Tryz.ntmps23
 go_wp2_with fail
 rw [← hu0.out]
 go_region_held3 (fun w' => w'.cell? ⟨w.heap.size, 0, none⟩ = some (.string s) ∧ w'.cell? ⟨w.heap.size, 1, none⟩ = some (.int .i64 e)) (go_keep) (first | (go_at_call 43; (with_reducible refine WI.mono ?_); rintro en w1 ⟨x, rfl, hx, f1⟩; have F1 : Fr NoS u0 w1 := (Fr.refl NoS u0).drew.trans' f1; have D1 := F1.kp B1; have D2 := F1.kp B2; clear c10 c11 f1; obtain ⟨c10, c11, _, _⟩ := cells2 D1; obtain ⟨vr, rfl, hvr⟩ := hx; obtain ⟨A3, l3, c3, rfl, _, _⟩ := hvr.slice; obtain ⟨k0, k1, k2, kf0, kf1, kf2⟩ := cells3 D2; obtain ⟨bb, hbb⟩ : ∃ bb, Hid (decide (z < 0) = bb) := ⟨_, rfl⟩; rw [hbb.out]))
 all_goals
  have fE : Fr (fun k => k = w.heap.size + 1) w1 (((w1.setCell ⟨w.heap.size + 1, 0, none⟩ (.bool bb)).setCell ⟨w.heap.size + 1, 1, none⟩ (.slice A3 l3 c3)).setCell ⟨w.heap.size + 1, 2, none⟩ (.int .i64 e)) := ((Fr.set _ _ _ _).trans' (Fr.set _ _ _ _)).trans' (Fr.set _ _ _ _)
  have hv3 := hvr.beside D2 (fun j z e => nocell3 false (none, 0, 0) 0 j z e) fE
  have hFE := (hA.trans' F1).trans fE (fun i hi e => by omega)
  have HV := Lib.hid (And.intro hv3 hFE)
  clear fE hv3 hFE D1 D2 B1 B2 WI hvr c10 c11
  go_wp2
  exact bodyPost_ret (v := .agg #[.bool bb, .slice A3 l3 c3, .int .i64 e]) (by simp [results, Tryz.results23, go_sem, k0, k1, k2]) rfl ⟨_, by rw [hbb.out], HV.out.1, HV.out.2⟩
end Go.Proofs.YtilmldfbmmcchaaGreatDoor
namespace Go.Proofs.YtilmldfbmmcchaaGreatDoor
open Go.RowKit
theorem rnd_eq (a b : Nat) (hb : 0 < b) : rnd a b = (2 * a + b) / (2 * b) := by
 have h1 := Nat.div_add_mod a b
 have h2 := Nat.mod_lt a hb
 unfold rnd
 generalize a / b = q at h1 ⊢
 generalize a % b = r at h1 h2 ⊢
 have e : 2 * a + b = (2 * r + b) + (2 * b) * q := by
  rw [← h1, Nat.mul_add, ← Nat.mul_assoc]; omega
 rw [e, Nat.add_mul_div_left _ _ (by omega)]
 split
 ·rw [Nat.div_eq_of_lt (by omega)]; omega
 ·have : (2 * r + b) / (2 * b) = 1 := by
   rw [show 2 * r + b = (2 * r + b - 2 * b) + 2 * b by omega, Nat.add_div_right _ (by omega), Nat.div_eq_of_lt (by omega)]
  omega
theorem rnd_scale {a b a' b' : Nat} (hb : 0 < b) (hb' : 0 < b') (h : a * b' = a' * b) : rnd a b = rnd a' b' := by
 rw [rnd_eq a b hb, rnd_eq a' b' hb', ← Nat.mul_div_mul_right (2 * a + b) (2 * b) hb', ← Nat.mul_div_mul_right (2 * a' + b') (2 * b') hb]
 have e1 : (2 * a + b) * b' = (2 * a' + b') * b := by
  rw [Nat.add_mul, Nat.add_mul, Nat.mul_assoc, h, Nat.mul_assoc, Nat.mul_comm b b']
 have e2 : 2 * b * b' = 2 * b' * b := by rw [Nat.mul_assoc, Nat.mul_assoc, Nat.mul_comm b b']
 rw [e1, e2]
def rdv (a : Int) (b : Nat) (p : Int) : Int := sg (decide (a < 0)) (rnd (a.natAbs * 10 ^ p.toNat) (b * 10 ^ (-p).toNat))
def Tle (a b : Nat) (m : Int) : Prop := b * 10 ^ m.toNat ≤ a * 10 ^ (-m).toNat
theorem ten_pos (k : Nat) : 0 < 10 ^ k := Nat.pow_pos (by omega)
theorem Tle.anti {a b : Nat} {m k : Int} (h : Tle a b m) (hk : k ≤ m) : Tle a b k := by
 unfold Tle at h ⊢
 refine Nat.le_of_mul_le_mul_right (c := 10 ^ (-m).toNat) ?_ (ten_pos _)
 have h1 : b * 10 ^ k.toNat * 10 ^ (-m).toNat ≤ b * 10 ^ m.toNat * 10 ^ (-k).toNat := by
  rw [Nat.mul_assoc, Nat.mul_assoc, ← Nat.pow_add, ← Nat.pow_add]
  exact Nat.mul_le_mul_left b (Nat.pow_le_pow_right (by omega) (by omega))
 refine Nat.le_trans h1 (Nat.le_trans (Nat.mul_le_mul_right _ h) ?_)
 rw [Nat.mul_assoc, Nat.mul_assoc, Nat.mul_comm (10 ^ (-m).toNat)]
 exact Nat.le_refl _
theorem Tle.uniq {a b : Nat} {m k : Int} (h1 : Tle a b m) (h2 : ¬ Tle a b (m + 1)) (h3 : Tle a b k) (h4 : ¬ Tle a b (k + 1)) : m = k := by
 rcases Int.lt_trichotomy m k with h | h | h
 ·exact absurd (h3.anti (by omega)) h2
 ·exact h
 ·exact absurd (h1.anti (by omega)) h4
theorem ipow_sg (z : Int) (n : Nat) : z ^ n = sg (decide (z < 0) && n % 2 == 1) (z.natAbs ^ n) := by
 induction n with
 | zero => simp [sg]
 | succ n ih =>
  rw [Int.pow_succ, ih, Nat.pow_succ]
  rcases Int.lt_or_le z 0 with h | h
  ·obtain ⟨k, rfl⟩ : ∃ k : Nat, z = -(k : Int) := ⟨z.natAbs, by omega⟩
   rw [decide_eq_true h, Int.natAbs_neg, Int.natAbs_natCast]
   rcases Nat.mod_two_eq_zero_or_one n with e | e
   ·have e' : (n + 1) % 2 = 1 := by omega
    simp [sg, e, e', Int.mul_neg]
   ·have e' : (n + 1) % 2 = 0 := by omega
    simp [sg, e, e', Int.neg_mul_neg]
  ·obtain ⟨k, rfl⟩ : ∃ k : Nat, z = (k : Int) := ⟨z.natAbs, by omega⟩
   rw [decide_eq_false (by omega)]
   simp [sg]
theorem ipow_neg (z : Int) (n : Nat) (hz : z ≠ 0) : decide (z ^ n < 0) = (decide (z < 0) && n % 2 == 1) := by
 rw [ipow_sg]
 have hp : 0 < z.natAbs ^ n := Nat.pow_pos (by omega)
 generalize z.natAbs ^ n = m at hp ⊢
 cases (decide (z < 0) && n % 2 == 1)
 ·simp [sg]
 ·simp only [sg, if_true]; exact decide_eq_true (by omega)
theorem dround_sg (a : Nat) (B : Int) : dround a B = sg (decide (B < 0)) (rnd a B.natAbs) := by
 rw [dround_rnd]
 by_cases h : B < 0 <;> simp [sg, h]
theorem round_like {A B X : Nat} {E : Int} (P : Int) (hB : 0 < B) (hX : 0 < X) (h : A * X * 10 ^ E.toNat = B * 10 ^ (-E).toNat) :
  rnd (10 ^ (P - E).toNat) (X * 10 ^ (E - P).toNat) = rnd (A * 10 ^ P.toNat) (B * 10 ^ (-P).toNat) := by
 refine rnd_scale (Nat.mul_pos hX (ten_pos _)) (Nat.mul_pos hB (ten_pos _)) ?_
 refine Nat.eq_of_mul_eq_mul_right (ten_pos E.toNat) ?_
 have h1 : 10 ^ (P - E).toNat * (B * 10 ^ (-P).toNat) * 10 ^ E.toNat = B * 10 ^ ((P - E).toNat + (-P).toNat + E.toNat) := by
  rw [Nat.pow_add, Nat.pow_add]; grind
 have h2 : A * 10 ^ P.toNat * (X * 10 ^ (E - P).toNat) * 10 ^ E.toNat = B * 10 ^ ((-E).toNat + P.toNat + (E - P).toNat) := by
  rw [Nat.pow_add, Nat.pow_add]; grind
 rw [h1, h2]
 congr 2
 omega
theorem first_like {A B X : Nat} {E F : Int} {nd : Nat} (hB : 0 < B) (hX : 0 < X) (h : A * X * 10 ^ E.toNat = B * 10 ^ (-E).toNat) (hF : F = -(nd : Int) - E) (h1 : X ≤ 10 ^ nd) (h2 : 10 ^ nd < 10 * X) : Tle A B F ∧ ¬ Tle A B (F + 1) := by
 unfold Tle
 have hXE : 0 < X * 10 ^ E.toNat := Nat.mul_pos hX (ten_pos _)
 constructor
 ·refine Nat.le_of_mul_le_mul_right (c := X * 10 ^ E.toNat) ?_ hXE
  have e1 : A * 10 ^ (-F).toNat * (X * 10 ^ E.toNat) = B * 10 ^ ((F.toNat + E.toNat) + nd) := by
   rw [show (F.toNat + E.toNat) + nd = (-E).toNat + (-F).toNat by omega, Nat.pow_add]; grind
  rw [e1, Nat.pow_add, Nat.pow_add, Nat.mul_assoc]
  refine Nat.mul_le_mul_left B ?_
  have := Nat.mul_le_mul_left (10 ^ F.toNat * 10 ^ E.toNat) h1
  grind
 ·intro hc
  have hc' := Nat.mul_le_mul_right (X * 10 ^ E.toNat) hc
  have e1 : A * 10 ^ (-(F + 1)).toNat * (X * 10 ^ E.toNat) = B * 10 ^ ((-E).toNat + (-(F + 1)).toNat) := by
   rw [Nat.pow_add]; grind
  rw [e1, Nat.mul_assoc] at hc'
  have hc2 := Nat.le_of_mul_le_mul_left hc' hB
  have e2 : 10 ^ ((-E).toNat + (-(F + 1)).toNat) * 10 = 10 ^ ((F + 1).toNat + E.toNat) * 10 ^ nd := by
   rw [← Nat.pow_add, ← Nat.pow_succ]; congr 1; omega
  have h3 := Nat.mul_lt_mul_of_pos_left h2 (ten_pos ((F + 1).toNat + E.toNat))
  have h4 := Nat.mul_le_mul_right 10 hc2
  rw [e2] at h4
  rw [Nat.pow_add] at h3 h4
  have : 10 ^ (F + 1).toNat * (X * 10 ^ E.toNat) * 10 = 10 ^ (F + 1).toNat * 10 ^ E.toNat * (10 * X) := by grind
  rw [this] at h4
  exact absurd h4 (Nat.not_le.2 h3)
def frN (z e : Int) : Int := if 0 ≤ e then z * 10 ^ e.toNat else z
def frD (e : Int) : Nat := if 0 ≤ e then 1 else 10 ^ (-e).toNat
theorem frD_pos (e : Int) : 0 < frD e := by unfold frD; split <;> simp [ten_pos]
theorem frN_abs (z e : Int) : (frN z e).natAbs = z.natAbs * 10 ^ e.toNat := by
 unfold frN
 split
 ·rw [ten_nat, Int.natAbs_mul, Int.natAbs_natCast]
 ·rw [show e.toNat = 0 by omega, Nat.pow_zero, Nat.mul_one]
theorem frN_neg (z e : Int) : decide (frN z e < 0) = decide (z < 0) := by
 unfold frN
 split
 ·rw [ten_nat]
  have hp := ten_pos e.toNat
  generalize 10 ^ e.toNat = t at hp ⊢
  by_cases h : z < 0
  ·rw [decide_eq_true h]; exact decide_eq_true (Int.mul_neg_of_neg_of_pos h (by omega))
  ·rw [decide_eq_false h]; exact decide_eq_false (Int.not_lt.2 (Int.mul_nonneg (by omega) (by omega)))
 ·rfl
theorem frN_zero (z e : Int) : frN z e = 0 ↔ z = 0 := by
 have h := frN_abs z e
 have hp := ten_pos e.toNat
 constructor
 ·intro h0
  rw [h0] at h
  rcases Nat.mul_eq_zero.1 h.symm with h1 | h1 <;> omega
 ·rintro rfl
  simp at h; exact h
theorem frD_eq (e : Int) : frD e = 10 ^ (-e).toNat := by
 unfold frD
 split
 ·rw [show (-e).toNat = 0 by omega, Nat.pow_zero]
 ·rfl
theorem base_rel (z e : Int) (m N : Nat) (h : N = m ∨ ∃ k : Nat, e = -(k : Int) ∧ z.natAbs = 10 ^ k ∧ N = 2 - m % 2) :
  frD e ^ m * (z ^ N).natAbs * 10 ^ ((N : Int) * e).toNat = (frN z e).natAbs ^ m * 10 ^ (-((N : Int) * e)).toNat := by
 rw [frD_eq, frN_abs, Int.natAbs_pow]
 rcases h with rfl | ⟨k, rfl, hk, _⟩
 ·rcases Int.le_total 0 e with he | he
  ·obtain ⟨t, rfl⟩ : ∃ t : Nat, e = t := ⟨e.toNat, by omega⟩
   rw [show (-(t : Int)).toNat = 0 by omega, Int.toNat_natCast, show ((N : Int) * t).toNat = t * N by rw [← Int.natCast_mul, Int.toNat_natCast, Nat.mul_comm], show (-((N : Int) * t)).toNat = 0 by rw [← Int.natCast_mul]; omega, Nat.pow_zero, Nat.one_pow, Nat.mul_pow, ← Nat.pow_mul, Nat.one_mul, Nat.mul_one]
  ·obtain ⟨t, rfl⟩ : ∃ t : Nat, e = -(t : Int) := ⟨(-e).toNat, by omega⟩
   rw [show (-(t : Int)).toNat = 0 by omega, show (- -(t : Int)).toNat = t by omega, Int.mul_neg, Int.neg_neg, show (-((N : Int) * t)).toNat = 0 by rw [← Int.natCast_mul]; omega, show ((N : Int) * t).toNat = t * N by rw [← Int.natCast_mul, Int.toNat_natCast, Nat.mul_comm], Nat.pow_zero, Nat.mul_one, Nat.mul_one, ← Nat.pow_mul, Nat.mul_comm]
 ·rw [show (- -(k : Int)).toNat = k by omega, show (-(k : Int)).toNat = 0 by omega, Int.mul_neg, Int.neg_neg, show (-((N : Int) * k)).toNat = 0 by rw [← Int.natCast_mul]; omega, show ((N : Int) * k).toNat = k * N by rw [← Int.natCast_mul, Int.toNat_natCast, Nat.mul_comm], hk, Nat.pow_zero, Nat.mul_one, Nat.mul_one, ← Nat.pow_mul, ← Nat.pow_mul]
def inN (z e : Int) (m : Nat) : Int := sg (decide (z < 0) && m % 2 == 1) (frD e ^ m)
def inD (z e : Int) (m : Nat) : Nat := (frN z e).natAbs ^ m
theorem inN_abs (z e : Int) (m : Nat) : (inN z e m).natAbs = frD e ^ m := by
 unfold inN sg; split <;> simp
theorem inD_pos (z e : Int) (m : Nat) (hz : z ≠ 0) : 0 < inD z e m := by
 unfold inD
 have : frN z e ≠ 0 := fun h => hz ((frN_zero z e).1 h)
 exact Nat.pow_pos (by omega)
theorem inN_neg (z e : Int) (m : Nat) : decide (inN z e m < 0) = (decide (z < 0) && m % 2 == 1) := by
 have hp : 0 < frD e ^ m := Nat.pow_pos (frD_pos e)
 unfold inN
 generalize frD e ^ m = t at hp ⊢
 cases (decide (z < 0) && m % 2 == 1)
 ·simp [sg]
 ·simp only [sg, if_true]; exact decide_eq_true (by omega)
theorem neg_law {z e n q s : Int} (hz : z ≠ 0) (hn : n < 0) (h : PowIs z e n q s) :
  (rdv (inN z e n.natAbs) (inD z e n.natAbs) 16 ≠ 0 ∧ q = rdv (inN z e n.natAbs) (inD z e n.natAbs) 16 ∧ s = -16) ∨
  (rdv (inN z e n.natAbs) (inD z e n.natAbs) 16 = 0 ∧ ∃ F, Tle (inN z e n.natAbs).natAbs (inD z e n.natAbs) F ∧ ¬ Tle (inN z e n.natAbs).natAbs (inD z e n.natAbs) (F + 1) ∧ q = rdv (inN z e n.natAbs) (inD z e n.natAbs) (15 - F) ∧ s = -(15 - F)) := by
 rcases h with ⟨h0, _⟩ | ⟨_, N, hE, hN⟩
 ·omega
 generalize hm : n.natAbs = m at hN ⊢
 have hrel := base_rel z e m N hN
 have hX : z ^ N ≠ 0 := Int.pow_ne_zero hz
 have hsign : decide (z ^ N < 0) = (decide (z < 0) && m % 2 == 1) := by
  rw [ipow_neg z N hz]
  rcases hN with rfl | ⟨k, _, _, rfl⟩
  ·rfl
  ·rw [show (2 - m % 2) % 2 = m % 2 by omega]
 have hXa : 0 < (z ^ N).natAbs := by omega
 have hB := inD_pos z e m hz
 have key : ∀ P : Int, dround (10 ^ (P - (N : Int) * e).toNat) (z ^ N * 10 ^ ((N : Int) * e - P).toNat) = rdv (inN z e m) (inD z e m) P := by
  intro P
  rw [ten_nat, dround_sg, rdv, inN_neg, inN_abs, ← hsign]
  have h1 : (z ^ N * 10 ^ ((N : Int) * e - P).toNat).natAbs = (z ^ N).natAbs * 10 ^ ((N : Int) * e - P).toNat := by
   rw [ten_nat, Int.natAbs_mul, Int.natAbs_natCast]
  have h2 : decide (z ^ N * 10 ^ ((N : Int) * e - P).toNat < 0) = decide (z ^ N < 0) := by
   rw [ten_nat]
   have hp := ten_pos ((N : Int) * e - P).toNat
   generalize 10 ^ ((N : Int) * e - P).toNat = t at hp ⊢
   by_cases h : z ^ N < 0
   ·rw [decide_eq_true h]; exact decide_eq_true (Int.mul_neg_of_neg_of_pos h (by omega))
   ·rw [decide_eq_false h]; exact decide_eq_false (Int.not_lt.2 (Int.mul_nonneg (by omega) (by omega)))
  rw [h1, h2, round_like P hB hXa hrel]
 rcases hE with ⟨hq, hq1, rfl⟩ | ⟨hq, nd, P, hd, hP, hq1, rfl⟩
 ·rw [key] at hq1
  exact .inl ⟨by rw [← hq1]; exact hq, hq1, rfl⟩
 ·rw [key] at hq hq1
  refine .inr ⟨hq, 15 - P, ?_⟩
  obtain ⟨hd1, hd2, hd3⟩ := hd
  rw [inN_abs]
  have hFP : Tle (frD e ^ m) (inD z e m) (15 - P) ∧ ¬ Tle (frD e ^ m) (inD z e m) (15 - P + 1) := by
   have h10 : (10 : Nat) ^ nd = 10 * 10 ^ (nd - 1) := by rw [Nat.mul_comm, ← Nat.pow_succ]; congr 1; omega
   by_cases hp : (z ^ N).natAbs = 10 ^ (nd - 1)
   ·rw [if_pos hp] at hP
    exact first_like (nd := nd - 1) hB hXa hrel (by omega) (by omega) (by have := ten_pos (nd - 1); omega)
   ·rw [if_neg hp] at hP
    exact first_like (nd := nd) hB hXa hrel (by omega) (by omega) (by omega)
  exact ⟨hFP.1, hFP.2, by rw [hq1]; congr 1; omega, by omega⟩
theorem pos_law {z e n q s : Int} (hn : 0 ≤ n) (h : PowIs z e n q s) : frN q s = frN z e ^ n.toNat ∧ frD s = frD e ^ n.toNat := by
 rcases h with ⟨_, rfl, rfl⟩ | ⟨h0, _⟩
 ·obtain ⟨m, rfl⟩ : ∃ m : Nat, n = m := ⟨n.toNat, by omega⟩
  rw [Int.toNat_natCast, frD_eq, frD_eq]
  rcases Int.le_total 0 e with he | he
  ·obtain ⟨t, rfl⟩ : ∃ t : Nat, e = t := ⟨e.toNat, by omega⟩
   rw [← Int.natCast_mul]
   unfold frN
   rw [if_pos (by omega), if_pos (by omega), Int.toNat_natCast, Int.toNat_natCast, Int.mul_pow, ← Int.pow_mul, Nat.mul_comm]
   refine ⟨rfl, ?_⟩
   rw [show (-((t * m : Nat) : Int)).toNat = 0 by omega, show (-(t : Int)).toNat = 0 by omega]; simp
  ·obtain ⟨t, rfl⟩ : ∃ t : Nat, e = -(t : Int) := ⟨(-e).toNat, by omega⟩
   rw [Int.mul_neg, ← Int.natCast_mul]
   refine ⟨?_, ?_⟩
   ·unfold frN
    rcases Nat.eq_zero_or_pos t with rfl | ht
    ·simp
    ·rcases Nat.eq_zero_or_pos m with rfl | hm
     ·simp
     ·have := Nat.mul_pos hm ht
      rw [if_neg (by omega), if_neg (by omega)]
   ·rw [show (- -((m * t : Nat) : Int)).toNat = t * m by rw [Nat.mul_comm]; omega, show (- -(t : Int)).toNat = t by omega, Nat.pow_mul]
 ·omega
end Go.Proofs.YtilmldfbmmcchaaGreatDoor
namespace Go.Proofs.YtilmldfbmmcchaaGreatDoor
open Go.RowKit Go.Proofs.YtilmldfbmmcchaaGreatDoorW.PrintWords Go.Proofs.YtilmldfbmmcchaaGreatDoorW.PrintLast Go.Proofs.YtilmldfbmmcchaaGreatDoorW.PrintMore PFnDecPowInt
def RF (w : World) (x : Value) (a : Int) (b : Nat) : Prop := ∃ v u, x = .agg #[.bool (decide (a < 0)), v, u] ∧ RN w v a.natAbs ∧ RN w u b
theorem RF.fr {w w' : World} {x : Value} {a : Int} {b : Nat} (h : RF w x a b) (f : Fr NoS w w') : RF w' x a b := by
 obtain ⟨v, u, hx, hv, hu⟩ := h
 exact ⟨v, u, hx, hv.fr f, hu.fr f⟩
def RD (w : World) (x : Value) (z e : Int) : Prop := ∃ v, x = .agg #[.bool (decide (z < 0)), v, .int .i64 e] ∧ RN w v z.natAbs
abbrev TFr : TypeId := 30
def cmpi (a b : Int) : Int := if a < b then -1 else if a = b then 0 else 1
theorem cmpi_pos {a b : Int} (ha : 0 ≤ a) (hb : 0 ≤ b) : cmp3 a.natAbs b.natAbs = cmpi a b := by
 unfold cmp3 cmpi
 by_cases h : a < b
 ·rw [if_pos h, if_pos (by omega)]
 ·rw [if_neg h, if_neg (by omega)]
  by_cases e : a = b
  ·rw [if_pos e, if_pos (by omega)]
  ·rw [if_neg e, if_neg (by omega)]
theorem cmpi_neg {a b : Int} (ha : a < 0) (hb : b < 0) : cmp3 b.natAbs a.natAbs = cmpi a b := by
 unfold cmp3 cmpi
 by_cases h : a < b
 ·rw [if_pos h, if_pos (by omega)]
 ·rw [if_neg h, if_neg (by omega)]
  by_cases e : a = b
  ·rw [if_pos e, if_pos (by omega)]
  ·rw [if_neg e, if_neg (by omega)]
set_option maxRecDepth 100000 in
set_option maxHeartbeats 1000000 in
theorem sp_WCmp (x y : Value) (a b : Int) (w : World) (hx : RW w x a) (hy : RW w y b) (ha : a.natAbs < LIM 40000) (hb : b.natAbs < LIM 40000) :
  Calls Tryz.prog 40 #[x, y] w fun e w' => e = .returned (.int .i64 (cmpi a b)) ∧ Fr NoS w w' := by
 obtain ⟨va, rfl, h1⟩ := hx
 obtain ⟨vb, rfl, h2⟩ := hy
 obtain ⟨A1, l1, c1, rfl, _, _⟩ := h1.slice
 obtain ⟨A2, l2, c2, rfl, _, _⟩ := h2.slice
 have hA : ∀ na nb, Fr NoS w ((w.alloc (.cells #[.bool na, .slice A1 l1 c1] TWh (0, 0))).alloc (.cells #[.bool nb, .slice A2 l2 c2] TWh (0, 0))) := fun _ _ => ((Fr.refl NoS w).alloc _).alloc _
 have N12 := fun W (f : Fr NoS w W) => sp_NatCmp _ _ a.natAbs b.natAbs W (h1.fr f) (h2.fr f) ha
 have N21 := fun W (f : Fr NoS w W) => sp_NatCmp _ _ b.natAbs a.natAbs W (h2.fr f) (h1.fr f) hb
 clear h1 h2 ha hb
 obtain ⟨C, hC⟩ : ∃ C, cmpi a b = C := ⟨_, rfl⟩
 rcases Int.lt_or_le a 0 with h | h <;> rcases Int.lt_or_le b 0 with k | k
 ·rw [decide_eq_true h, decide_eq_true k]
  rw [cmpi_neg h k, hC] at N21
  rw [hC]
  clear N12 hC h k
  go_enter Tryz.func40, Tryz.ntmps40
  go_wp2_with fail
  refine (N21 _ (hA _ _)).mono ?_
  rintro en w1 ⟨rfl, f1⟩
  go_wp2
  go_ret
  exact ⟨rfl, (hA _ _).trans' f1⟩
 ·rw [decide_eq_true h, decide_eq_false (Int.not_lt.2 k), show cmpi a b = -1 by unfold cmpi; rw [if_pos (by omega)]]
  clear N12 N21 hC h k
  go_enter Tryz.func40, Tryz.ntmps40
  go_wp2
  go_ret
  exact ⟨rfl, hA _ _⟩
 ·rw [decide_eq_true k, decide_eq_false (Int.not_lt.2 h), show cmpi a b = 1 by unfold cmpi; rw [if_neg (by omega), if_neg (by omega)]]
  clear N12 N21 hC h k
  go_enter Tryz.func40, Tryz.ntmps40
  go_wp2
  go_ret
  exact ⟨rfl, hA _ _⟩
 ·rw [decide_eq_false (Int.not_lt.2 h), decide_eq_false (Int.not_lt.2 k)]
  rw [cmpi_pos h k, hC] at N12
  rw [hC]
  clear N21 hC h k
  go_enter Tryz.func40, Tryz.ntmps40
  go_wp2_with fail
  refine (N12 _ (hA _ _)).mono ?_
  rintro en w1 ⟨rfl, f1⟩
  go_wp2
  go_ret
  exact ⟨rfl, (hA _ _).trans' f1⟩
theorem pow_lim (k m : Nat) (h : k < 9 * m) : 10 ^ k < LIM m := by
 unfold LIM
 rw [show (1000000000 : Nat) = 10 ^ 9 from rfl, ← Nat.pow_mul]
 exact Nat.pow_lt_pow_right (by omega) h
theorem lim_big (k : Nat) (hk : 1 ≤ k) : 999999999 < LIM k := by
 unfold LIM
 exact Nat.lt_of_lt_of_le (show 999999999 < 1000000000 ^ 1 by decide) (Nat.pow_le_pow_right (by omega) hk)
theorem lim_mono (k m : Nat) (h : k ≤ m) : LIM k ≤ LIM m := by
 unfold LIM
 exact Nat.pow_le_pow_right (by omega) h
theorem lim_times (k m a b : Nat) (ha : a < LIM k) (hb : b < LIM m) : a * b < LIM (k + m) := by
 have e : LIM (k + m) = LIM k * LIM m := by unfold LIM; rw [← Nat.pow_add]
 rw [e]
 exact Nat.mul_lt_mul_of_lt_of_le ha (Nat.le_of_lt hb) (by unfold LIM; exact Nat.pow_pos (by omega))
theorem lim_pos (k : Nat) : 0 < LIM k := by unfold LIM; exact Nat.pow_pos (by omega)
theorem lim_zero : (0 : Int).natAbs < LIM 40000 := by
 show 0 < LIM 40000
 exact lim_pos _
theorem RW.zero (w : World) : RW w (.agg #[.bool false, .slice none 0 0]) 0 := ⟨_, rfl, RN.nil w⟩
set_option maxRecDepth 100000 in
set_option maxHeartbeats 1000000 in
theorem sp_WSign (x : Value) (a : Int) (w : World) (hx : RW w x a) (ha : a.natAbs < LIM 40000) :
  Calls Tryz.prog 21 #[x] w fun e w' => e = .returned (.int .i64 (cmpi a 0)) ∧ Fr NoS w w' := by
 obtain ⟨va, rfl, h1⟩ := hx
 obtain ⟨A1, l1, c1, rfl, _, _⟩ := h1.slice
 have hA : ∀ na, Fr NoS w (w.alloc (.cells #[.bool na, .slice A1 l1 c1] TWh (0, 0))) := fun _ => (Fr.refl NoS w).alloc _
 have CM := fun W (f : Fr NoS w W) => sp_WCmp _ _ a 0 W ⟨_, rfl, h1.fr f⟩ (RW.zero W) ha lim_zero
 clear h1 ha
 obtain ⟨C, hC⟩ : ∃ C, cmpi a 0 = C := ⟨_, rfl⟩
 obtain ⟨na, hna⟩ : ∃ n, decide (a < 0) = n := ⟨_, rfl⟩
 rw [hC, hna] at CM
 rw [hC, hna]
 clear hC hna
 go_enter Tryz.func21, Tryz.ntmps21
 go_wp2_with fail
 refine (CM _ (hA _)).mono ?_
 rintro en w1 ⟨rfl, f1⟩
 go_wp2
 go_ret
 exact ⟨rfl, (hA _).trans' f1⟩
theorem lz_le5 (z : Int) (h : z.natAbs < 10 ^ 5000) : (lz z).length ≤ 5002 := by
 unfold lz
 rw [List.length_append]
 have := dg_length_le z.natAbs 5000 h
 split <;> split <;> simp <;> omega
theorem tz_minus (a : Int) (h : a < 0) : (⟨#[45]⟩ : ByteArray) ++ tz (a.natAbs : Int) = tz a := by
 have e1 : lz a = lz (a.natAbs : Int) ++ [45] := by
  unfold lz
  rw [if_neg (by omega), if_pos h, if_neg (by omega), if_neg (by omega), Int.natAbs_natCast, List.append_nil]
 unfold tz
 rw [e1]
 simp [strOfNums, ByteArray.ext_iff]
set_option maxRecDepth 100000 in
set_option maxHeartbeats 1000000 in
theorem sp_WString (x : Value) (a : Int) (w : World) (hx : RW w x a) (ha : a.natAbs < 10 ^ 5000) :
  Calls Tryz.prog 42 #[x] w fun e w' => e = .returned (.string (tz a)) ∧ Fr NoS w w' := by
 obtain ⟨va, rfl, h1⟩ := hx
 obtain ⟨A1, l1, c1, rfl, _, _⟩ := h1.slice
 have hA : ∀ na, Fr NoS w (w.alloc (.cells #[.bool na, .slice A1 l1 c1] TWh (0, 0))) := fun _ => (Fr.refl NoS w).alloc _
 have ST := fun W (f : Fr NoS w W) => sp_String _ a.natAbs W (h1.fr f) ha
 have hal := Lib.hid ha
 clear h1 ha
 rcases Int.lt_or_le a 0 with h | h
 ·rw [decide_eq_true h]
  have hm := tz_minus a h
  have hl : 1 + (tz (a.natAbs : Int)).size ≤ 9223372036854775807 := by
   have := lz_le5 (a.natAbs : Int) (by rw [Int.natAbs_natCast]; exact hal.out)
   rw [tz_size]; omega
  obtain ⟨s, hs⟩ : ∃ s, tz (a.natAbs : Int) = s := ⟨_, rfl⟩
  obtain ⟨t, ht⟩ : ∃ t, tz a = t := ⟨_, rfl⟩
  rw [hs] at ST hm hl
  rw [ht] at hm ⊢
  clear hs ht h
  go_enter Tryz.func42, Tryz.ntmps42
  go_wp2_with fail
  refine (ST _ (hA _)).mono ?_
  rintro en w1 ⟨rfl, f1⟩
  go_wp2
  go_ret
  exact ⟨rfl, (hA _).trans' f1⟩
 ·rw [decide_eq_false (Int.not_lt.2 h)]
  rw [show ((a.natAbs : Nat) : Int) = a by omega] at ST
  obtain ⟨t, ht⟩ : ∃ t, tz a = t := ⟨_, rfl⟩
  rw [ht] at ST ⊢
  clear ht h
  go_enter Tryz.func42, Tryz.ntmps42
  go_wp2_with fail
  refine (ST _ (hA _)).mono ?_
  rintro en w1 ⟨rfl, f1⟩
  go_wp2
  go_ret
  exact ⟨rfl, (hA _).trans' f1⟩
end Go.Proofs.YtilmldfbmmcchaaGreatDoor
