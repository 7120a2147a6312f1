/- What comes in: cut to its bounds, as a decimal of the package and as a fraction. Powers: the bounds of what is compared, and both roundings are one. No program is in sight. The law of the powers: it answers true for every argument. Conditions: each theorem bears its own. -/
import Derived.Test.YtilmldfbmmcchaaGreatDoorZ27
set_option linter.unusedVariables false
set_option linter.unusedSimpArgs false
namespace Go.Proofs.YtilmldfbmmcchaaGreatDoor
open Go.RowKit Go.Proofs.YtilmldfbmmcchaaGreatDoorW.PrintWords Go.Proofs.YtilmldfbmmcchaaGreatDoorW.PrintLast Go.Proofs.YtilmldfbmmcchaaGreatDoorW.PrintMore PFnDecPowInt
set_option maxRecDepth 100000 in
set_option maxHeartbeats 1500000 in
theorem la_arPlaces (n : Int) (w : World) :
  Calls Tryz.prog 6 #[.int .i64 n, .int .i64 20] w fun en w' => en = .returned (.int .i64 (n.tmod 21)) ∧ w = w' := by
 go_enter Tryz.func6, Tryz.ntmps6
 go_wp2
 go_ret
 exact ⟨rfl, rfl⟩
set_option maxRecDepth 100000 in
set_option maxHeartbeats 1500000 in
theorem la_zzFits1 (s : ByteArray) (e : Int) (w : World) :
  Calls Tryz.prog 4 #[.agg #[.string s, .int .i64 e]] w fun en w' => en = .returned (.bool (decide (s.size ≤ 2147483647))) ∧ Fr NoS w w' := by
 have hA : Fr NoS w (w.alloc (.cells #[.string s, .int .i64 e] TDec (0, 0))) := (Fr.refl NoS w).alloc _
 by_cases h : s.size ≤ 2147483647
 ·have d1 : decide ((2147483647 : Int) < (s.size : Int)) = false := decide_eq_false (by omega)
  have d1' : decide (2147483647 < s.size) = false := decide_eq_false (by omega)
  rw [decide_eq_true h]
  clear h
  go_enter Tryz.func4, Tryz.ntmps4
  go_wp2
  go_ret
  exact ⟨rfl, hA⟩
 ·have d1 : decide ((2147483647 : Int) < (s.size : Int)) = true := decide_eq_true (by omega)
  have d1' : decide (2147483647 < s.size) = true := decide_eq_true (by omega)
  rw [decide_eq_false h]
  clear h
  go_enter Tryz.func4, Tryz.ntmps4
  go_wp2
  go_ret
  exact ⟨rfl, hA⟩
theorem cells_dc {w : World} {g : Nat} {a b : Value} {t : TypeId} (h : w.heap[g]? = some (.cells #[a, b] t (0, 0))) (a' b' : Value) : ((w.setCell ⟨g, 0, none⟩ a').setCell ⟨g, 1, none⟩ b').heap[g]? = some (.cells #[a', b'] t (0, 0)) := by
 have := set_block (o := 1) (set_block (o := 0) h a') b'
 simpa using this
theorem lz_le (z : Int) (k : Nat) (h : z.natAbs < 10 ^ k) : (lz z).length ≤ k + 2 := by
 unfold lz
 rw [List.length_append]
 have := dg_length_le z.natAbs k h
 split <;> split <;> simp <;> omega
theorem lim_20 {n : Nat} (h : n < 10 ^ 20) : n < LIM 40000 := Nat.lt_trans h (ten_lim 20 (by omega))
set_option maxRecDepth 100000 in
set_option maxHeartbeats 1500000 in
theorem la_arLess (s : ByteArray) (e : Int) (w : World) (hs : s.size ≤ 2147483647) :
  Calls Tryz.prog 5 #[.agg #[.string s, .int .i64 e], .int .i64 20, .int .i64 10] w fun en w' => ∃ z e' x, en = .returned (.tuple #[DC z e', x]) ∧ z.natAbs < 10 ^ 20 ∧ -10 ≤ e' ∧ e' ≤ 10 ∧ RF w' x (frN z e') (frD e') ∧ Fr NoS w w' := by
 obtain ⟨u0, hu0⟩ : ∃ u0 : World, Hid (u0 = (((w.alloc (.cells #[.string s, .int .i64 e] TDec (0, 0))).alloc (.cells #[.string ⟨#[]⟩, .int .i64 0] TDec (0, 0))).alloc (.cells #[.bool false, .slice none 0 0, .slice none 0 0] TFr (0, 0)))) := ⟨_, Lib.hid rfl⟩
 have hA : Fr NoS w u0 := by rw [hu0.out]; exact (((Fr.refl NoS w).alloc _).alloc _).alloc _
 have B0 : u0.heap[w.heap.size]? = some (.cells #[.string s, .int .i64 e] TDec (0, 0)) := by rw [hu0.out, old1 (by simp; omega), old1 (by simp), new1 (by simp)]
 have B1 : u0.heap[w.heap.size + 1]? = some (.cells #[.string ⟨#[]⟩, .int .i64 0] TDec (0, 0)) := by rw [hu0.out, old1 (by simp), new1 (by simp)]
 have B2 : u0.heap[w.heap.size + 1 + 1]? = some (.cells #[.bool false, .slice none 0 0, .slice none 0 0] TFr (0, 0)) := by rw [hu0.out, new1 (by simp)]
 obtain ⟨c00, c01, _, _⟩ := cells2 B0
 have DFI := sp_DecFit s e u0 hs
 rw [hu0.out] at c00 c01 DFI
 go_enter Tryz.func5, Tryz.ntmps5
 go_wp2_with fail
 refine DFI.mono ?_
 rintro en w1 ⟨z, e', rfl, hz, he1, he2, f1⟩
 rw [← hu0.out] at f1
 have FO := fun W => sp_FracOf z e' W (Nat.le_trans (lz_le z 20 hz) (by omega)) (by omega) (by omega) (lim_20 hz)
 obtain ⟨t, ht⟩ : ∃ t, Hid (tz z = t) := ⟨_, Lib.hid rfl⟩
 have FO' : ∀ W, Calls Tryz.prog 15 #[.agg #[.string t, .int .i64 e']] W fun en w' => ∃ r, en = .returned r ∧ RF w' r (frN z e') (frD e') ∧ Fr NoS W w' := by rw [← ht.out]; exact FO
 unfold DC
 rw [ht.out]
 clear c00 c01 FO
 obtain ⟨c00, c01, cf0, cf1⟩ := cells2 (f1.kp B0)
 obtain ⟨u1, hu1⟩ : ∃ u1 : World, Hid (u1 = (w1.setCell ⟨w.heap.size, 0, none⟩ (.string t)).setCell ⟨w.heap.size, 1, none⟩ (.int .i64 e')) := ⟨_, Lib.hid rfl⟩
 have C0 : u1.heap[w.heap.size]? = some (.cells #[.string t, .int .i64 e'] TDec (0, 0)) := by rw [hu1.out]; exact cells_dc (f1.kp B0) _ _
 have fE : Fr (fun k => k = w.heap.size) w1 u1 := by rw [hu1.out]; exact (Fr.set _ _ _ _).trans' (Fr.set _ _ _ _)
 have hsz := hA.size
 have hsz0 : u0.heap.size = w.heap.size + 1 + 1 + 1 := by rw [hu0.out]; simp
 have hW : Fr NoS w u1 := (hA.trans' f1).trans fE (fun i hi e => by omega)
 have C1 : u1.heap[w.heap.size + 1]? = some (.cells #[.string ⟨#[]⟩, .int .i64 0] TDec (0, 0)) := (fE.block _ (f1.lt (by omega)) (by omega)).trans (f1.kp B1)
 have C2 : u1.heap[w.heap.size + 1 + 1]? = some (.cells #[.bool false, .slice none 0 0, .slice none 0 0] TFr (0, 0)) := (fE.block _ (f1.lt (by omega)) (by omega)).trans (f1.kp B2)
 have HZ := Lib.hid (And.intro hz (And.intro he1 he2))
 clear fE B0 B1 B2 hz he1 he2
 go_wp2_with fail
 rw [← hu1.out]
 clear c00 c01 cf0 cf1
 obtain ⟨c00, c01, _, _⟩ := cells2 C0
 have n1 : w.heap.size ≠ w.heap.size + 1 := by omega
 have n2 : w.heap.size ≠ w.heap.size + 1 + 1 := by omega
 have n3 : w.heap.size + 1 ≠ w.heap.size + 1 + 1 := by omega
 have n4 : w.heap.size + 1 + 1 ≠ w.heap.size + 1 := by omega
 refine wp_region_held_drew (S := (fun w' => w'.cell? ⟨w.heap.size, 0, none⟩ = some (.string t) ∧ w'.cell? ⟨w.heap.size, 1, none⟩ = some (.int .i64 e'))) (by kernel_rfl) ⟨c00, c01⟩ (fun hHeld => ?_)
 refine tkA 0 ?_
 try simp only [Act.put, zA, zB, zC, zD, zE, zF]
 refine tkA 1 ?_
 try simp only [Act.put, zA, zB, zC, zD, zE, zF]
 refine wpAnyH_ready (rs := [2]) (by kernel_rfl) (by simp) ?_
 refine AllReadyH.cons rfl (fun K hK => ?_) AllReadyH.nil
 go_simp
 (with_reducible refine (FO' u1.drew).mono ?_); rintro en w2 ⟨r, rfl, hr, f2⟩; have F2 : Fr NoS u1 w2 := (Fr.refl NoS u1).drew.trans' f2; clear f2; clear c00 c01; obtain ⟨c00, c01, _, _⟩ := cells2 (F2.kp C0); obtain ⟨v3, v4, rfl, r3, r4⟩ := hr; obtain ⟨A3, l3, c3, rfl, _, _⟩ := r3.slice; obtain ⟨A4, l4, c4, rfl, _, _⟩ := r4.slice; obtain ⟨bb, hbb⟩ : ∃ bb, Hid (decide (frN z e' < 0) = bb) := ⟨_, rfl⟩; rw [hbb.out]; have D1 := F2.kp C1; have D2 := F2.kp C2; obtain ⟨k0, k1, kf0, kf1⟩ := cells2 D1; obtain ⟨j0, j1, j2, jf0, jf1, jf2⟩ := cells3 D2
 refine hK.out _ _ ⟨c00, c01⟩ (fun hHeld => ?_)
 clear hK K
 try simp only [Act.put, zA, zB, zC, zD, zE, zF]
 have hkeep : ∀ W, Fr (fun k => w.heap.size + 1 ≤ k) w2 W → W.cell? ⟨w.heap.size, 0, none⟩ = some (.string t) ∧ W.cell? ⟨w.heap.size, 1, none⟩ = some (.int .i64 e') := fun W f => ⟨(f.cell (World.block_lt_of_cell? _ _ c00) (Nat.not_succ_le_self _)).trans c00, (f.cell (World.block_lt_of_cell? _ _ c01) (Nat.not_succ_le_self _)).trans c01⟩
 refine wpAnyH_ready (rs := [3]) (by kernel_rfl) (by simp) ?_
 refine AllReadyH.cons rfl (fun K hK => ?_) AllReadyH.nil
 go_simp
 refine hK.out _ _ (hkeep _ (by repeat (first | exact Fr.refl _ _ | refine Fr.setCell ?_ _ _ (.inr (by first | exact Nat.le_refl _ | exact Nat.le_succ _))))) (fun hHeld => ?_)
 clear hK K
 try simp only [Act.put, zA, zB, zC, zD, zE, zF]
 refine wpAnyH_ready (rs := [4]) (by kernel_rfl) (by simp) ?_
 refine AllReadyH.cons rfl (fun K hK => ?_) AllReadyH.nil
 go_simp
 refine hK.out _ _ (hkeep _ (by repeat (first | exact Fr.refl _ _ | refine Fr.setCell ?_ _ _ (.inr (by first | exact Nat.le_refl _ | exact Nat.le_succ _))))) (fun hHeld => ?_)
 clear hK K
 try simp only [Act.put, zA, zB, zC, zD, zE, zF]
 refine wpAnyH_done (by kernel_rfl) ?_ _
 clear hkeep hHeld
 all_goals
  obtain ⟨w3, hw3⟩ : ∃ w3 : World, Hid (w3 = (w2.setCell ⟨w.heap.size + 1, 0, none⟩ (.string t)).setCell ⟨w.heap.size + 1, 1, none⟩ (.int .i64 e')) := ⟨_, Lib.hid rfl⟩
  have fE1 : Fr (fun k => k = w.heap.size + 1) w2 w3 := by rw [hw3.out]; exact (Fr.set _ _ _ _).trans' (Fr.set _ _ _ _)
  have hsz2 := F2.size
  have hszw := hW.size
  have hl2 := (zLt D2)
  have E2 : w3.heap[w.heap.size + 1 + 1]? = _ := (fE1.block _ hl2 (by omega)).trans D2
  have r3' := r3.beside D1 (fun j z e => by rcases j with _ | _ | j <;> simp at e) fE1
  have r4' := r4.beside D1 (fun j z e => by rcases j with _ | _ | j <;> simp at e) fE1
  have fE2 : Fr (fun k => k = w.heap.size + 1 + 1) w3 (((w3.setCell ⟨w.heap.size + 1 + 1, 0, none⟩ (.bool bb)).setCell ⟨w.heap.size + 1 + 1, 1, none⟩ (.slice A3 l3 c3)).setCell ⟨w.heap.size + 1 + 1, 2, none⟩ (.slice A4 l4 c4)) := ((Fr.set _ _ _ _).trans' (Fr.set _ _ _ _)).trans' (Fr.set _ _ _ _)
  have r3'' := r3'.beside E2 (fun j z e => nocell_fr j z e) fE2
  have r4'' := r4'.beside E2 (fun j z e => nocell_fr j z e) fE2
  have hFE := ((hW.trans' F2).trans fE1 (fun i hi e => by omega)).trans fE2 (fun i hi e => by omega)
  rw [hw3.out] at r3'' r4'' hFE
  have HV := Lib.hid (And.intro r3'' (And.intro r4'' hFE))
  clear r3'' r4'' hFE r3' r4' fE1 fE2 E2 D1 D2 C0 C1 C2 c00 c01 r3 r4 hw3 FO'
  go_wp2
  exact bodyPost_ret (v := .tuple #[.agg #[.string t, .int .i64 e'], .agg #[.bool bb, .slice A3 l3 c3, .slice A4 l4 c4]]) (by simp [results, Tryz.results5, go_sem, k0, k1, j0, j1, j2]) rfl ⟨z, e', _, by rw [← ht.out], HZ.out.1, HZ.out.2.1, HZ.out.2.2, ⟨_, _, by rw [hbb.out], HV.out.1, HV.out.2.1⟩, HV.out.2.2⟩
end Go.Proofs.YtilmldfbmmcchaaGreatDoor
namespace Go.Proofs.YtilmldfbmmcchaaGreatDoor
open Go.RowKit PFnDecPowInt
theorem inN_eq (z e : Int) (n : Nat) : (sg (decide (frN z e < 0)) (frD e)) ^ n = inN z e n := by
 have hp := frD_pos e
 rw [ipow_sg, frN_neg, sg_abs, sg_neg, decide_eq_true hp, Bool.and_true]
 rfl
def Rnd16 (a : Int) (b : Nat) (q e : Int) : Prop := (rdv a b 16 ≠ 0 ∧ q = rdv a b 16 ∧ e = -16) ∨ (rdv a b 16 = 0 ∧ ∃ F : Int, Tle a.natAbs b F ∧ ¬ Tle a.natAbs b (F + 1) ∧ q = rdv a b (15 - F) ∧ e = -(15 - F))
theorem Rnd16.one {a : Int} {b : Nat} {q e q' e' : Int} (h : Rnd16 a b q e) (h' : Rnd16 a b q' e') : q' = q ∧ e' = e := by
 rcases h with ⟨h1, rfl, rfl⟩ | ⟨h1, F, f1, f2, rfl, rfl⟩ <;> rcases h' with ⟨k1, rfl, rfl⟩ | ⟨k1, F', g1, g2, rfl, rfl⟩
 ·exact ⟨rfl, rfl⟩
 ·exact absurd k1 h1
 ·exact absurd h1 k1
 ·obtain rfl := f1.uniq f2 g1 g2
  exact ⟨rfl, rfl⟩
theorem pow_low (a k j m : Nat) (h : a < 10 ^ k) (hj : j ≤ m) : a ^ j < 10 ^ (k * m + 1) := by
 have h1 : a ^ j ≤ (10 ^ k) ^ j := Nat.pow_le_pow_left (Nat.le_of_lt h) j
 rw [← Nat.pow_mul] at h1
 refine Nat.lt_of_le_of_lt h1 (Nat.pow_lt_pow_right (by omega) ?_)
 exact Nat.lt_succ_of_le (Nat.mul_le_mul_left k hj)
theorem frN_low (z e : Int) (hz : z.natAbs < 10 ^ 20) (he : e ≤ 10) : (frN z e).natAbs < 10 ^ 30 := by
 rw [frN_abs]
 have h1 : (10 : Nat) ^ e.toNat ≤ 10 ^ 10 := Nat.pow_le_pow_right (by omega) (by omega)
 have h2 := Nat.mul_lt_mul_of_lt_of_le hz h1 (ten_pos 10)
 rw [← Nat.pow_add] at h2
 exact h2
theorem frD_low (e : Int) (he : -10 ≤ e) : frD e < 10 ^ 11 := by
 rw [frD_eq]; exact Nat.pow_lt_pow_right (by omega) (by omega)
theorem low_30 {a j m : Nat} (h : a < 10 ^ 30) (hj : j ≤ m) (hm : m ≤ 20) : a ^ j < 10 ^ 4000 := by
 obtain ⟨K, hK, h1⟩ : ∃ K, K = 30 * 20 + 1 ∧ a ^ j < 10 ^ K := ⟨_, rfl, pow_low a 30 j 20 h (by omega)⟩
 exact Nat.lt_trans h1 (pow_up K 4000 (by omega))
theorem low_11 {a : Nat} (h : a < 10 ^ 11) : a < 10 ^ 30 := Nat.lt_trans h (pow_up 11 30 (by decide))
theorem lim_4000 {a : Nat} (h : a < 10 ^ 4000) : a < LIM 20000 := Nat.lt_trans h (lim_pow 4000 (by omega))
theorem sm_5000 {q : Int} (h : Sm q) : q.natAbs < 10 ^ 5000 := by
 have h1 : q.natAbs < BB ^ 39 := h
 have h2 : BB ^ 39 ≤ (10 ^ 20) ^ 39 := Nat.pow_le_pow_left (by rw [BB_eq]; decide) 39
 rw [← Nat.pow_mul] at h2
 obtain ⟨K, hK, h3⟩ : ∃ K, K = 20 * 39 ∧ BB ^ 39 ≤ 10 ^ K := ⟨_, rfl, h2⟩
 exact Nat.lt_of_lt_of_le h1 (Nat.le_trans h3 (Nat.le_of_lt (pow_up K 5000 (by omega))))
theorem pos_says {z e n q s : Int} (m : Nat) (hm : n = m) (h : PowIs z e n q s) : decide (frN q s * ((frD e ^ m : Nat) : Int) = frN z e ^ m * (frD s : Nat)) = true := by
 obtain ⟨h1, h2⟩ := pos_law (by omega) h
 rw [show n.toNat = m by omega] at h1 h2
 rw [h1, h2]
 exact decide_eq_true rfl
theorem neg_rnd {z e n q s : Int} (m : Nat) (hz : z ≠ 0) (hn : n < 0) (hm : -n = m) (h : PowIs z e n q s) : Rnd16 (inN z e m) (inD z e m) q s := by
 have := neg_law hz hn h
 rw [show n.natAbs = m by omega] at this
 exact this
end Go.Proofs.YtilmldfbmmcchaaGreatDoor
namespace Go.Proofs.YtilmldfbmmcchaaGreatDoor
open Go.RowKit Go.Proofs.YtilmldfbmmcchaaGreatDoorW.PrintWords Go.Proofs.YtilmldfbmmcchaaGreatDoorW.PrintLast Go.Proofs.YtilmldfbmmcchaaGreatDoorW.PrintMore PFnDecPowInt
theorem tmod21 (n : Int) : -20 ≤ n.tmod 21 ∧ n.tmod 21 ≤ 20 := by
 have h1 := Int.natAbs_tmod n 21
 have h2 : n.natAbs % (21 : Int).natAbs < 21 := Nat.mod_lt _ (by decide)
 omega
theorem tz_dc {z e : Int} {t : ByteArray} (h : tz z = t) : DC z e = .agg #[.string t, .int .i64 e] := by rw [← h]
set_option maxRecDepth 100000 in
set_option maxHeartbeats 4000000 in
theorem law_walk (s : ByteArray) (e n : Int) (w : World) (hG : Glob w) :
  Calls Tryz.prog 3 #[.agg #[.string s, .int .i64 e], .int .i64 n] w fun en w' => en = .returned (.bool true) ∧ Fr NoS w w' := by
 obtain ⟨u0, hu0⟩ : ∃ u0 : World, Hid (u0 = w.alloc (.cells #[.string s, .int .i64 e] TDec (0, 0))) := ⟨_, Lib.hid rfl⟩
 have hA : Fr NoS w u0 := by rw [hu0.out]; exact (Fr.refl NoS w).alloc _
 have B0 : u0.heap[w.heap.size]? = some (.cells #[.string s, .int .i64 e] TDec (0, 0)) := by rw [hu0.out, new1 (by simp)]
 obtain ⟨c00, c01, _, _⟩ := cells2 B0
 have hM := tmod21 n
 obtain ⟨m, hm⟩ : ∃ m, Hid (n.tmod 21 = m) := ⟨_, rfl⟩
 rw [hm.out] at hM
 have AP : ∀ W, Calls Tryz.prog 6 #[.int .i64 n, .int .i64 20] W fun en w' => en = .returned (.int .i64 m) ∧ W = w' := fun W => by rw [← hm.out]; exact la_arPlaces n W
 rw [hu0.out] at c00 c01
 go_enter Tryz.func3, Tryz.ntmps3
 go_wp2_with fail
 rw [← hu0.out] at c00 c01
 rw [← hu0.out]
 refine (la_zzFits1 s e u0).mono ?_
 rintro en w1 ⟨rfl, f1⟩
 by_cases hfit : s.size ≤ 2147483647
 ·have d1 : decide (s.size ≤ 2147483647) = true := decide_eq_true hfit
  rw [d1]
  have HF := Lib.hid hfit
  clear d1 hfit c00 c01
  obtain ⟨c00, c01, cf0, cf1⟩ := cells2 (f1.kp B0)
  go_wp2_with fail
  refine (la_arLess s e w1 HF.out).mono ?_
  rintro en w2 ⟨z, e', x, rfl, hz, he1, he2, hx, f2⟩
  obtain ⟨va, vb, rfl, h1, h2⟩ := hx
  obtain ⟨A1, l1, c1, rfl, _, _⟩ := h1.slice
  obtain ⟨A2, l2, c2, rfl, _, _⟩ := h2.slice
  obtain ⟨na, hna⟩ : ∃ na, Hid (decide (frN z e' < 0) = na) := ⟨_, rfl⟩
  obtain ⟨t, ht⟩ : ∃ t, Hid (tz z = t) := ⟨_, rfl⟩
  rw [hna.out, tz_dc ht.out]
  have F2 : Fr NoS u0 w2 := f1.trans' f2
  have C0 := F2.kp B0
  clear c00 c01 cf0 cf1
  have hl0 := (zLt C0)
  go_wp2_with ((with_reducible refine gate_dst (N := 5) rfl ?_); refine box_event ?hg (N := 5) ?hd (cs := #[.bool false, .slice none 0 0, .slice none 0 0]) (t := TFr) ?hr ?_; (case hd => rfl); (case hg => rfl); (case hr => first | (go_simp; done) | (go_simp; rfl)); intro g5 hg5 w3 hb5 hB5; have f3 : Fr NoS w2 w3 := Fr.of_below hB5; clear hB5; obtain ⟨c00, c01, cf0, cf1⟩ := cells2 (f3.kp C0); obtain ⟨j0, j1, j2, jf0, jf1, jf2⟩ := cells3 hb5; have ns1 : w.heap.size ≠ g5 := (by omega); have ns2 : g5 ≠ w.heap.size := (by omega); have HG5 := Lib.hid hg5; clear hg5)
  have HGB : Hid (w2.heap.size ≤ g5) := by show _ ≤ _; rw [HG5.out]; exact Nat.le_refl _
  obtain ⟨wa, hwa⟩ : ∃ wa : World, Hid (wa = (w3.setCell ⟨w.heap.size, 0, none⟩ (.string t)).setCell ⟨w.heap.size, 1, none⟩ (.int .i64 e')) := ⟨_, Lib.hid rfl⟩
  rw [← hwa.out]
  obtain ⟨u4, hu4⟩ : ∃ u4 : World, Hid (u4 = ((wa.setCell ⟨g5, 0, none⟩ (.bool na)).setCell ⟨g5, 1, none⟩ (.slice A1 l1 c1)).setCell ⟨g5, 2, none⟩ (.slice A2 l2 c2)) := ⟨_, Lib.hid rfl⟩
  rw [← hu4.out]
  have fEa : Fr (fun k => k = w.heap.size) w3 wa := by rw [hwa.out]; exact (Fr.set _ _ _ _).trans' (Fr.set _ _ _ _)
  have fEb : Fr (fun k => k = g5) wa u4 := by rw [hu4.out]; exact ((Fr.set _ _ _ _).trans' (Fr.set _ _ _ _)).trans' (Fr.set _ _ _ _)
  have Ba : wa.heap[w.heap.size]? = some (.cells #[.string t, .int .i64 e'] TDec (0, 0)) := by rw [hwa.out]; exact cells_dc (f3.kp C0) _ _
  have Bb : wa.heap[g5]? = some (.cells #[.bool false, .slice none 0 0, .slice none 0 0] TFr (0, 0)) := (fEa.block _ (zLt hb5) ns2).trans hb5
  have K0 : u4.heap[w.heap.size]? = some (.cells #[.string t, .int .i64 e'] TDec (0, 0)) := (fEb.block _ (zLt Ba) ns1).trans Ba
  have K1 : u4.heap[g5]? = some (.cells #[.bool na, .slice A1 l1 c1, .slice A2 l2 c2] TFr (0, 0)) := by
   rw [hu4.out]
   have := set_block (o := 2) (set_block (o := 1) (set_block (o := 0) Bb (.bool na)) (.slice A1 l1 c1)) (.slice A2 l2 c2)
   simpa using this
  have r1 := ((h1.fr f3).beside (f3.kp C0) (fun j z e => by rcases j with _ | _ | j <;> simp at e) fEa).beside Bb (fun j z e => nocell_fr j z e) fEb
  have r2 := ((h2.fr f3).beside (f3.kp C0) (fun j z e => by rcases j with _ | _ | j <;> simp at e) fEa).beside Bb (fun j z e => nocell_fr j z e) fEb
  have hszA := hA.size
  have hszB := F2.size
  have F4 : Fr NoS w u4 := (((hA.trans' F2).trans' f3).trans fEa (fun i hi e => by omega)).trans fEb (fun i hi e => by have := HGB.out; omega)
  have DPI := im_DecPowInt z e' m u4 hz hM ⟨he1, he2⟩ (hG.fr F4)
  rw [tz_dc ht.out] at DPI
  have HZ := Lib.hid (And.intro hz (And.intro he1 he2))
  clear fEa fEb Ba Bb hszA hszB c00 c01 cf0 cf1 j0 j1 j2 jf0 jf1 jf2 hb5 C0 h1 h2 B0 f3 ns1 ns2 hl0 hz he1 he2
  refine (AP u4).mono ?_
  rintro en w5 ⟨rfl, rfl⟩
  obtain ⟨c00, c01, _, _⟩ := cells2 K0
  go_wp2_with fail
  refine DPI.mono ?_
  rintro en w6 ⟨f6, hcase⟩
  replace r1 := r1.fr f6
  replace r2 := r2.fr f6
  have K5 := f6.kp K1
  have F6 := F4.trans' f6
  clear c00 c01 K0 K1 DPI AP
  have hg6 : g5 ≠ w6.heap.size := by
   have := (zLt K5)
   omega
  have hg6' : w6.heap.size ≠ g5 := by omega
  have hlow : (frN z e').natAbs < 10 ^ 30 := frN_low z e' HZ.out.1 HZ.out.2.2
  have hlow2 : frD e' < 10 ^ 30 := low_11 (frD_low e' HZ.out.2.1)
  rcases hcase with ⟨hz0, hn0, rfl⟩ | ⟨hnz, q, s', hPI, rfl⟩
  ·obtain ⟨u7, hu7⟩ : ∃ u7 : World, Hid (u7 = w6.alloc (.cells #[.string ⟨#[]⟩, .int .i64 0] TDec (0, 0))) := ⟨_, Lib.hid rfl⟩
   have f67 : Fr NoS w6 u7 := by rw [hu7.out]; exact (Fr.refl NoS w6).alloc _
   have IZ := sp_IsZero (.agg #[.bool na, .slice A1 l1 c1, .slice A2 l2 c2]) (frN z e') (frD e') u7 ⟨_, _, by rw [hna.out], r1.fr f67, r2.fr f67⟩ (lim_le (lim_4000 (Nat.lt_trans hlow (pow_up 30 4000 (by decide)))))
   have e1 : decide (frN z e' = 0) = true := decide_eq_true ((frN_zero z e').2 hz0)
   have e2 : decide (m ≤ 0) = true := decide_eq_true hn0
   rw [e1] at IZ
   obtain ⟨c50, c51, c52, _, _, _⟩ := cells3 (f67.kp K5)
   have F7 := F6.trans' f67
   rw [hu7.out] at c50 c51 c52
   clear hz0 hn0 e1 hM hm hlow hlow2 K5 r1 r2
   go_wp2_with fail
   rw [← hu7.out]
   refine IZ.mono ?_
   rintro en w8 ⟨rfl, f8⟩
   go_wp2
   go_ret
   exact ⟨rfl, F7.trans' f8⟩
  ·obtain ⟨t2, ht2⟩ : ∃ t2, Hid (tz q = t2) := ⟨_, rfl⟩
   rw [tz_dc ht2.out]
   obtain ⟨u7, hu7⟩ : ∃ u7 : World, Hid (u7 = w6.alloc (.cells #[.string t2, .int .i64 s'] TDec (0, 0))) := ⟨_, Lib.hid rfl⟩
   have f67 : Fr NoS w6 u7 := by rw [hu7.out]; exact (Fr.refl NoS w6).alloc _
   have K6 : u7.heap[w6.heap.size]? = some (.cells #[.string t2, .int .i64 s'] TDec (0, 0)) := by rw [hu7.out]; exact heap_alloc_new w6 _
   replace K5 := f67.kp K5
   have hRF : RF u7 (.agg #[.bool na, .slice A1 l1 c1, .slice A2 l2 c2]) (frN z e') (frD e') := ⟨_, _, by rw [hna.out], r1.fr f67, r2.fr f67⟩
   have IZ := sp_IsZero (.agg #[.bool na, .slice A1 l1 c1, .slice A2 l2 c2]) (frN z e') (frD e') u7 hRF (lim_le (lim_4000 (Nat.lt_trans hlow (pow_up 30 4000 (by decide)))))
   obtain ⟨iz, hiz⟩ : ∃ iz, Hid (decide (frN z e' = 0) = iz) := ⟨_, rfl⟩
   rw [hiz.out] at IZ
   have hpow : ∀ j k, j ≤ k → k ≤ 20 → (frN z e').natAbs ^ j < 10 ^ 4000 := fun j k h1 h2 => low_30 hlow h1 h2
   have hpow2 : ∀ j k, j ≤ k → k ≤ 20 → frD e' ^ j < 10 ^ 4000 := fun j k h1 h2 => low_30 hlow2 h1 h2
   obtain ⟨hSm, hs1, hs2⟩ := powIs_small hPI HZ.out.1 hM ⟨HZ.out.2.1, HZ.out.2.2⟩
   have hq5 := sm_5000 hSm
   have hql : (lz q).length ≤ 100000 := Nat.le_trans (lz_le5 q hq5) (by decide)
   have F7 := F6.trans' f67
   obtain ⟨c50, c51, c52, _, _, _⟩ := cells3 K5
   rw [hu7.out] at c50 c51 c52
   have HPW := Lib.hid (And.intro hpow hpow2)
   have HQ := Lib.hid (And.intro hq5 (And.intro hql (And.intro hs1 hs2)))
   have HNZ := Lib.hid hnz
   have HMM := Lib.hid hM
   have HPI := Lib.hid hPI
   clear hpow hpow2 hlow hlow2 hSm hs1 hs2 hq5 hql r1 r2 hnz hM hPI
   have SAY : ∀ (x : Value) (a : Int) (b : Nat) (W : World), RF W x a b → a.natAbs < 10 ^ 4000 → b < 10 ^ 4000 → decide (frN q s' * b = a * frD s') = true → Calls Tryz.prog 9 #[.agg #[.string t2, .int .i64 s'], x] W fun en w' => en = .returned (.bool true) ∧ Fr NoS W w' := by
    intro x a b W hx ha hb hd
    have := sp_Says q s' x a b W hx HQ.out.2.1 HQ.out.1 (by have := HQ.out.2.2; omega) (by have := HQ.out.2.2; omega) (lim_4000 ha) (lim_4000 hb)
    rw [hd, tz_dc ht2.out] at this
    exact this
   have HSAY := Lib.hid SAY
   clear SAY
   rcases Int.lt_or_le m 0 with hneg | hpos
   ·have hz0 : z ≠ 0 := fun h => HNZ.out ⟨h, by omega⟩
    have e1 : iz = false := by rw [← hiz.out]; exact decide_eq_false (fun h => hz0 ((frN_zero z e').1 h))
    subst e1
    have d1 : decide (0 ≤ m) = false := decide_eq_false (by omega)
    obtain ⟨k, hk⟩ : ∃ k : Nat, -m = (k : Int) := ⟨(-m).toNat, by omega⟩
    have hk20 : k ≤ 20 := by have := HMM.out; omega
    have w64 : IntKind.i64.wrap (-m) = -m := IntWalk.i64_in _ (by have := HMM.out; omega)
    have IV := fun W (f : Fr NoS u7 W) => sp_Inverse (.agg #[.bool na, .slice A1 l1 c1, .slice A2 l2 c2]) (frN z e') (frD e') W (hRF.fr f)
    have PF : ∀ x W, RF W x (sg (decide (frN z e' < 0)) (frD e')) (frN z e').natAbs → Calls Tryz.prog 10 #[x, .int .i64 (-m)] W fun en w' => ∃ r, en = .returned r ∧ RF w' r (inN z e' k) (inD z e' k) ∧ Fr NoS W w' := by
     intro x W hx
     have := sp_FPow x (sg (decide (frN z e' < 0)) (frD e')) (frN z e').natAbs k W hx (by omega) (fun j hj => by rw [sg_abs]; exact lim_le (lim_4000 (HPW.out.2 j k hj hk20))) (fun j hj => lim_le (lim_4000 (HPW.out.1 j k hj hk20)))
     rw [inN_eq, ← hk] at this
     exact this
    have hin1 : (inN z e' k).natAbs < 10 ^ 4000 := by rw [inN_abs]; exact HPW.out.2 k k (Nat.le_refl _) hk20
    have hin2 : inD z e' k < 10 ^ 4000 := HPW.out.1 k k (Nat.le_refl _) hk20
    have hinp := inD_pos z e' k hz0
    have hin0 : inN z e' k ≠ 0 := by
     intro h
     have h1 := inN_abs z e' k
     rw [h] at h1
     have h2 : 0 < frD e' ^ k := Nat.pow_pos (frD_pos e')
     omega
    have PR := fun x W (hx : RF W x (inN z e' k) (inD z e' k)) => sp_PowRounded x (inN z e' k) (inD z e' k) W hx hin0 hinp hin1 hin2
    have HRN : Hid (∀ q2 e2, Rnd16 (inN z e' k) (inD z e' k) q2 e2 → q2 = q ∧ e2 = s') := fun q2 e2 h => (neg_rnd k hz0 hneg hk HPI.out).one h
    have DF := fun x W (hx : RD W x q s') => sp_DFrac x q s' W hx (by have := HQ.out.2.2; omega) (by have := HQ.out.2.2; omega) (lim_le (Nat.lt_trans HQ.out.1 (lim_pow 5000 (by decide))))
    have hSb : s' ≤ 16 ∨ True := .inr trivial
    have SA : ∀ x W, RF W x (frN q s') (frD s') → Calls Tryz.prog 9 #[.agg #[.string t2, .int .i64 s'], x] W fun en w' => en = .returned (.bool true) ∧ Fr NoS W w' := by
     intro x W hx
     have := sp_Says q s' x (frN q s') (frD s') W hx HQ.out.2.1 HQ.out.1 (by have := HQ.out.2.2; omega) (by have := HQ.out.2.2; omega) (frN_lim q s' (lim_five HQ.out.1) (by have := HQ.out.2.2; omega)) (frD_lim s' (by have := HQ.out.2.2; omega))
     rw [decide_eq_true rfl, tz_dc ht2.out] at this
     exact this
    clear hin1 hin2 hinp hin0 hSb hz0 hneg hk hk20
    go_wp2_with fail
    rw [← hu7.out] at c50 c51 c52
    rw [← hu7.out]
    refine IZ.mono ?_
    rintro en w75 ⟨rfl, f75⟩
    obtain ⟨u8, hu8⟩ : ∃ u8 : World, Hid (u8 = w75) := ⟨_, Lib.hid rfl⟩
    replace F7 := F7.trans' f75
    replace K6 := f75.kp K6
    replace K5 := f75.kp K5
    have IV' := fun W (f : Fr NoS w75 W) => IV W (f75.trans' f)
    clear IV IZ hRF hu8
    clear c50 c51 c52
    obtain ⟨c60, c61, _, _⟩ := cells2 K6
    obtain ⟨c50, c51, c52, _, _, _⟩ := cells3 K5
    go_wp2_with fail
    go_region_held3 (fun w' => w'.cell? ⟨w6.heap.size, 0, none⟩ = some (.string t2) ∧ w'.cell? ⟨w6.heap.size, 1, none⟩ = some (.int .i64 s') ∧ w'.cell? ⟨g5, 0, none⟩ = some (.bool na) ∧ w'.cell? ⟨g5, 1, none⟩ = some (.slice A1 l1 c1) ∧ w'.cell? ⟨g5, 2, none⟩ = some (.slice A2 l2 c2)) (go_keep) (first | (go_at_call 12; (with_reducible refine (IV' w75.drew (Fr.refl NoS w75).drew).mono ?_); rintro en w8 ⟨v8, rfl, r8, f8⟩; have F8 : Fr NoS w75 w8 := (Fr.refl NoS w75).drew.trans' f8; clear f8; clear c60 c61 c50 c51 c52; obtain ⟨c60, c61, _, _⟩ := cells2 (F8.kp K6); obtain ⟨c50, c51, c52, _, _, _⟩ := cells3 (F8.kp K5)) | (go_at_call 10; (with_reducible refine (PF v8 w8 r8).mono ?_); rintro en w9 ⟨v9, rfl, r9, f9⟩; have F9 : Fr NoS w75 w9 := F8.trans' f9; clear f9; clear c60 c61 c50 c51 c52; obtain ⟨c60, c61, _, _⟩ := cells2 (F9.kp K6); obtain ⟨c50, c51, c52, _, _, _⟩ := cells3 (F9.kp K5)) | (go_at_call 11; (with_reducible refine (PR v9 w9 r9).mono ?_); rintro en w10 ⟨v10, q2, e2, rfl, r10, hR16, f10⟩; have F10 : Fr NoS w75 w10 := F9.trans' f10; clear f10; clear c60 c61 c50 c51 c52; obtain ⟨c60, c61, _, _⟩ := cells2 (F10.kp K6); obtain ⟨c50, c51, c52, _, _, _⟩ := cells3 (F10.kp K5); have hq := HRN.out q2 e2 hR16; have r10' : RD w10 v10 q s' := (by rw [← hq.1, ← hq.2]; exact r10); clear hR16 hq r10) | (go_at_call 13; (with_reducible refine (DF v10 w10 r10').mono ?_); rintro en w11 ⟨v11, rfl, r11, f11⟩; have F11 : Fr NoS w75 w11 := F10.trans' f11; clear f11; clear c60 c61 c50 c51 c52; obtain ⟨c60, c61, _, _⟩ := cells2 (F11.kp K6); obtain ⟨c50, c51, c52, _, _, _⟩ := cells3 (F11.kp K5)) | (go_at_call 9; (with_reducible refine (SA v11 w11 r11).mono ?_); rintro en w12 ⟨rfl, f12⟩; have F12 : Fr NoS w75 w12 := F11.trans' f12; clear f12; clear c60 c61 c50 c51 c52; obtain ⟨c60, c61, _, _⟩ := cells2 (F12.kp K6); obtain ⟨c50, c51, c52, _, _, _⟩ := cells3 (F12.kp K5)))
    all_goals
     have HF := F7.trans' F12
     clear c50 c51 c52 c60 c61 K5 K6 IV' PF PR DF SA r8 r9 r10' r11
     go_wp2
     go_ret
     exact ⟨rfl, HF⟩
   ·obtain ⟨k, hk⟩ : ∃ k : Nat, m = (k : Int) := ⟨m.toNat, by omega⟩
    have hk20 : k ≤ 20 := by have := HMM.out; omega
    have d1 : decide (0 ≤ m) = true := decide_eq_true hpos
    have PF : ∀ W, Fr NoS u7 W → Calls Tryz.prog 10 #[.agg #[.bool na, .slice A1 l1 c1, .slice A2 l2 c2], .int .i64 m] W fun en w' => ∃ r, en = .returned r ∧ RF w' r (frN z e' ^ k) (frD e' ^ k) ∧ Fr NoS W w' := by
     intro W f
     have := sp_FPow (.agg #[.bool na, .slice A1 l1 c1, .slice A2 l2 c2]) (frN z e') (frD e') k W (hRF.fr f) (by omega) (fun j hj => lim_le (lim_4000 (HPW.out.1 j k hj hk20))) (fun j hj => lim_le (lim_4000 (HPW.out.2 j k hj hk20)))
     rw [← hk] at this
     exact this
    have hps := pos_says k hk HPI.out
    have SA : ∀ x W, RF W x (frN z e' ^ k) (frD e' ^ k) → Calls Tryz.prog 9 #[.agg #[.string t2, .int .i64 s'], x] W fun en w' => en = .returned (.bool true) ∧ Fr NoS W w' := fun x W hx => HSAY.out x _ _ W hx (by rw [Int.natAbs_pow]; exact HPW.out.1 k k (Nat.le_refl _) hk20) (HPW.out.2 k k (Nat.le_refl _) hk20) hps
    have HK := Lib.hid (And.intro hk hk20)
    by_cases hz0 : z = 0
    case' pos =>
     have e1 : iz = true := by rw [← hiz.out]; exact decide_eq_true ((frN_zero z e').2 hz0)
     subst e1
     have d2 : decide (m ≤ 0) = false := decide_eq_false (fun h => HNZ.out ⟨hz0, h⟩)
    case' neg =>
     have e1 : iz = false := by rw [← hiz.out]; exact decide_eq_false (fun h => hz0 ((frN_zero z e').1 h))
     subst e1
    all_goals
     clear hk hk20 hz0 hps hpos
     go_wp2_with fail
     rw [← hu7.out] at c50 c51 c52
     rw [← hu7.out]
     refine IZ.mono ?_
     rintro en w75 ⟨rfl, f75⟩
     replace F7 := F7.trans' f75
     replace K6 := f75.kp K6
     replace K5 := f75.kp K5
     have PF' := fun W (f : Fr NoS w75 W) => PF W (f75.trans' f)
     clear PF IZ hRF
     clear c50 c51 c52
     obtain ⟨c60, c61, _, _⟩ := cells2 K6
     obtain ⟨c50, c51, c52, _, _, _⟩ := cells3 K5
     go_wp2_with fail
     go_region_held3 (fun w' => w'.cell? ⟨w6.heap.size, 0, none⟩ = some (.string t2) ∧ w'.cell? ⟨w6.heap.size, 1, none⟩ = some (.int .i64 s') ∧ w'.cell? ⟨g5, 0, none⟩ = some (.bool na) ∧ w'.cell? ⟨g5, 1, none⟩ = some (.slice A1 l1 c1) ∧ w'.cell? ⟨g5, 2, none⟩ = some (.slice A2 l2 c2)) (go_keep) (first | (go_at_call 10; (with_reducible refine (PF' w75.drew (Fr.refl NoS w75).drew).mono ?_); rintro en w8 ⟨v8, rfl, r8, f8⟩; have F8 : Fr NoS w75 w8 := (Fr.refl NoS w75).drew.trans' f8; clear f8; clear c60 c61 c50 c51 c52; obtain ⟨c60, c61, _, _⟩ := cells2 (F8.kp K6); obtain ⟨c50, c51, c52, _, _, _⟩ := cells3 (F8.kp K5)) | (go_at_call 9; (with_reducible refine (SA v8 w8 r8).mono ?_); rintro en w9 ⟨rfl, f9⟩; have F9 : Fr NoS w75 w9 := F8.trans' f9; clear f9; clear c60 c61 c50 c51 c52; obtain ⟨c60, c61, _, _⟩ := cells2 (F9.kp K6); obtain ⟨c50, c51, c52, _, _, _⟩ := cells3 (F9.kp K5)))
     all_goals
      have HF := F7.trans' F9
      clear c50 c51 c52 c60 c61 K5 K6 PF' SA r8
      go_wp2
      go_ret
      exact ⟨rfl, HF⟩
 ·have d1 : decide (s.size ≤ 2147483647) = false := decide_eq_false hfit
  rw [d1]
  have HF := Lib.hid (hA.trans' f1)
  clear d1 hfit c00 c01
  go_wp2
  go_ret
  exact ⟨rfl, HF.out⟩
end Go.Proofs.YtilmldfbmmcchaaGreatDoor
