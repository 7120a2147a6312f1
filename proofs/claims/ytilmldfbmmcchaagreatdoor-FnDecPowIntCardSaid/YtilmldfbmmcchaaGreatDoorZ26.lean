/- Fractions of the reference: whether one is 0, without its sign, turned round. Decimal numbers of the reference as fractions. Fractions of the reference: powers, and two compared. Fractions of the reference, rounded half from zero. Conditions: each theorem bears its own. -/
import Derived.Test.YtilmldfbmmcchaaGreatDoorZ25
set_option linter.unusedVariables false
set_option linter.unusedSimpArgs false
namespace Go.Proofs.YtilmldfbmmcchaaGreatDoor
open Go.RowKit Go.Proofs.YtilmldfbmmcchaaGreatDoorW.PrintWords Go.Proofs.YtilmldfbmmcchaaGreatDoorW.PrintLast Go.Proofs.YtilmldfbmmcchaaGreatDoorW.PrintMore PFnDecPowInt
theorem nocell_fr (j : Nat) (z : Int) (h : (#[.bool false, .slice none 0 0, .slice none 0 0] : Array Value)[j]? = some (.int .u32 z)) : False := by
 rcases j with _ | _ | _ | j
 ·simp at h
 ·simp at h
 ·simp at h
 ·simp at h
theorem cmpi_zero (a : Int) : (cmpi a 0 == 0) = decide (a = 0) := by
 unfold cmpi
 by_cases h : a < 0
 ·rw [if_pos h, decide_eq_false (by omega)]; rfl
 ·rw [if_neg h]
  by_cases e : a = 0
  ·rw [if_pos e, decide_eq_true e]; rfl
  ·rw [if_neg e, decide_eq_false e]; rfl
set_option maxRecDepth 100000 in
set_option maxHeartbeats 4000000 in
theorem sp_IsZero (x : Value) (a : Int) (b : Nat) (w : World) (hx : RF w x a b) (ha : a.natAbs < LIM 40000) :
  Calls Tryz.prog 8 #[x] w fun e w' => e = .returned (.bool (decide (a = 0))) ∧ Fr NoS w w' := by
 obtain ⟨va, vb, rfl, h1, h2⟩ := hx
 obtain ⟨A1, l1, c1, rfl, _, _⟩ := h1.slice
 obtain ⟨A2, l2, c2, rfl, _, _⟩ := h2.slice
 have hA : ∀ na, Fr NoS w (w.alloc (.cells #[.bool na, .slice A1 l1 c1, .slice A2 l2 c2] TFr (0, 0))) := fun _ => (Fr.refl NoS w).alloc _
 have SG := fun W (f : Fr NoS w W) => sp_WSign _ a W ⟨_, rfl, h1.fr f⟩ ha
 have hz := cmpi_zero a
 clear h1 h2 ha
 obtain ⟨C, hC⟩ : ∃ C, cmpi a 0 = C := ⟨_, rfl⟩
 obtain ⟨na, hna⟩ : ∃ n, decide (a < 0) = n := ⟨_, rfl⟩
 rw [hC, hna] at SG
 rw [hC] at hz
 rw [hna, ← hz]
 clear hC hna hz
 go_enter Tryz.func8, Tryz.ntmps8
 go_wp2_with fail
 refine (SG _ (hA _)).mono ?_
 rintro en w1 ⟨rfl, f1⟩
 go_wp2
 go_ret
 exact ⟨rfl, (hA _).trans' f1⟩
set_option maxRecDepth 100000 in
set_option maxHeartbeats 4000000 in
theorem sp_FAbs (x : Value) (a : Int) (b : Nat) (w : World) (hx : RF w x a b) :
  Calls Tryz.prog 50 #[x] w fun e w' => ∃ r, e = .returned r ∧ RF w' r (a.natAbs : Int) b ∧ Fr NoS w w' := by
 obtain ⟨va, vb, rfl, h1, h2⟩ := hx
 obtain ⟨A1, l1, c1, rfl, _, _⟩ := h1.slice
 obtain ⟨A2, l2, c2, rfl, _, _⟩ := h2.slice
 obtain ⟨na, hna⟩ : ∃ n, decide (a < 0) = n := ⟨_, rfl⟩
 rw [hna]
 have fin : ∀ W, Fr NoS w W → RF W (.agg #[.bool false, .slice A1 l1 c1, .slice A2 l2 c2]) (a.natAbs : Int) b := fun W f => ⟨_, _, by rw [decide_eq_false (by omega)], by rw [Int.natAbs_natCast]; exact h1.fr f, h2.fr f⟩
 have FIN := Lib.hid fin
 clear fin h1 h2 hna
 go_enter Tryz.func50, Tryz.ntmps50
 go_wp2
 have hF : ∀ o o', Fr NoS w ((w.alloc o).alloc o') := fun _ _ => ((Fr.refl NoS w).alloc _).alloc _
 exact bodyPost_ret (v := .agg #[.bool false, .slice A1 l1 c1, .slice A2 l2 c2]) (by simp [results, Tryz.results50, go_sem]) rfl ⟨_, rfl, FIN.out _ (hF _ _), hF _ _⟩
set_option maxRecDepth 100000 in
set_option maxHeartbeats 4000000 in
theorem sp_Inverse (x : Value) (a : Int) (b : Nat) (w : World) (hx : RF w x a b) :
  Calls Tryz.prog 12 #[x] w fun e w' => ∃ r, e = .returned r ∧ RF w' r (sg (decide (a < 0)) b) a.natAbs ∧ Fr NoS w w' := by
 obtain ⟨va, vb, rfl, h1, h2⟩ := hx
 obtain ⟨A1, l1, c1, rfl, _, _⟩ := h1.slice
 obtain ⟨A2, l2, c2, rfl, _, _⟩ := h2.slice
 obtain ⟨na, hna⟩ : ∃ n, decide (a < 0) = n := ⟨_, rfl⟩
 rw [hna]
 clear hna
 obtain ⟨u0, hu0⟩ : ∃ u0 : World, Hid (u0 = ((w.alloc (.cells #[.bool na, .slice A1 l1 c1, .slice A2 l2 c2] TFr (0, 0))).alloc (.cells #[.bool false, .slice none 0 0, .slice none 0 0] TFr (0, 0)))) := ⟨_, Lib.hid rfl⟩
 have hA : Fr NoS w u0 := by rw [hu0.out]; exact ((Fr.refl NoS w).alloc _).alloc _
 have B0 : u0.heap[w.heap.size]? = some (.cells #[.bool na, .slice A1 l1 c1, .slice A2 l2 c2] TFr (0, 0)) := by rw [hu0.out, old1 (by simp), new1 (by simp)]
 have B1 : u0.heap[w.heap.size + 1]? = some (.cells #[.bool false, .slice none 0 0, .slice none 0 0] TFr (0, 0)) := by rw [hu0.out, new1 (by simp)]
 obtain ⟨c00, c01, c02, _, _, _⟩ := cells3 B0
 have WO := sp_wholeOf na (.slice A2 l2 c2) b u0.drew (h2.fr ((hA.trans' (Fr.refl NoS u0).drew)))
 have n1 : w.heap.size ≠ w.heap.size + 1 := by omega
 clear h2
 go_enter Tryz.func12, Tryz.ntmps12
 go_wp2_with fail
 rw [← hu0.out]
 go_region_held3 (fun w' => w'.cell? ⟨w.heap.size, 0, none⟩ = some (.bool na) ∧ w'.cell? ⟨w.heap.size, 1, none⟩ = some (.slice A1 l1 c1) ∧ w'.cell? ⟨w.heap.size, 2, none⟩ = some (.slice A2 l2 c2)) (go_keep) (first | (go_at_call 25; (with_reducible refine (WO).mono ?_); rintro en w1 ⟨r, rfl, hr, f1⟩; have F1 : Fr NoS u0 w1 := (Fr.refl NoS u0).drew.trans' f1; clear c00 c01 c02; obtain ⟨c00, c01, c02, _, _, _⟩ := cells3 (F1.kp B0); obtain ⟨vr, rfl, hv⟩ := hr; obtain ⟨A3, l3, c3, rfl, _, _⟩ := hv.slice; obtain ⟨bb, hbb⟩ : ∃ bb, Hid (decide (sg na b < 0) = bb) := ⟨_, rfl⟩; rw [hbb.out]; have DR := F1.kp B1; obtain ⟨k0, k1, k2, kf0, kf1, kf2⟩ := cells3 DR))
 all_goals
  have fE : Fr (fun k => k = w.heap.size + 1) w1 (((w1.setCell ⟨w.heap.size + 1, 0, none⟩ (.bool bb)).setCell ⟨w.heap.size + 1, 1, none⟩ (.slice A3 l3 c3)).setCell ⟨w.heap.size + 1, 2, none⟩ (.slice A1 l1 c1)) := (((Fr.set _ _ _ _).trans' (Fr.set _ _ _ _)).trans' (Fr.set _ _ _ _))
  have hv' := hv.beside DR (fun j z e => nocell_fr j z e) fE
  replace h1 := h1.fr (hA.trans' F1)
  have h1' := h1.beside DR (fun j z e => nocell_fr j z e) fE
  have hsz := hA.size
  have hFE := (hA.trans' F1).trans fE (fun i hi e => by omega)
  have HV := Lib.hid (And.intro hv' (And.intro h1' hFE))
  clear fE hFE DR hv' h1' c00 c01 c02 WO B0 B1 hv
  go_wp2
  exact bodyPost_ret (v := .agg #[.bool bb, .slice A3 l3 c3, .slice A1 l1 c1]) (by simp [results, Tryz.results12, go_sem, k0, k1, k2]) rfl ⟨_, rfl, ⟨_, _, by rw [hbb.out], HV.out.1, HV.out.2.1⟩, HV.out.2.2⟩
theorem ten_lim (k : Nat) (h : k ≤ 9000) : 10 ^ k < LIM 40000 := pow_lim _ _ (by omega)
theorem frN_sg (z e : Int) (h : 0 ≤ e) : sg (decide (z < 0)) (z.natAbs * 10 ^ e.toNat) = frN z e := by
 unfold frN
 rw [if_pos h, ten_nat]
 generalize 10 ^ e.toNat = t
 unfold sg
 by_cases k : z < 0
 ·rw [decide_eq_true k, if_pos rfl, Int.natCast_mul, show ((z.natAbs : Nat) : Int) = -z by omega, Int.neg_mul, Int.neg_neg]
 ·rw [decide_eq_false k, if_neg (by simp), Int.natCast_mul, show ((z.natAbs : Nat) : Int) = z by omega]
set_option maxRecDepth 100000 in
set_option maxHeartbeats 4000000 in
theorem sp_DFrac_pos (x : Value) (z e : Int) (w : World) (hx : RD w x z e) (he : 0 ≤ e) (he2 : e ≤ 9000) (hz : z.natAbs < LIM 40000) (hp : 10 ^ e.toNat < LIM 40000) :
  Calls Tryz.prog 13 #[x] w fun en w' => ∃ r, en = .returned r ∧ RF w' r (frN z e) (frD e) ∧ Fr NoS w w' := by
 obtain ⟨va, rfl, h1⟩ := hx
 obtain ⟨A1, l1, c1, rfl, _, _⟩ := h1.slice
 rw [← frN_sg z e he, show frD e = 1 by unfold frD; rw [if_pos he]]
 obtain ⟨m, hm⟩ : ∃ m : Nat, e = m := ⟨e.toNat, by omega⟩
 obtain ⟨na, hna⟩ : ∃ n, decide (z < 0) = n := ⟨_, rfl⟩
 rw [hna]
 clear hna
 obtain ⟨u0, hu0⟩ : ∃ u0 : World, Hid (u0 = ((w.alloc (.cells #[.bool na, .slice A1 l1 c1, .int .i64 e] TSd (0, 0))).alloc (.cells #[.bool false, .slice none 0 0, .slice none 0 0] TFr (0, 0)))) := ⟨_, Lib.hid rfl⟩
 have hA : Fr NoS w u0 := by rw [hu0.out]; exact ((Fr.refl NoS w).alloc _).alloc _
 have B0 : u0.heap[w.heap.size]? = some (.cells #[.bool na, .slice A1 l1 c1, .int .i64 e] TSd (0, 0)) := by rw [hu0.out, old1 (by simp), new1 (by simp)]
 have B1 : u0.heap[w.heap.size + 1]? = some (.cells #[.bool false, .slice none 0 0, .slice none 0 0] TFr (0, 0)) := by rw [hu0.out, new1 (by simp)]
 obtain ⟨c00, c01, c02, _, _, _⟩ := cells3 B0
 have P10 := sp_Pow10 m u0.drew (by omega)
 rw [← hm] at P10
 rw [show e.toNat = m by omega] at hp ⊢
 have d0 : decide (0 ≤ e) = true := decide_eq_true he
 have n1 : w.heap.size ≠ w.heap.size + 1 := by omega
 have HM := Lib.hid hm
 clear hm he he2
 have hzz := Lib.hid hz
 have hpp := Lib.hid hp
 clear hz hp
 rw [hu0.out] at c00 c01 c02
 go_enter Tryz.func13, Tryz.ntmps13
 go_wp2_with fail
 rw [← hu0.out] at c00 c01 c02
 rw [← hu0.out]
 go_region_held3 (fun w' => w'.cell? ⟨w.heap.size, 0, none⟩ = some (.bool na) ∧ w'.cell? ⟨w.heap.size, 1, none⟩ = some (.slice A1 l1 c1) ∧ w'.cell? ⟨w.heap.size, 2, none⟩ = some (.int .i64 e)) (go_keep) (first | (go_at_call 30; (with_reducible refine (P10).mono ?_); rintro en w1 ⟨v1, rfl, r1, f1⟩; have F1 : Fr NoS u0 w1 := (Fr.refl NoS u0).drew.trans' f1; clear c00 c01 c02; obtain ⟨c00, c01, c02, _, _, _⟩ := cells3 (F1.kp B0); obtain ⟨A3, l3, c3, rfl, _, _⟩ := r1.slice) | (go_at_call 29; (with_reducible refine (sp_NatMul _ _ _ _ w1 (h1.fr (hA.trans' F1)) r1 hzz.out hpp.out).mono ?_); rintro en w2 ⟨v2, rfl, r2, f2⟩; have F2 : Fr NoS u0 w2 := F1.trans' f2; clear c00 c01 c02; obtain ⟨c00, c01, c02, _, _, _⟩ := cells3 (F2.kp B0); obtain ⟨A4, l4, c4, rfl, _, _⟩ := r2.slice) | (go_at_call 25; (with_reducible refine (sp_wholeOf na _ _ w2 r2).mono ?_); rintro en w3 ⟨v3, rfl, r3, f3⟩; have F3 : Fr NoS u0 w3 := F2.trans' f3; clear c00 c01 c02; obtain ⟨c00, c01, c02, _, _, _⟩ := cells3 (F3.kp B0); obtain ⟨vr, rfl, r3'⟩ := r3; obtain ⟨A5, l5, c5, rfl, _, _⟩ := r3'.slice; obtain ⟨bb, hbb⟩ : ∃ bb, Hid (decide (sg na (z.natAbs * 10 ^ m) < 0) = bb) := ⟨_, rfl⟩; rw [hbb.out]) | (go_at_call 31; (with_reducible refine (sp_one w3).mono ?_); rintro en w4 ⟨v4, rfl, r4, f4⟩; have F4 : Fr NoS u0 w4 := F3.trans' f4; replace r3' := r3'.fr f4; clear c00 c01 c02; obtain ⟨c00, c01, c02, _, _, _⟩ := cells3 (F4.kp B0); obtain ⟨A6, l6, c6, rfl, _, _⟩ := r4.slice; have DR := F4.kp B1; obtain ⟨k0, k1, k2, kf0, kf1, kf2⟩ := cells3 DR))
 all_goals
  have fE : Fr (fun k => k = w.heap.size + 1) w4 (((w4.setCell ⟨w.heap.size + 1, 0, none⟩ (.bool bb)).setCell ⟨w.heap.size + 1, 1, none⟩ (.slice A5 l5 c5)).setCell ⟨w.heap.size + 1, 2, none⟩ (.slice A6 l6 c6)) := (((Fr.set _ _ _ _).trans' (Fr.set _ _ _ _)).trans' (Fr.set _ _ _ _))
  have r3'' := r3'.beside DR (fun j z e => nocell_fr j z e) fE
  have r4' := r4.beside DR (fun j z e => nocell_fr j z e) fE
  have hsz := hA.size
  have hFE := (hA.trans' F4).trans fE (fun i hi e => by omega)
  have HV := Lib.hid (And.intro r3'' (And.intro r4' hFE))
  clear fE hFE DR r3'' r4' c00 c01 c02 P10 B0 B1 r1 r2 r3' r4
  go_wp2
  exact bodyPost_ret (v := .agg #[.bool bb, .slice A5 l5 c5, .slice A6 l6 c6]) (by simp [results, Tryz.results13, go_sem, k0, k1, k2]) rfl ⟨_, rfl, ⟨_, _, by rw [hbb.out], HV.out.1, HV.out.2.1⟩, HV.out.2.2⟩
set_option maxRecDepth 100000 in
set_option maxHeartbeats 4000000 in
theorem sp_DFrac_neg (x : Value) (z e : Int) (w : World) (hx : RD w x z e) (he : e < 0) (he2 : -9000 ≤ e) :
  Calls Tryz.prog 13 #[x] w fun en w' => ∃ r, en = .returned r ∧ RF w' r (frN z e) (frD e) ∧ Fr NoS w w' := by
 obtain ⟨va, rfl, h1⟩ := hx
 obtain ⟨A1, l1, c1, rfl, _, _⟩ := h1.slice
 rw [show frN z e = z by unfold frN; rw [if_neg (by omega)], frD_eq]
 obtain ⟨m, hm⟩ : ∃ m : Nat, -e = m := ⟨(-e).toNat, by omega⟩
 obtain ⟨na, hna⟩ : ∃ n, Hid (decide (z < 0) = n) := ⟨_, rfl⟩
 rw [hna.out]
 obtain ⟨u0, hu0⟩ : ∃ u0 : World, Hid (u0 = ((w.alloc (.cells #[.bool na, .slice A1 l1 c1, .int .i64 e] TSd (0, 0))).alloc (.cells #[.bool false, .slice none 0 0, .slice none 0 0] TFr (0, 0)))) := ⟨_, Lib.hid rfl⟩
 have hA : Fr NoS w u0 := by rw [hu0.out]; exact ((Fr.refl NoS w).alloc _).alloc _
 have B0 : u0.heap[w.heap.size]? = some (.cells #[.bool na, .slice A1 l1 c1, .int .i64 e] TSd (0, 0)) := by rw [hu0.out, old1 (by simp), new1 (by simp)]
 have B1 : u0.heap[w.heap.size + 1]? = some (.cells #[.bool false, .slice none 0 0, .slice none 0 0] TFr (0, 0)) := by rw [hu0.out, new1 (by simp)]
 obtain ⟨c00, c01, c02, _, _, _⟩ := cells3 B0
 have P10 := sp_Pow10 m u0.drew (by omega)
 rw [← hm] at P10
 rw [show (-e).toNat = m by omega]
 have d0 : decide (0 ≤ e) = false := decide_eq_false (by omega)
 have w64 : IntKind.i64.wrap (-e) = -e := IntWalk.i64_in _ (by omega)
 have n1 : w.heap.size ≠ w.heap.size + 1 := by omega
 have HM := Lib.hid hm
 clear hm he he2
 rw [hu0.out] at c00 c01 c02
 go_enter Tryz.func13, Tryz.ntmps13
 go_wp2_with fail
 rw [← hu0.out] at c00 c01 c02
 rw [← hu0.out]
 go_region_held3 (fun w' => w'.cell? ⟨w.heap.size, 0, none⟩ = some (.bool na) ∧ w'.cell? ⟨w.heap.size, 1, none⟩ = some (.slice A1 l1 c1) ∧ w'.cell? ⟨w.heap.size, 2, none⟩ = some (.int .i64 e)) (go_keep) (first | (go_at_call 30; (with_reducible refine (P10).mono ?_); rintro en w1 ⟨v1, rfl, r1, f1⟩; have F1 : Fr NoS u0 w1 := (Fr.refl NoS u0).drew.trans' f1; clear c00 c01 c02; obtain ⟨c00, c01, c02, _, _, _⟩ := cells3 (F1.kp B0); obtain ⟨A3, l3, c3, rfl, _, _⟩ := r1.slice; have DR := F1.kp B1; obtain ⟨k0, k1, k2, kf0, kf1, kf2⟩ := cells3 DR))
 all_goals
  have fE : Fr (fun k => k = w.heap.size + 1) w1 (((w1.setCell ⟨w.heap.size + 1, 0, none⟩ (.bool na)).setCell ⟨w.heap.size + 1, 1, none⟩ (.slice A1 l1 c1)).setCell ⟨w.heap.size + 1, 2, none⟩ (.slice A3 l3 c3)) := (((Fr.set _ _ _ _).trans' (Fr.set _ _ _ _)).trans' (Fr.set _ _ _ _))
  replace h1 := h1.fr (hA.trans' F1)
  have h1' := h1.beside DR (fun j z e => nocell_fr j z e) fE
  have r1' := r1.beside DR (fun j z e => nocell_fr j z e) fE
  have hsz := hA.size
  have hFE := (hA.trans' F1).trans fE (fun i hi e => by omega)
  have HV := Lib.hid (And.intro h1' (And.intro r1' hFE))
  clear fE hFE DR h1' r1' c00 c01 c02 P10 B0 B1 r1
  go_wp2
  exact bodyPost_ret (v := .agg #[.bool na, .slice A1 l1 c1, .slice A3 l3 c3]) (by simp [results, Tryz.results13, go_sem, k0, k1, k2]) rfl ⟨_, rfl, ⟨_, _, by rw [hna.out], HV.out.1, HV.out.2.1⟩, HV.out.2.2⟩
theorem sp_DFrac (x : Value) (z e : Int) (w : World) (hx : RD w x z e) (he : -9000 ≤ e) (he2 : e ≤ 9000) (hz : z.natAbs < LIM 40000) :
  Calls Tryz.prog 13 #[x] w fun en w' => ∃ r, en = .returned r ∧ RF w' r (frN z e) (frD e) ∧ Fr NoS w w' := by
 rcases Int.lt_or_le e 0 with h | h
 ·exact sp_DFrac_neg x z e w hx h he
 ·exact sp_DFrac_pos x z e w hx h he2 hz (ten_lim _ (by omega))
set_option maxRecDepth 100000 in
set_option maxHeartbeats 4000000 in
theorem sp_FracOf (z e : Int) (w : World) (h : (lz z).length ≤ 100000) (he : -9000 ≤ e) (he2 : e ≤ 9000) (hz : z.natAbs < LIM 40000) :
  Calls Tryz.prog 15 #[DC z e] w fun en w' => ∃ r, en = .returned r ∧ RF w' r (frN z e) (frD e) ∧ Fr NoS w w' := by
 have DI := fun W => sp_DecIn z e W h
 obtain ⟨s, hs⟩ : ∃ s, tz z = s := ⟨_, rfl⟩
 show Calls _ _ #[.agg #[.string (tz z), .int .i64 e]] w _
 have DI' : ∀ W, Calls Tryz.prog 23 #[.agg #[.string s, .int .i64 e]] W fun en w' => ∃ v, en = .returned (.agg #[.bool (decide (z < 0)), v, .int .i64 e]) ∧ RN w' v z.natAbs ∧ Fr NoS W w' := by rw [← hs]; exact DI
 rw [hs]
 clear hs DI
 obtain ⟨u0, hu0⟩ : ∃ u0 : World, Hid (u0 = ((w.alloc (.cells #[.string s, .int .i64 e] TDec (0, 0))).alloc (.cells #[.bool false, .slice none 0 0, .slice none 0 0] TFr (0, 0)))) := ⟨_, Lib.hid rfl⟩
 have hA : Fr NoS w u0 := by rw [hu0.out]; exact ((Fr.refl NoS w).alloc _).alloc _
 have B0 : u0.heap[w.heap.size]? = some (.cells #[.string s, .int .i64 e] TDec (0, 0)) := by rw [hu0.out, old1 (by simp), new1 (by simp)]
 have B1 : u0.heap[w.heap.size + 1]? = some (.cells #[.bool false, .slice none 0 0, .slice none 0 0] TFr (0, 0)) := by rw [hu0.out, new1 (by simp)]
 obtain ⟨c00, c01, _, _⟩ := cells2 B0
 have hz' := Lib.hid hz
 have he' := Lib.hid (And.intro he he2)
 clear hz he he2 h
 rw [hu0.out] at c00 c01
 go_enter Tryz.func15, Tryz.ntmps15
 go_wp2_with fail
 rw [← hu0.out] at c00 c01
 rw [← hu0.out]
 refine (DI' _).mono ?_
 rintro en w1 ⟨v1, rfl, r1, f1⟩
 obtain ⟨A1, l1, c1, rfl, _, _⟩ := r1.slice
 clear c00 c01
 obtain ⟨na, hna⟩ : ∃ n, decide (z < 0) = n := ⟨_, rfl⟩
 have RD1 : RD w1 (.agg #[.bool na, .slice A1 l1 c1, .int .i64 e]) z e := ⟨_, by rw [hna], r1⟩
 rw [hna]
 clear hna r1
 go_wp2_with fail
 refine (sp_DFrac _ z e _ RD1 he'.out.1 he'.out.2 hz'.out).mono ?_
 rintro en w2 ⟨r, rfl, hr, f2⟩
 obtain ⟨v2, u2, rfl, r2, q2⟩ := hr
 obtain ⟨A2, l2, c2, rfl, _, _⟩ := r2.slice
 obtain ⟨A3, l3, c3, rfl, _, _⟩ := q2.slice
 obtain ⟨bb, hbb⟩ : ∃ bb, Hid (decide (frN z e < 0) = bb) := ⟨_, rfl⟩
 rw [hbb.out]
 have F2 := f1.trans' f2
 all_goals
  have DR := F2.kp B1
  obtain ⟨k0, k1, k2, kf0, kf1, kf2⟩ := cells3 DR
  have fE : Fr (fun k => k = w.heap.size + 1) w2 (((w2.setCell ⟨w.heap.size + 1, 0, none⟩ (.bool bb)).setCell ⟨w.heap.size + 1, 1, none⟩ (.slice A2 l2 c2)).setCell ⟨w.heap.size + 1, 2, none⟩ (.slice A3 l3 c3)) := (((Fr.set _ _ _ _).trans' (Fr.set _ _ _ _)).trans' (Fr.set _ _ _ _))
  have r2' := r2.beside DR (fun j z e => nocell_fr j z e) fE
  have q2' := q2.beside DR (fun j z e => nocell_fr j z e) fE
  have hsz := hA.size
  have hFE := (hA.trans' F2).trans fE (fun i hi e => by omega)
  have HV := Lib.hid (And.intro r2' (And.intro q2' hFE))
  clear fE hFE DR r2' q2' B0 B1 r2 q2 RD1
  go_wp2
  exact bodyPost_ret (v := .agg #[.bool bb, .slice A2 l2 c2, .slice A3 l3 c3]) (by simp [results, Tryz.results15, go_sem, k0, k1, k2]) rfl ⟨_, rfl, ⟨_, _, by rw [hbb.out], HV.out.1, HV.out.2.1⟩, HV.out.2.2⟩
theorem RW.nat {w : World} {v : Value} {n : Nat} (h : RN w v n) : RW w (.agg #[.bool false, v]) (n : Int) := ⟨v, by rw [decide_eq_false (by omega)], by rw [Int.natAbs_natCast]; exact h⟩
theorem lim_mul2 {a b : Nat} (ha : a < LIM 20000) (hb : b < LIM 20000) : a * b < LIM 40000 := lim_times 20000 20000 a b ha hb
theorem lim_le {a : Nat} (h : a < LIM 20000) : a < LIM 40000 := Nat.lt_of_lt_of_le h (lim_mono _ _ (by omega))
theorem tmod2 (n : Nat) : ((n : Int).tmod 2 == 1) = (n % 2 == 1) := by
 rw [show (n : Int).tmod 2 = ((n % 2 : Nat) : Int) from rfl]
 rcases Nat.mod_two_eq_zero_or_one n with e | e <;> rw [e] <;> rfl
set_option maxRecDepth 100000 in
set_option maxHeartbeats 4000000 in
theorem sp_FPow (x : Value) (a : Int) (b n : Nat) (w : World) (hx : RF w x a b) (hn : n ≤ 100000) (ha : ∀ j, j ≤ n → a.natAbs ^ j < LIM 40000) (hb : ∀ j, j ≤ n → b ^ j < LIM 40000) :
  Calls Tryz.prog 10 #[x, .int .i64 n] w fun en w' => ∃ r, en = .returned r ∧ RF w' r (a ^ n) (b ^ n) ∧ Fr NoS w w' := by
 obtain ⟨va, vb, rfl, h1, h2⟩ := hx
 obtain ⟨A1, l1, c1, rfl, _, _⟩ := h1.slice
 obtain ⟨A2, l2, c2, rfl, _, _⟩ := h2.slice
 rw [ipow_sg a n]
 have hmod := tmod2 n
 obtain ⟨na, hna⟩ : ∃ n, decide (a < 0) = n := ⟨_, rfl⟩
 obtain ⟨od, hod⟩ : ∃ o, (n % 2 == 1) = o := ⟨_, rfl⟩
 rw [hna, hod]
 rw [hod] at hmod
 clear hna hod
 obtain ⟨u0, hu0⟩ : ∃ u0 : World, Hid (u0 = ((w.alloc (.cells #[.bool na, .slice A1 l1 c1, .slice A2 l2 c2] TFr (0, 0))).alloc (.cells #[.bool false, .slice none 0 0, .slice none 0 0] TFr (0, 0)))) := ⟨_, Lib.hid rfl⟩
 have hA : Fr NoS w u0 := by rw [hu0.out]; exact ((Fr.refl NoS w).alloc _).alloc _
 have B0 : u0.heap[w.heap.size]? = some (.cells #[.bool na, .slice A1 l1 c1, .slice A2 l2 c2] TFr (0, 0)) := by rw [hu0.out, old1 (by simp), new1 (by simp)]
 have B1 : u0.heap[w.heap.size + 1]? = some (.cells #[.bool false, .slice none 0 0, .slice none 0 0] TFr (0, 0)) := by rw [hu0.out, new1 (by simp)]
 obtain ⟨c00, c01, c02, _, _, _⟩ := cells3 B0
 have PA := sp_NatPow (.slice A1 l1 c1) a.natAbs n u0.drew (h1.fr (hA.trans' (Fr.refl NoS u0).drew)) hn ha
 have PB := fun W (f : Fr NoS u0 W) => sp_NatPow (.slice A2 l2 c2) b n W (h2.fr (hA.trans' f)) hn hb
 have n1 : w.heap.size ≠ w.heap.size + 1 := by omega
 obtain ⟨N, hN⟩ : ∃ N : Int, (n : Int) = N := ⟨_, rfl⟩
 rw [hN] at PA PB hmod ⊢
 clear hN hn ha hb h1 h2
 obtain ⟨X, hX⟩ : ∃ X, a.natAbs ^ n = X := ⟨_, rfl⟩
 obtain ⟨Y, hY⟩ : ∃ Y, b ^ n = Y := ⟨_, rfl⟩
 rw [hX] at PA ⊢
 rw [hY] at PB ⊢
 clear hX hY
 rw [hu0.out] at c00 c01 c02
 cases na with
 | false =>
  go_enter Tryz.func10, Tryz.ntmps10
  go_wp2_with fail
  rw [← hu0.out] at c00 c01 c02
  rw [← hu0.out]
  refine wp_region_held_drew (S := (fun w' => w'.cell? ⟨w.heap.size, 0, none⟩ = some (.bool false) ∧ w'.cell? ⟨w.heap.size, 1, none⟩ = some (.slice A1 l1 c1) ∧ w'.cell? ⟨w.heap.size, 2, none⟩ = some (.slice A2 l2 c2))) (by kernel_rfl) ⟨c00, c01, c02⟩ (fun hHeld => ?_)
  refine tkA 0 ?_
  try simp only [Act.put, zA, zB, zC, zD, zE, zF]
  refine tkA 1 ?_
  try simp only [Act.put, zA, zB, zC, zD, zE, zF]
  refine tkA 2 ?_
  try simp only [Act.put, zA, zB, zC, zD, zE, zF]
  refine tkA 3 ?_
  try simp only [Act.put, zA, zB, zC, zD, zE, zF]
  refine tkB 4 ?_
  try simp only [Act.put, zA, zB, zC, zD, zE, zF]
  refine tkB 5 ?_
  try simp only [Act.put, zA, zB, zC, zD, zE, zF]
  refine tkB 6 ?_
  try simp only [Act.put, zA, zB, zC, zD, zE, zF]
  refine tkA 7 ?_
  try simp only [Act.put, zA, zB, zC, zD, zE, zF]
  refine tkA 8 ?_
  try simp only [Act.put, zA, zB, zC, zD, zE, zF]
  refine tkA 9 ?_
  try simp only [Act.put, zA, zB, zC, zD, zE, zF]
  refine tkA 10 ?_
  try simp only [Act.put, zA, zB, zC, zD, zE, zF]
  refine tkA 11 ?_
  try simp only [Act.put, zA, zB, zC, zD, zE, zF]
  refine tkA 14 ?_
  try simp only [Act.put, zA, zB, zC, zD, zE, zF]
  refine tkA 15 ?_
  try simp only [Act.put, zA, zB, zC, zD, zE, zF]
  refine tkA 16 ?_
  try simp only [Act.put, zA, zB, zC, zD, zE, zF]
  refine wpAnyH_ready (rs := [12]) (by kernel_rfl) (by simp) ?_
  refine AllReadyH.cons rfl (fun K hK => ?_) AllReadyH.nil
  go_simp
  (with_reducible refine (PA).mono ?_); rintro en w1 ⟨v1, rfl, r1, f1⟩; have F1 : Fr NoS u0 w1 := (Fr.refl NoS u0).drew.trans' f1; clear c00 c01 c02; obtain ⟨c00, c01, c02, _, _, _⟩ := cells3 (F1.kp B0); obtain ⟨A3, l3, c3, rfl, _, _⟩ := r1.slice
  refine hK.out _ _ ⟨c00, c01, c02⟩ (fun hHeld => ?_)
  clear hK K
  try simp only [Act.put, zA, zB, zC, zD, zE, zF]
  refine wpAnyH_ready (rs := [13]) (by kernel_rfl) (by simp) ?_
  refine AllReadyH.cons rfl (fun K hK => ?_) AllReadyH.nil
  go_simp
  (with_reducible refine (sp_wholeOf false _ _ w1 r1).mono ?_); rintro en w2 ⟨v2, rfl, r2, f2⟩; have F2 : Fr NoS u0 w2 := F1.trans' f2; clear c00 c01 c02; obtain ⟨c00, c01, c02, _, _, _⟩ := cells3 (F2.kp B0); obtain ⟨vr, rfl, r2'⟩ := r2; obtain ⟨A4, l4, c4, rfl, _, _⟩ := r2'.slice; obtain ⟨bb, hbb⟩ : ∃ bb, Hid (decide (sg false X < 0) = bb) := ⟨_, rfl⟩; rw [hbb.out]
  refine hK.out _ _ ⟨c00, c01, c02⟩ (fun hHeld => ?_)
  clear hK K
  try simp only [Act.put, zA, zB, zC, zD, zE, zF]
  refine wpAnyH_ready (rs := [17]) (by kernel_rfl) (by simp) ?_
  refine AllReadyH.cons rfl (fun K hK => ?_) AllReadyH.nil
  go_simp
  (with_reducible refine (PB w2 F2).mono ?_); rintro en w3 ⟨v3, rfl, r3, f3⟩; have F3 : Fr NoS u0 w3 := F2.trans' f3; replace r2' := r2'.fr f3; clear c00 c01 c02; obtain ⟨c00, c01, c02, _, _, _⟩ := cells3 (F3.kp B0); obtain ⟨A5, l5, c5, rfl, _, _⟩ := r3.slice; have DR := F3.kp B1; obtain ⟨k0, k1, k2, kf0, kf1, kf2⟩ := cells3 DR
  refine hK.out _ _ ⟨c00, c01, c02⟩ (fun hHeld => ?_)
  clear hK K
  try simp only [Act.put, zA, zB, zC, zD, zE, zF]
  refine tkA 18 ?_
  try simp only [Act.put, zA, zB, zC, zD, zE, zF]
  refine wpAnyH_ready (rs := [19]) (by kernel_rfl) (by simp) ?_
  refine AllReadyH.cons rfl (fun K hK => ?_) AllReadyH.nil
  go_simp
  refine hK.out _ _ (by go_keep) (fun hHeld => ?_)
  clear hK K
  try simp only [Act.put, zA, zB, zC, zD, zE, zF]
  refine wpAnyH_done (by kernel_rfl) ?_ _
  all_goals
   have fE : Fr (fun k => k = w.heap.size + 1) w3 (((w3.setCell ⟨w.heap.size + 1, 0, none⟩ (.bool bb)).setCell ⟨w.heap.size + 1, 1, none⟩ (.slice A4 l4 c4)).setCell ⟨w.heap.size + 1, 2, none⟩ (.slice A5 l5 c5)) := (((Fr.set _ _ _ _).trans' (Fr.set _ _ _ _)).trans' (Fr.set _ _ _ _))
   have r2'' := r2'.beside DR (fun j z e => nocell_fr j z e) fE
   have r3' := r3.beside DR (fun j z e => nocell_fr j z e) fE
   have hsz := hA.size
   have hFE := (hA.trans' F3).trans fE (fun i hi e => by omega)
   have HV := Lib.hid (And.intro r2'' (And.intro r3' hFE))
   clear fE hFE DR r2'' r3' c00 c01 c02 PA PB B0 B1 r1 r2' r3
   go_wp2
   exact bodyPost_ret (v := .agg #[.bool bb, .slice A4 l4 c4, .slice A5 l5 c5]) (by simp [results, Tryz.results10, go_sem, k0, k1, k2]) rfl ⟨_, rfl, ⟨_, _, by rw [← hbb.out]; rfl, HV.out.1, HV.out.2.1⟩, HV.out.2.2⟩
 | true =>
  go_enter Tryz.func10, Tryz.ntmps10
  go_wp2_with fail
  rw [← hu0.out] at c00 c01 c02
  rw [← hu0.out]
  go_region_held3 (fun w' => w'.cell? ⟨w.heap.size, 0, none⟩ = some (.bool true) ∧ w'.cell? ⟨w.heap.size, 1, none⟩ = some (.slice A1 l1 c1) ∧ w'.cell? ⟨w.heap.size, 2, none⟩ = some (.slice A2 l2 c2)) (go_keep) (first | (go_at_call 26; (with_reducible refine (PA).mono ?_); rintro en w1 ⟨v1, rfl, r1, f1⟩; have F1 : Fr NoS u0 w1 := (Fr.refl NoS u0).drew.trans' f1; clear c00 c01 c02; obtain ⟨c00, c01, c02, _, _, _⟩ := cells3 (F1.kp B0); obtain ⟨A3, l3, c3, rfl, _, _⟩ := r1.slice) | (go_at_call 25; (with_reducible refine (sp_wholeOf od _ _ w1 r1).mono ?_); rintro en w2 ⟨v2, rfl, r2, f2⟩; have F2 : Fr NoS u0 w2 := F1.trans' f2; clear c00 c01 c02; obtain ⟨c00, c01, c02, _, _, _⟩ := cells3 (F2.kp B0); obtain ⟨vr, rfl, r2'⟩ := r2; obtain ⟨A4, l4, c4, rfl, _, _⟩ := r2'.slice; obtain ⟨bb, hbb⟩ : ∃ bb, Hid (decide (sg od X < 0) = bb) := ⟨_, rfl⟩; rw [hbb.out]) | (go_at_call 26; (with_reducible refine (PB w2 F2).mono ?_); rintro en w3 ⟨v3, rfl, r3, f3⟩; have F3 : Fr NoS u0 w3 := F2.trans' f3; replace r2' := r2'.fr f3; clear c00 c01 c02; obtain ⟨c00, c01, c02, _, _, _⟩ := cells3 (F3.kp B0); obtain ⟨A5, l5, c5, rfl, _, _⟩ := r3.slice; have DR := F3.kp B1; obtain ⟨k0, k1, k2, kf0, kf1, kf2⟩ := cells3 DR))
  all_goals
   have fE : Fr (fun k => k = w.heap.size + 1) w3 (((w3.setCell ⟨w.heap.size + 1, 0, none⟩ (.bool bb)).setCell ⟨w.heap.size + 1, 1, none⟩ (.slice A4 l4 c4)).setCell ⟨w.heap.size + 1, 2, none⟩ (.slice A5 l5 c5)) := (((Fr.set _ _ _ _).trans' (Fr.set _ _ _ _)).trans' (Fr.set _ _ _ _))
   have r2'' := r2'.beside DR (fun j z e => nocell_fr j z e) fE
   have r3' := r3.beside DR (fun j z e => nocell_fr j z e) fE
   have hsz := hA.size
   have hFE := (hA.trans' F3).trans fE (fun i hi e => by omega)
   have HV := Lib.hid (And.intro r2'' (And.intro r3' hFE))
   clear fE hFE DR r2'' r3' c00 c01 c02 PA PB B0 B1 r1 r2' r3
   go_wp2
   exact bodyPost_ret (v := .agg #[.bool bb, .slice A4 l4 c4, .slice A5 l5 c5]) (by simp [results, Tryz.results10, go_sem, k0, k1, k2]) rfl ⟨_, rfl, ⟨_, _, by rw [← hbb.out]; rfl, HV.out.1, HV.out.2.1⟩, HV.out.2.2⟩
set_option maxRecDepth 100000 in
set_option maxHeartbeats 4000000 in
theorem sp_FCmp (x y : Value) (a c : Int) (b d : Nat) (w : World) (hx : RF w x a b) (hy : RF w y c d) (ha : a.natAbs < LIM 20000) (hb : b < LIM 20000) (hc : c.natAbs < LIM 20000) (hd : d < LIM 20000) :
  Calls Tryz.prog 24 #[x, y] w fun en w' => en = .returned (.int .i64 (cmpi (a * d) (c * b))) ∧ Fr NoS w w' := by
 obtain ⟨va, vb, rfl, h1, h2⟩ := hx
 obtain ⟨vc, vd, rfl, h3, h4⟩ := hy
 obtain ⟨A1, l1, c1, rfl, _, _⟩ := h1.slice
 obtain ⟨A2, l2, c2, rfl, _, _⟩ := h2.slice
 obtain ⟨A3, l3, c3, rfl, _, _⟩ := h3.slice
 obtain ⟨A4, l4, c4, rfl, _, _⟩ := h4.slice
 have M1 := fun W (f : Fr NoS w W) => sp_WMul (.agg #[.bool (decide (a < 0)), .slice A1 l1 c1]) (.agg #[.bool false, .slice A4 l4 c4]) a d W ⟨_, rfl, h1.fr f⟩ (RW.nat (h4.fr f)) (lim_le ha) (by rw [Int.natAbs_natCast]; exact lim_le hd)
 have M2 := fun W (f : Fr NoS w W) => sp_WMul (.agg #[.bool (decide (c < 0)), .slice A3 l3 c3]) (.agg #[.bool false, .slice A2 l2 c2]) c b W ⟨_, rfl, h3.fr f⟩ (RW.nat (h2.fr f)) (lim_le hc) (by rw [Int.natAbs_natCast]; exact lim_le hb)
 have L1 : (a * (d : Int)).natAbs < LIM 40000 := by rw [Int.natAbs_mul, Int.natAbs_natCast]; exact lim_mul2 ha hd
 have L2 : (c * (b : Int)).natAbs < LIM 40000 := by rw [Int.natAbs_mul, Int.natAbs_natCast]; exact lim_mul2 hc hb
 obtain ⟨na, hna⟩ : ∃ n, decide (a < 0) = n := ⟨_, rfl⟩
 obtain ⟨nb, hnb⟩ : ∃ n, decide (c < 0) = n := ⟨_, rfl⟩
 rw [hna] at M1 ⊢
 rw [hnb] at M2 ⊢
 clear hna hnb h1 h2 h3 h4 ha hb hc hd
 generalize a * (d : Int) = X at M1 L1 ⊢
 generalize c * (b : Int) = Y at M2 L2 ⊢
 have LL1 := Lib.hid L1
 have LL2 := Lib.hid L2
 clear L1 L2
 obtain ⟨C, hC⟩ : ∃ C, Hid (cmpi X Y = C) := ⟨_, rfl⟩
 rw [hC.out]
 obtain ⟨u0, hu0⟩ : ∃ u0 : World, Hid (u0 = ((w.alloc (.cells #[.bool na, .slice A1 l1 c1, .slice A2 l2 c2] TFr (0, 0))).alloc (.cells #[.bool nb, .slice A3 l3 c3, .slice A4 l4 c4] TFr (0, 0)))) := ⟨_, Lib.hid rfl⟩
 have hA : Fr NoS w u0 := by rw [hu0.out]; exact ((Fr.refl NoS w).alloc _).alloc _
 have B0 : u0.heap[w.heap.size]? = some (.cells #[.bool na, .slice A1 l1 c1, .slice A2 l2 c2] TFr (0, 0)) := by rw [hu0.out, old1 (by simp), new1 (by simp)]
 have B1 : u0.heap[w.heap.size + 1]? = some (.cells #[.bool nb, .slice A3 l3 c3, .slice A4 l4 c4] TFr (0, 0)) := by rw [hu0.out, new1 (by simp)]
 obtain ⟨c00, c01, c02, _, _, _⟩ := cells3 B0
 obtain ⟨c10, c11, c12, _, _, _⟩ := cells3 B1
 have n1 : w.heap.size ≠ w.heap.size + 1 := by omega
 rw [hu0.out] at c00 c01 c02 c10 c11 c12
 go_enter Tryz.func24, Tryz.ntmps24
 go_wp2_with fail
 rw [← hu0.out] at c00 c01 c02 c10 c11 c12
 rw [← hu0.out]
 go_region_held3 (fun w' => w'.cell? ⟨w.heap.size, 0, none⟩ = some (.bool na) ∧ w'.cell? ⟨w.heap.size, 1, none⟩ = some (.slice A1 l1 c1) ∧ w'.cell? ⟨w.heap.size, 2, none⟩ = some (.slice A2 l2 c2) ∧ w'.cell? ⟨w.heap.size + 1, 0, none⟩ = some (.bool nb) ∧ w'.cell? ⟨w.heap.size + 1, 1, none⟩ = some (.slice A3 l3 c3) ∧ w'.cell? ⟨w.heap.size + 1, 2, none⟩ = some (.slice A4 l4 c4)) (go_keep) (first | (go_at_call 44; (with_reducible refine (M1 u0.drew (hA.trans' (Fr.refl NoS u0).drew)).mono ?_); rintro en w1 ⟨v1, rfl, r1, f1⟩; have F1 : Fr NoS u0 w1 := (Fr.refl NoS u0).drew.trans' f1; clear c00 c01 c02; obtain ⟨c00, c01, c02, _, _, _⟩ := cells3 (F1.kp B0); clear c10 c11 c12; obtain ⟨c10, c11, c12, _, _, _⟩ := cells3 (F1.kp B1)) | (go_at_call 44; (with_reducible refine (M2 w1 (hA.trans' F1)).mono ?_); rintro en w2 ⟨v2, rfl, r2, f2⟩; have F2 : Fr NoS u0 w2 := F1.trans' f2; replace r1 := r1.fr f2; clear c00 c01 c02; obtain ⟨c00, c01, c02, _, _, _⟩ := cells3 (F2.kp B0); clear c10 c11 c12; obtain ⟨c10, c11, c12, _, _, _⟩ := cells3 (F2.kp B1)) | (go_at_call 40; (with_reducible refine (sp_WCmp _ _ X Y w2 r1 r2 LL1.out LL2.out).mono ?_); rintro en w3 ⟨rfl, f3⟩; have F3 : Fr NoS u0 w3 := F2.trans' f3; clear c00 c01 c02; obtain ⟨c00, c01, c02, _, _, _⟩ := cells3 (F3.kp B0); clear c10 c11 c12; obtain ⟨c10, c11, c12, _, _, _⟩ := cells3 (F3.kp B1); rw [hC.out]))
 all_goals
  have HF := hA.trans' F3
  clear c00 c01 c02 c10 c11 c12 M1 M2 B0 B1 r1 r2
  go_wp2
  go_ret
  exact ⟨rfl, HF⟩
theorem lim_dbl {a : Nat} (h : a < LIM 20000) : a + a < LIM 40000 := by
 have h2 := lim_mul2 h (show 2 < LIM 20000 from Nat.lt_of_le_of_lt (by omega) (lim_big 20000 (by omega)))
 omega
set_option maxRecDepth 100000 in
set_option maxHeartbeats 1500000 in
theorem sp_rounds (neg odd : Bool) (h : Int) (w : World) :
  Calls Tryz.prog 47 #[.int .i64 4, .bool neg, .int .i64 h, .bool odd] w fun en w' => en = .returned (.bool (decide (0 ≤ h))) ∧ w = w' := by
 go_enter Tryz.func47, Tryz.ntmps47
 go_wp2
 go_ret
 exact ⟨rfl, rfl⟩
theorem half_up (r D : Nat) : decide (0 ≤ cmp3 (r + r) D) = !(decide (2 * r < D)) := by
 unfold cmp3
 by_cases h : 2 * r < D
 ·rw [if_pos (by omega), decide_eq_true h]; rfl
 ·rw [if_neg (by omega), decide_eq_false h]
  split <;> rfl
theorem rnd_cases (M D : Nat) : rnd M D = if 2 * (M % D) < D then M / D else M / D + 1 := rfl
theorem nocell_sd (j : Nat) (z : Int) (h : (#[.bool false, .slice none 0 0, .int .i64 0] : Array Value)[j]? = some (.int .u32 z)) : False := by
 rcases j with _ | _ | _ | j
 ·simp at h
 ·simp at h
 ·simp at h
 ·simp at h
theorem RN.limb {w : World} {A : Option Addr} {l c n : Nat} (h : RN w (.slice A l c) n) (hn : 0 < n) : ∃ ad, A = some ad ∧ w.cell? ad = some (.int .u32 ((n % 1000000000 : Nat) : Int)) := by
 obtain ⟨A', c', e, hl, hC⟩ := h
 cases e
 obtain ⟨h1, h2, h3⟩ := Kd.reads_of_C (d := 0) hC
 have hp := len_pos hn
 obtain ⟨ad, e, hr⟩ := h3 (by omega)
 refine ⟨ad, e, ?_⟩
 have := hr 0 hp
 rw [limbs_pos (by omega)] at this
 simpa [Addr.add] using this
theorem lim_mul1 {a b : Nat} (ha : a < LIM 10000) (hb : b < LIM 10000) : a * b < LIM 20000 := lim_times 10000 10000 a b ha hb
theorem lim_up1 {a : Nat} (h : a < LIM 10000) : a < LIM 40000 := Nat.lt_of_lt_of_le h (lim_mono _ _ (by omega))
theorem lim_pow1 (k : Nat) (h : k ≤ 9000) : 10 ^ k < LIM 10000 := pow_lim _ _ (by omega)
theorem one_lim1 : 1 < LIM 40000 := Nat.lt_of_le_of_lt (by omega) (lim_big 40000 (by omega))
set_option maxRecDepth 100000 in
set_option maxHeartbeats 1500000 in
theorem sp_Round (x : Value) (a : Int) (b : Nat) (p : Int) (w : World) (hx : RF w x a b) (hb : 0 < b) (hp1 : -9000 ≤ p) (hp2 : p ≤ 9000) (ha : a.natAbs < LIM 10000) (hbl : b < LIM 10000) :
  Calls Tryz.prog 27 #[x, .int .i64 p, .int .i64 4] w fun en w' => ∃ r, en = .returned r ∧ RD w' r (rdv a b p) (-p) ∧ Fr NoS w w' := by
 obtain ⟨va, vb, rfl, h1, h2⟩ := hx
 obtain ⟨A1, l1, c1, rfl, _, _⟩ := h1.slice
 obtain ⟨A2, l2, c2, rfl, _, _⟩ := h2.slice
 obtain ⟨n, hn⟩ : ∃ n, a.natAbs = n := ⟨_, rfl⟩
 unfold rdv
 rw [hn] at h1 ha ⊢
 obtain ⟨na, hna⟩ : ∃ n, decide (a < 0) = n := ⟨_, rfl⟩
 rw [hna]
 clear hna hn
 obtain ⟨M, hM⟩ : ∃ M : Nat, Hid (M = n * 10 ^ p.toNat) := ⟨_, Lib.hid rfl⟩
 obtain ⟨D, hD⟩ : ∃ D : Nat, Hid (D = b * 10 ^ (-p).toNat) := ⟨_, Lib.hid rfl⟩
 rw [← hM.out, ← hD.out]
 have hML : Hid (M < LIM 20000) := by
  show _ < _; rw [hM.out]; exact lim_mul1 ha (lim_pow1 _ (by omega))
 have hDL : Hid (D < LIM 20000) := by
  show _ < _; rw [hD.out]; exact lim_mul1 hbl (lim_pow1 _ (by omega))
 have hD0 : Hid (0 < D) := by show _ < _; rw [hD.out]; exact Nat.mul_pos hb (ten_pos _)
 have hbl' := Lib.hid (And.intro ha hbl)
 clear ha hbl hb
 obtain ⟨X, hX⟩ : ∃ X, Hid (rnd M D = X) := ⟨_, Lib.hid rfl⟩
 rw [hX.out]
 obtain ⟨u0, hu0⟩ : ∃ u0 : World, Hid (u0 = ((w.alloc (.cells #[.bool na, .slice A1 l1 c1, .slice A2 l2 c2] TFr (0, 0))).alloc (.cells #[.bool false, .slice none 0 0, .int .i64 0] TSd (0, 0)))) := ⟨_, Lib.hid rfl⟩
 have hA : Fr NoS w u0 := by rw [hu0.out]; exact ((Fr.refl NoS w).alloc _).alloc _
 have B0 : u0.heap[w.heap.size]? = some (.cells #[.bool na, .slice A1 l1 c1, .slice A2 l2 c2] TFr (0, 0)) := by rw [hu0.out, old1 (by simp), new1 (by simp)]
 have B1 : u0.heap[w.heap.size + 1]? = some (.cells #[.bool false, .slice none 0 0, .int .i64 0] TSd (0, 0)) := by rw [hu0.out, new1 (by simp)]
 obtain ⟨c00, c01, c02, _, _, _⟩ := cells3 B0
 have n1 : w.heap.size ≠ w.heap.size + 1 := by omega
 have w64 : IntKind.i64.wrap (-p) = -p := IntWalk.i64_in _ (by omega)
 replace h1 := h1.fr hA
 replace h2 := h2.fr hA
 rw [hu0.out] at c00 c01 c02
 go_enter Tryz.func27, Tryz.ntmps27
 go_wp2_with fail
 rw [← hu0.out] at c00 c01 c02
 rw [← hu0.out]
 refine wp_region_held_drew (S := (fun w' => w'.cell? ⟨w.heap.size, 0, none⟩ = some (.bool na) ∧ w'.cell? ⟨w.heap.size, 1, none⟩ = some (.slice A1 l1 c1) ∧ w'.cell? ⟨w.heap.size, 2, none⟩ = some (.slice A2 l2 c2))) (by kernel_rfl) ⟨c00, c01, c02⟩ (fun hHeld => ?_)
 refine tkA 0 ?_
 try simp only [Act.put, zA, zB, zC, zD, zE, zF]
 refine tkA 1 ?_
 try simp only [Act.put, zA, zB, zC, zD, zE, zF]
 refine tkA 2 ?_
 try simp only [Act.put, zA, zB, zC, zD, zE, zF]
 refine tkA 3 ?_
 try simp only [Act.put, zA, zB, zC, zD, zE, zF]
 refine tkA 4 ?_
 try simp only [Act.put, zA, zB, zC, zD, zE, zF]
 refine tkA 5 ?_
 try simp only [Act.put, zA, zB, zC, zD, zE, zF]
 refine tkA 6 ?_
 try simp only [Act.put, zA, zB, zC, zD, zE, zF]
 refine wpAnyH_done (by kernel_rfl) ?_ _
 obtain ⟨u2, hu2⟩ : ∃ u2 : World, Hid (u2 = u0.drew) := ⟨_, Lib.hid rfl⟩
 rw [← hu2.out]
 have f02 : Fr NoS u0 u2 := by rw [hu2.out]; exact (Fr.refl NoS u0).drew
 replace h1 := h1.fr f02
 replace h2 := h2.fr f02
 rcases Int.lt_or_le p 0 with hp0 | hp0
 case' inl =>
  have d0 : decide (0 ≤ p) = false := decide_eq_false (by omega)
  obtain ⟨k, hk⟩ : ∃ k : Nat, -p = (k : Int) := ⟨(-p).toNat, by omega⟩
  have P10 := fun W => sp_Pow10 k W (by omega)
  rw [← hk] at P10
  have hDk : Hid (D = b * 10 ^ k) := by show _ = _; rw [hD.out, show (-p).toNat = k by omega]
  have hMk : Hid (M = n) := by show _ = _; rw [hM.out, show p.toNat = 0 by omega, Nat.pow_zero, Nat.mul_one]
  have hk' := Lib.hid (show k ≤ 9000 by omega)
  clear hk hp0 hp1 hp2
  go_wp2_with fail
  refine (P10 u2).mono ?_
  rintro en w1 ⟨v1, rfl, r1, f1⟩
  go_wp2_with fail
  refine (sp_NatMul _ _ b (10 ^ k) w1 (h2.fr f1) r1 (lim_up1 hbl'.out.2) (ten_lim _ hk'.out)).mono ?_
  rintro en w2 ⟨v2, rfl, r8, f2⟩
  rw [← hDk.out] at r8
  obtain ⟨A4, l4, c4, rfl, _, _⟩ := r8.slice
  have r7 : RN w2 (.slice A1 l1 c1) M := by rw [hMk.out]; exact h1.fr (f1.trans' f2)
  have F2 : Fr NoS u0 w2 := f02.trans' (f1.trans' f2)
  clear r1 P10 d0
 case' inr =>
  have d0 : decide (0 ≤ p) = true := decide_eq_true hp0
  obtain ⟨k, hk⟩ : ∃ k : Nat, p = (k : Int) := ⟨p.toNat, by omega⟩
  have P10 := fun W => sp_Pow10 k W (by omega)
  rw [← hk] at P10
  have hMk : Hid (M = n * 10 ^ k) := by show _ = _; rw [hM.out, show p.toNat = k by omega]
  have hDk : Hid (D = b) := by show _ = _; rw [hD.out, show (-p).toNat = 0 by omega, Nat.pow_zero, Nat.mul_one]
  have hk' := Lib.hid (show k ≤ 9000 by omega)
  clear hk hp0 hp1 hp2
  go_wp2_with fail
  refine (P10 u2).mono ?_
  rintro en w1 ⟨v1, rfl, r1, f1⟩
  go_wp2_with fail
  refine (sp_NatMul _ _ n (10 ^ k) w1 (h1.fr f1) r1 (lim_up1 hbl'.out.1) (ten_lim _ hk'.out)).mono ?_
  rintro en w2 ⟨v2, rfl, r7, f2⟩
  rw [← hMk.out] at r7
  obtain ⟨A4, l4, c4, rfl, _, _⟩ := r7.slice
  have r8 : RN w2 (.slice A2 l2 c2) D := by rw [hDk.out]; exact h2.fr (f1.trans' f2)
  have F2 : Fr NoS u0 w2 := f02.trans' (f1.trans' f2)
  clear r1 P10 d0
 all_goals
  clear c00 c01 c02 h1 h2 hMk hDk
  go_wp2_with fail
  refine (sp_NatDiv _ _ M D w2 r7 r8 hD0.out (lim_le hML.out)).mono ?_
  rintro en w3 ⟨vq, vr, rfl, rq, rr, f3⟩
  replace r8 := r8.fr f3
  have F3 := F2.trans' f3
  obtain ⟨Aq, lq, cq, rfl, hlq, _⟩ := rq.slice
  obtain ⟨Ar, lr, cr, rfl, hlr, _⟩ := rr.slice
  obtain ⟨c00, c01, c02, _, _, _⟩ := cells3 (F3.kp B0)
  have hQL : Hid (M / D < LIM 20000) := Nat.lt_of_le_of_lt (Nat.div_le_self _ _) hML.out
  have hRL : Hid (M % D < LIM 20000) := Nat.lt_of_le_of_lt (Nat.mod_le _ _) hML.out
  have hrn : Hid (X = if 2 * (M % D) < D then M / D else M / D + 1) := by show _ = _; rw [← hX.out]; exact rnd_cases M D
  obtain ⟨Q, hQ⟩ : ∃ Q, M / D = Q := ⟨_, rfl⟩
  obtain ⟨R, hR⟩ : ∃ R, M % D = R := ⟨_, rfl⟩
  rw [hQ, hR] at hrn
  rw [hQ] at rq hlq hQL
  rw [hR] at rr hlr hRL
  clear hQ hR r7 F2 f3
  rcases Nat.eq_zero_or_pos R with hR0 | hR0
  ·have e1 : decide ((0 : Int) < (lr : Int)) = false := decide_eq_false (by have := hlr.2 hR0; omega)
   have e1' : decide (0 < lr) = false := decide_eq_false (by have := hlr.2 hR0; omega)
   have hXQ : X = Q := by rw [hrn.out, hR0, if_pos (by have := hD0.out; omega)]
   clear hlr hlq
   go_wp2_with fail
   refine wp_region_held_drew (S := (fun w' => w'.cell? ⟨w.heap.size, 0, none⟩ = some (.bool na) ∧ w'.cell? ⟨w.heap.size, 1, none⟩ = some (.slice A1 l1 c1) ∧ w'.cell? ⟨w.heap.size, 2, none⟩ = some (.slice A2 l2 c2))) (by kernel_rfl) ⟨c00, c01, c02⟩ (fun hHeld => ?_)
   refine tkA 0 ?_
   try simp only [Act.put, zA, zB, zC, zD, zE, zF]
   refine tkA 1 ?_
   try simp only [Act.put, zA, zB, zC, zD, zE, zF]
   refine tkA 2 ?_
   try simp only [Act.put, zA, zB, zC, zD, zE, zF]
   refine tkA 3 ?_
   try simp only [Act.put, zA, zB, zC, zD, zE, zF]
   refine tkB 4 ?_
   try simp only [Act.put, zA, zB, zC, zD, zE, zF]
   refine tkB 5 ?_
   try simp only [Act.put, zA, zB, zC, zD, zE, zF]
   refine tkB 6 ?_
   try simp only [Act.put, zA, zB, zC, zD, zE, zF]
   refine tkB 7 ?_
   try simp only [Act.put, zA, zB, zC, zD, zE, zF]
   refine tkB 8 ?_
   try simp only [Act.put, zA, zB, zC, zD, zE, zF]
   refine tkB 9 ?_
   try simp only [Act.put, zA, zB, zC, zD, zE, zF]
   refine tkB 11 ?_
   try simp only [Act.put, zA, zB, zC, zD, zE, zF]
   refine tkB 13 ?_
   try simp only [Act.put, zA, zB, zC, zD, zE, zF]
   refine tkB 14 ?_
   try simp only [Act.put, zA, zB, zC, zD, zE, zF]
   refine tkB 15 ?_
   try simp only [Act.put, zA, zB, zC, zD, zE, zF]
   refine wpAnyH_ready (rs := [10]) (by kernel_rfl) (by simp) ?_
   refine AllReadyH.cons rfl (fun K hK => ?_) AllReadyH.nil
   go_simp
   refine hK.out _ _ ⟨c00, c01, c02⟩ (fun hHeld => ?_)
   clear hK K
   try simp only [Act.put, zA, zB, zC, zD, zE, zF]
   refine wpAnyH_ready (rs := [12]) (by kernel_rfl) (by simp) ?_
   refine AllReadyH.cons rfl (fun K hK => ?_) AllReadyH.nil
   go_simp
   refine hK.out _ _ ⟨c00, c01, c02⟩ (fun hHeld => ?_)
   clear hK K
   try simp only [Act.put, zA, zB, zC, zD, zE, zF]
   refine tkB 16 ?_
   try simp only [Act.put, zA, zB, zC, zD, zE, zF]
   refine tkB 17 ?_
   try simp only [Act.put, zA, zB, zC, zD, zE, zF]
   refine tkB 18 ?_
   try simp only [Act.put, zA, zB, zC, zD, zE, zF]
   refine tkB 19 ?_
   try simp only [Act.put, zA, zB, zC, zD, zE, zF]
   refine tkB 20 ?_
   try simp only [Act.put, zA, zB, zC, zD, zE, zF]
   refine tkB 21 ?_
   try simp only [Act.put, zA, zB, zC, zD, zE, zF]
   refine tkB 22 ?_
   try simp only [Act.put, zA, zB, zC, zD, zE, zF]
   refine wpAnyH_ready (rs := [23]) (by kernel_rfl) (by simp) ?_
   refine AllReadyH.cons rfl (fun K hK => ?_) AllReadyH.nil
   go_simp
   refine hK.out _ _ ⟨c00, c01, c02⟩ (fun hHeld => ?_)
   clear hK K
   try simp only [Act.put, zA, zB, zC, zD, zE, zF]
   refine tkA 24 ?_
   try simp only [Act.put, zA, zB, zC, zD, zE, zF]
   refine wpAnyH_done (by kernel_rfl) ?_ _
   have r9 : RN w3.drew (.slice Aq lq cq) X := by rw [hXQ]; exact rq.fr (Fr.refl NoS w3).drew
   have F5 : Fr NoS u0 w3.drew := F3.drew
   clear rq rr r8 hXQ
   clear c00 c01 c02
   obtain ⟨c00, c01, c02, _, _, _⟩ := cells3 (F5.kp B0)
   go_wp2_with fail
   refine (sp_wholeOf na _ X w3.drew r9).mono ?_
   rintro en w8t ⟨v8t, rfl, r8t, f8t⟩
   obtain ⟨vr8, rfl, r8t'⟩ := r8t
   obtain ⟨A8, l8, c8, rfl, _, _⟩ := r8t'.slice
   obtain ⟨bb, hbb⟩ : ∃ bb, Hid (decide (sg na X < 0) = bb) := ⟨_, rfl⟩
   rw [hbb.out]
   have F8 : Fr NoS u0 w8t := F5.trans' f8t
   have DR := F8.kp B1
   clear c00 c01 c02
   obtain ⟨k0, k1, k2, kf0, kf1, kf2⟩ := cells3 DR
   have fE : Fr (fun k => k = w.heap.size + 1) w8t (((w8t.setCell ⟨w.heap.size + 1, 0, none⟩ (.bool bb)).setCell ⟨w.heap.size + 1, 1, none⟩ (.slice A8 l8 c8)).setCell ⟨w.heap.size + 1, 2, none⟩ (.int .i64 (-p))) := (((Fr.set _ _ _ _).trans' (Fr.set _ _ _ _)).trans' (Fr.set _ _ _ _))
   have hv3 := r8t'.beside DR (fun j z e => nocell_sd j z e) fE
   have hsz := hA.size
   have hFE := (hA.trans' F8).trans fE (fun i hi e => by omega)
   have HV := Lib.hid (And.intro hv3 hFE)
   clear fE hFE DR hv3 r8t' r9 B0 B1
   go_wp2
   exact bodyPost_ret (v := .agg #[.bool bb, .slice A8 l8 c8, .int .i64 (-p)]) (by simp [results, Tryz.results27, go_sem, k0, k1, k2]) rfl ⟨_, rfl, ⟨_, by rw [hbb.out], HV.out.1⟩, HV.out.2⟩
  ·have e1 : decide ((0 : Int) < (lr : Int)) = true := decide_eq_true (by have := hlr.1; omega)
   have e1' : decide (0 < lr) = true := decide_eq_true (by have := hlr.1; omega)
   obtain ⟨B, hB⟩ : ∃ B, Hid (decide (0 ≤ cmp3 (R + R) D) = B) := ⟨_, rfl⟩
   obtain ⟨C, hC⟩ : ∃ C, Hid (cmp3 (R + R) D = C) := ⟨_, rfl⟩
   have hBX : Hid (X = if B = true then Q + 1 else Q) := by
    show _ = _
    rw [hrn.out, ← hB.out, half_up]
    by_cases h : 2 * R < D
    ·rw [if_pos h, decide_eq_true h]; rfl
    ·rw [if_neg h, decide_eq_false h]; rfl
   rw [hC.out] at hB
   have AD := sp_NatAdd (.slice Ar lr cr) (.slice Ar lr cr) R R w3.drew (rr.fr (Fr.refl NoS w3).drew) (rr.fr (Fr.refl NoS w3).drew) (lim_le hRL.out) (lim_le hRL.out)
   clear rr hlr
   rcases Nat.eq_zero_or_pos Q with hQ0 | hQ0
   case' inl =>
    have e2 : decide ((0 : Int) < (lq : Int)) = false := decide_eq_false (by have := hlq.2 hQ0; omega)
    have e2' : decide (0 < lq) = false := decide_eq_false (by have := hlq.2 hQ0; omega)
    clear hlq
    go_wp2_with fail
    refine wp_region_held_drew (S := (fun w' => w'.cell? ⟨w.heap.size, 0, none⟩ = some (.bool na) ∧ w'.cell? ⟨w.heap.size, 1, none⟩ = some (.slice A1 l1 c1) ∧ w'.cell? ⟨w.heap.size, 2, none⟩ = some (.slice A2 l2 c2))) (by kernel_rfl) ⟨c00, c01, c02⟩ (fun hHeld => ?_)
    refine tkA 0 ?_
    try simp only [Act.put, zA, zB, zC, zD, zE, zF]
    refine tkA 1 ?_
    try simp only [Act.put, zA, zB, zC, zD, zE, zF]
    refine tkA 2 ?_
    try simp only [Act.put, zA, zB, zC, zD, zE, zF]
    refine tkA 3 ?_
    try simp only [Act.put, zA, zB, zC, zD, zE, zF]
    refine tkA 4 ?_
    try simp only [Act.put, zA, zB, zC, zD, zE, zF]
    refine tkA 5 ?_
    try simp only [Act.put, zA, zB, zC, zD, zE, zF]
    refine tkA 6 ?_
    try simp only [Act.put, zA, zB, zC, zD, zE, zF]
    refine tkA 7 ?_
    try simp only [Act.put, zA, zB, zC, zD, zE, zF]
    refine tkA 8 ?_
    try simp only [Act.put, zA, zB, zC, zD, zE, zF]
    refine tkA 9 ?_
    try simp only [Act.put, zA, zB, zC, zD, zE, zF]
    refine tkA 11 ?_
    try simp only [Act.put, zA, zB, zC, zD, zE, zF]
    refine tkA 13 ?_
    try simp only [Act.put, zA, zB, zC, zD, zE, zF]
    refine tkA 14 ?_
    try simp only [Act.put, zA, zB, zC, zD, zE, zF]
    refine tkA 15 ?_
    try simp only [Act.put, zA, zB, zC, zD, zE, zF]
    refine wpAnyH_ready (rs := [10]) (by kernel_rfl) (by simp) ?_
    refine AllReadyH.cons rfl (fun K hK => ?_) AllReadyH.nil
    go_simp
    (with_reducible refine AD.mono ?_); rintro en w4 ⟨v4, rfl, r4, f4⟩; have f34 : Fr NoS w3 w4 := (Fr.refl NoS w3).drew.trans' f4; have F4 : Fr NoS u0 w4 := F3.trans' f34; replace r8 := r8.fr f34; replace rq := rq.fr f34; clear c00 c01 c02; obtain ⟨c00, c01, c02, _, _, _⟩ := cells3 (F4.kp B0); obtain ⟨A6, l6, c6, rfl, _, _⟩ := r4.slice; clear f4
    refine hK.out _ _ ⟨c00, c01, c02⟩ (fun hHeld => ?_)
    clear hK K
    try simp only [Act.put, zA, zB, zC, zD, zE, zF]
    refine wpAnyH_ready (rs := [12]) (by kernel_rfl) (by simp) ?_
    refine AllReadyH.cons rfl (fun K hK => ?_) AllReadyH.nil
    go_simp
    (with_reducible refine (sp_NatCmp _ _ (R + R) D w4 r4 r8 (lim_dbl hRL.out)).mono ?_); rintro en w6 ⟨rfl, f6⟩; have F6 : Fr NoS u0 w6 := F4.trans' f6; replace rq := rq.fr f6; clear c00 c01 c02; obtain ⟨c00, c01, c02, _, _, _⟩ := cells3 (F6.kp B0); rw [hC.out]
    refine hK.out _ _ ⟨c00, c01, c02⟩ (fun hHeld => ?_)
    clear hK K
    try simp only [Act.put, zA, zB, zC, zD, zE, zF]
    refine tkA 16 ?_
    try simp only [Act.put, zA, zB, zC, zD, zE, zF]
    refine tkB 17 ?_
    try simp only [Act.put, zA, zB, zC, zD, zE, zF]
    refine tkB 18 ?_
    try simp only [Act.put, zA, zB, zC, zD, zE, zF]
    refine tkB 19 ?_
    try simp only [Act.put, zA, zB, zC, zD, zE, zF]
    refine tkB 20 ?_
    try simp only [Act.put, zA, zB, zC, zD, zE, zF]
    refine tkB 21 ?_
    try simp only [Act.put, zA, zB, zC, zD, zE, zF]
    refine tkA 22 ?_
    try simp only [Act.put, zA, zB, zC, zD, zE, zF]
    refine wpAnyH_ready (rs := [23]) (by kernel_rfl) (by simp) ?_
    refine AllReadyH.cons rfl (fun K hK => ?_) AllReadyH.nil
    go_simp
    (with_reducible refine (sp_rounds na _ C w6).mono ?_); rintro en w7 ⟨rfl, rfl⟩; rw [hB.out]
    refine hK.out _ _ ⟨c00, c01, c02⟩ (fun hHeld => ?_)
    clear hK K
    try simp only [Act.put, zA, zB, zC, zD, zE, zF]
    refine tkA 24 ?_
    try simp only [Act.put, zA, zB, zC, zD, zE, zF]
    refine wpAnyH_done (by kernel_rfl) ?_ _
   case' inr =>
    have e2 : decide ((0 : Int) < (lq : Int)) = true := decide_eq_true (by have := hlq.1; omega)
    have e2' : decide (0 < lq) = true := decide_eq_true (by have := hlq.1; omega)
    have e3 : (0 : Nat) < lq := by have := hlq.1; omega
    have e3' : (0 : Int) < (lq : Int) := by omega
    clear hlq
    obtain ⟨ad, hAq, cL⟩ := rq.limb hQ0
    subst hAq
    go_wp2_with fail
    go_region_held3 (fun w' => w'.cell? ⟨w.heap.size, 0, none⟩ = some (.bool na) ∧ w'.cell? ad = some (.int .u32 ((Q % 1000000000 : Nat) : Int))) (go_keep) (first | (go_at_call 49; (with_reducible refine AD.mono ?_); rintro en w4 ⟨v4, rfl, r4, f4⟩; have f34 : Fr NoS w3 w4 := (Fr.refl NoS w3).drew.trans' f4; have F4 : Fr NoS u0 w4 := F3.trans' f34; replace r8 := r8.fr f34; replace rq := rq.fr f34; clear c00 c01 c02; obtain ⟨c00, c01, c02, _, _, _⟩ := cells3 (F4.kp B0); replace cL := (f34.cell (World.block_lt_of_cell? _ _ cL) (fun x => x)).trans cL; obtain ⟨A6, l6, c6, rfl, _, _⟩ := r4.slice; clear f4) | (go_at_call 48; (with_reducible refine (sp_NatCmp _ _ (R + R) D w4 r4 r8 (lim_dbl hRL.out)).mono ?_); rintro en w6 ⟨rfl, f6⟩; have F6 : Fr NoS u0 w6 := F4.trans' f6; replace rq := rq.fr f6; clear c00 c01 c02; obtain ⟨c00, c01, c02, _, _, _⟩ := cells3 (F6.kp B0); replace cL := (f6.cell (World.block_lt_of_cell? _ _ cL) (fun x => x)).trans cL; rw [hC.out]) | (go_at_call 47; (with_reducible refine (sp_rounds na _ C w6).mono ?_); rintro en w7 ⟨rfl, rfl⟩; rw [hB.out]))
   all_goals
    cases B with
    | true =>
     have hXQ : Hid (X = Q + 1) := by show _ = _; rw [hBX.out, if_pos rfl]
     go_wp2_with fail
     refine (sp_one w6).mono ?_
     rintro en w9 ⟨v9, rfl, r91, f9⟩
     go_wp2_with fail
     refine (sp_NatAdd _ _ Q 1 w9 (rq.fr f9) r91 (lim_le hQL.out) one_lim1).mono ?_
     rintro en w5 ⟨v5, rfl, r9, f5⟩
     rw [← hXQ.out] at r9
     obtain ⟨A9, l9, c9, rfl, _, _⟩ := r9.slice
     have F5 : Fr NoS u0 w5 := F6.trans' (f9.trans' f5)
     clear c00 c01 c02
     obtain ⟨c00, c01, c02, _, _, _⟩ := cells3 (F5.kp B0)
     go_wp2_with fail
     refine (sp_wholeOf na _ X w5 r9).mono ?_
     rintro en w8t ⟨v8t, rfl, r8t, f8t⟩
     obtain ⟨vr8, rfl, r8t'⟩ := r8t
     obtain ⟨A8, l8, c8, rfl, _, _⟩ := r8t'.slice
     obtain ⟨bb, hbb⟩ : ∃ bb, Hid (decide (sg na X < 0) = bb) := ⟨_, rfl⟩
     rw [hbb.out]
     have F8 : Fr NoS u0 w8t := F5.trans' f8t
     have DR := F8.kp B1
     clear c00 c01 c02
     obtain ⟨k0, k1, k2, kf0, kf1, kf2⟩ := cells3 DR
     have fE : Fr (fun k => k = w.heap.size + 1) w8t (((w8t.setCell ⟨w.heap.size + 1, 0, none⟩ (.bool bb)).setCell ⟨w.heap.size + 1, 1, none⟩ (.slice A8 l8 c8)).setCell ⟨w.heap.size + 1, 2, none⟩ (.int .i64 (-p))) := (((Fr.set _ _ _ _).trans' (Fr.set _ _ _ _)).trans' (Fr.set _ _ _ _))
     have hv3 := r8t'.beside DR (fun j z e => nocell_sd j z e) fE
     have hsz := hA.size
     have hFE := (hA.trans' F8).trans fE (fun i hi e => by omega)
     have HV := Lib.hid (And.intro hv3 hFE)
     clear fE hFE DR hv3 r8t' r9 B0 B1
     go_wp2
     exact bodyPost_ret (v := .agg #[.bool bb, .slice A8 l8 c8, .int .i64 (-p)]) (by simp [results, Tryz.results27, go_sem, k0, k1, k2]) rfl ⟨_, rfl, ⟨_, by rw [hbb.out], HV.out.1⟩, HV.out.2⟩
    | false =>
     have hXQ : Hid (X = Q) := by show _ = _; rw [hBX.out, if_neg (by decide)]
     have r9 := rq
     rw [← hXQ.out] at r9
     have F5 := F6
     clear c00 c01 c02
     obtain ⟨c00, c01, c02, _, _, _⟩ := cells3 (F5.kp B0)
     go_wp2_with fail
     refine (sp_wholeOf na _ X w6 r9).mono ?_
     rintro en w8t ⟨v8t, rfl, r8t, f8t⟩
     obtain ⟨vr8, rfl, r8t'⟩ := r8t
     obtain ⟨A8, l8, c8, rfl, _, _⟩ := r8t'.slice
     obtain ⟨bb, hbb⟩ : ∃ bb, Hid (decide (sg na X < 0) = bb) := ⟨_, rfl⟩
     rw [hbb.out]
     have F8 : Fr NoS u0 w8t := F5.trans' f8t
     have DR := F8.kp B1
     clear c00 c01 c02
     obtain ⟨k0, k1, k2, kf0, kf1, kf2⟩ := cells3 DR
     have fE : Fr (fun k => k = w.heap.size + 1) w8t (((w8t.setCell ⟨w.heap.size + 1, 0, none⟩ (.bool bb)).setCell ⟨w.heap.size + 1, 1, none⟩ (.slice A8 l8 c8)).setCell ⟨w.heap.size + 1, 2, none⟩ (.int .i64 (-p))) := (((Fr.set _ _ _ _).trans' (Fr.set _ _ _ _)).trans' (Fr.set _ _ _ _))
     have hv3 := r8t'.beside DR (fun j z e => nocell_sd j z e) fE
     have hsz := hA.size
     have hFE := (hA.trans' F8).trans fE (fun i hi e => by omega)
     have HV := Lib.hid (And.intro hv3 hFE)
     clear fE hFE DR hv3 r8t' r9 B0 B1
     go_wp2
     exact bodyPost_ret (v := .agg #[.bool bb, .slice A8 l8 c8, .int .i64 (-p)]) (by simp [results, Tryz.results27, go_sem, k0, k1, k2]) rfl ⟨_, rfl, ⟨_, by rw [hbb.out], HV.out.1⟩, HV.out.2⟩
end Go.Proofs.YtilmldfbmmcchaaGreatDoor
