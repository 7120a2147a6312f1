/- The first digit's place of a fraction of the reference. Powers of the reference rounded: to 16 places, or to 16 digits where that is 0. Results of the package beside fractions: sound, and the number of a fraction. Decimals cut to at most 20 digits and exponents up to ten: some decimal comes of it. Conditions: each theorem bears its own. -/
import Derived.Test.YtilmldfbmmcchaaGreatDoorZ26
set_option linter.unusedVariables false
set_option linter.unusedSimpArgs false
namespace Go.Proofs.YtilmldfbmmcchaaGreatDoor
open Go.RowKit Go.Proofs.YtilmldfbmmcchaaGreatDoorW.PrintWords Go.Proofs.YtilmldfbmmcchaaGreatDoorW.PrintLast Go.Proofs.YtilmldfbmmcchaaGreatDoorW.PrintMore PFnDecPowInt
set_option maxRecDepth 100000 in
set_option maxHeartbeats 1500000 in
theorem sp_WholeOf1 (w : World) :
  Calls Tryz.prog 52 #[.int .i64 1] w fun en w' => ∃ v, en = .returned (.agg #[.bool false, v]) ∧ RN w' v 1 ∧ Fr NoS w w' := by
 obtain ⟨u0, hu0⟩ : ∃ u0 : World, Hid (u0 = w.alloc (.cells #[.bool false, .slice none 0 0] TWh (0, 0))) := ⟨_, Lib.hid rfl⟩
 have hA : Fr NoS w u0 := by rw [hu0.out]; exact (Fr.refl NoS w).alloc _
 have B2 : u0.heap[w.heap.size]? = some (.cells #[.bool false, .slice none 0 0] TWh (0, 0)) := by rw [hu0.out, new1 (by simp)]
 have NF : Calls Tryz.prog 45 #[.int .u64 1] u0 fun e w' => ∃ v, e = .returned v ∧ RN w' v 1 ∧ Fr NoS u0 w' := sp_NatFrom 1 u0 (by decide)
 rw [hu0.out] at NF
 go_enter Tryz.func52, Tryz.ntmps52
 go_wp2_with fail
 refine NF.mono ?_
 rintro en w1 ⟨v, rfl, hv, f1⟩
 rw [← hu0.out] at f1
 obtain ⟨A3, l3, c3, rfl, _, _⟩ := hv.slice
 have E2 := f1.kp B2
 have fE : Fr (fun k => k = w.heap.size) w1 ((w1.setCell ⟨w.heap.size, 0, none⟩ (.bool false)).setCell ⟨w.heap.size, 1, none⟩ (.slice A3 l3 c3)) := (Fr.set _ _ _ _).trans' (Fr.set _ _ _ _)
 have hv3 := hv.beside E2 (fun j z e => by rcases j with _ | _ | j <;> simp at e) fE
 have hFE := (hA.trans' f1).trans fE (fun i hi e => by omega)
 obtain ⟨k0', k1, kf0, kf1⟩ := cells2 E2
 have HV := Lib.hid (And.intro hv3 hFE)
 clear fE hv3 hFE E2 B2 NF hv f1
 go_wp2
 exact bodyPost_ret (v := .agg #[.bool false, .slice A3 l3 c3]) (by simp [results, Tryz.results52, go_sem, k0', k1]) rfl ⟨_, rfl, HV.out.1, HV.out.2⟩
theorem set_block {w : World} {g o : Nat} {cs : Array Value} {t : TypeId} (h : w.heap[g]? = some (.cells cs t (0, 0))) (v : Value) : (w.setCell ⟨g, o, none⟩ v).heap[g]? = some (.cells (cs.setIfInBounds o v) t (0, 0)) := by
 simp [World.setCell, Array.getElem?_modify, h]
theorem nocell_any (b : Bool) (A A' : Option Addr) (l c l' c' j : Nat) (z : Int) (h : (#[.bool b, .slice A l c, .slice A' l' c'] : Array Value)[j]? = some (.int .u32 z)) : False := by
 rcases j with _ | _ | _ | j
 ·simp at h
 ·simp at h
 ·simp at h
 ·simp at h
theorem first_low (a b : Nat) (ha : a ≠ 0) : Tle a b (((dg a).length : Int) - (dg b).length - 1) := by
 unfold Tle
 have h1 := dg_le a ha
 have h2 := dg_lt b
 have hp : 0 < (dg a).length := by rw [dg_pos ha]; simp
 generalize (dg a).length = x at h1 hp ⊢
 generalize (dg b).length = y at h2 ⊢
 have e1 : b * 10 ^ ((x : Int) - y - 1).toNat ≤ 10 ^ (y + ((x : Int) - y - 1).toNat) := by
  rw [Nat.pow_add]; exact Nat.mul_le_mul_right _ (Nat.le_of_lt h2)
 have e2 : 10 ^ (x - 1 + (-((x : Int) - y - 1)).toNat) ≤ a * 10 ^ (-((x : Int) - y - 1)).toNat := by
  rw [Nat.pow_add]; exact Nat.mul_le_mul_right _ h1
 rw [show y + ((x : Int) - y - 1).toNat = x - 1 + (-((x : Int) - y - 1)).toNat by omega] at e1
 exact Nat.le_trans e1 e2
theorem first_high (a b : Nat) (hb : b ≠ 0) : ¬ Tle a b (((dg a).length : Int) - (dg b).length + 1) := by
 unfold Tle
 have h1 := dg_le b hb
 have h2 := dg_lt a
 have hp : 0 < (dg b).length := by rw [dg_pos hb]; simp
 generalize (dg b).length = y at h1 hp ⊢
 generalize (dg a).length = x at h2 ⊢
 have e1 : a * 10 ^ (-((x : Int) - y + 1)).toNat < 10 ^ (x + (-((x : Int) - y + 1)).toNat) := by
  rw [Nat.pow_add]; exact Nat.mul_lt_mul_of_pos_right h2 (ten_pos _)
 have e2 : 10 ^ (y - 1 + ((x : Int) - y + 1).toNat) ≤ b * 10 ^ ((x : Int) - y + 1).toNat := by
  rw [Nat.pow_add]; exact Nat.mul_le_mul_right _ h1
 rw [show y - 1 + ((x : Int) - y + 1).toNat = x + (-((x : Int) - y + 1)).toNat by omega] at e2
 omega
theorem pow_up (a b : Nat) (h : a < b) : 10 ^ a < 10 ^ b := Nat.pow_lt_pow_right (by omega) h
theorem frN_one (m : Int) : frN 1 m = ((10 ^ m.toNat : Nat) : Int) := by
 unfold frN
 split
 ·rw [ten_nat, Int.one_mul]
 ·rw [show m.toNat = 0 by omega]; rfl
theorem first_cmp (a b : Nat) (m : Int) : (cmpi ((a : Int) * (frD m : Nat)) (frN 1 m * (b : Nat)) < 0) ↔ ¬ Tle a b m := by
 rw [frN_one, frD_eq, ← Int.natCast_mul, ← Int.natCast_mul]
 unfold Tle cmpi
 rw [Nat.mul_comm (10 ^ m.toNat) b]
 generalize a * 10 ^ (-m).toNat = x
 generalize b * 10 ^ m.toNat = y
 split
 ·constructor
  ·intro _; omega
  ·intro _; decide
 ·split
  ·constructor
   ·intro h; exact absurd h (by decide)
   ·intro _; omega
  ·constructor
   ·intro h; exact absurd h (by decide)
   ·intro _; omega
theorem lim_pow (k : Nat) (h : k ≤ 9000) : 10 ^ k < LIM 20000 := pow_lim _ _ (by omega)
theorem one_lim : (1 : Int).natAbs < LIM 40000 := by
 show 1 < LIM 40000
 exact one_lim1
theorem fr_lim (m : Int) (h1 : -9000 ≤ m) (h2 : m ≤ 9000) : (frN 1 m).natAbs < LIM 20000 ∧ frD m < LIM 20000 := by
 rw [frN_one, frD_eq, Int.natAbs_natCast]
 exact ⟨lim_pow _ (by omega), lim_pow _ (by omega)⟩
set_option maxRecDepth 100000 in
set_option maxHeartbeats 1500000 in
theorem sp_FirstPlace (x : Value) (a : Int) (b : Nat) (w : World) (hx : RF w x a b) (ha0 : a ≠ 0) (hb0 : 0 < b) (ha : a.natAbs < 10 ^ 4000) (hb : b < 10 ^ 4000) :
  Calls Tryz.prog 28 #[x] w fun en w' => ∃ F : Int, en = .returned (.int .i64 F) ∧ Tle a.natAbs b F ∧ ¬ Tle a.natAbs b (F + 1) ∧ -4001 ≤ F ∧ F ≤ 4001 ∧ Fr NoS w w' := by
 have hla : a.natAbs < LIM 20000 := Nat.lt_trans ha (lim_pow 4000 (by omega))
 have hlb : b < LIM 20000 := Nat.lt_trans hb (lim_pow 4000 (by omega))
 have hda : (dg a.natAbs).length ≤ 4000 := dg_length_le _ _ ha
 have hdb : (dg b).length ≤ 4000 := dg_length_le _ _ hb
 have hlow := first_low a.natAbs b (by omega)
 have hhigh := first_high a.natAbs b (by omega)
 have FA := fun W (f : Fr NoS w W) => sp_FAbs x a b W (hx.fr f)
 have D5 : ∀ k : Nat, k < 10 ^ 4000 → k < 10 ^ 5000 := fun k h => Nat.lt_trans h (pow_up 4000 5000 (by decide))
 have DA := fun v W (h : RN W v a.natAbs) => sp_Digits v a.natAbs W h (D5 _ ha)
 have DB := fun v W (h : RN W v b) => sp_Digits v b W h (D5 _ hb)
 obtain ⟨n, hn⟩ : ∃ n, a.natAbs = n := ⟨_, rfl⟩
 obtain ⟨va, vb, rfl, h1, h2⟩ := hx
 obtain ⟨A1, l1, c1, rfl, _, _⟩ := h1.slice
 obtain ⟨A2, l2, c2, rfl, _, _⟩ := h2.slice
 obtain ⟨na, hna⟩ : ∃ n, decide (a < 0) = n := ⟨_, rfl⟩
 rw [hn] at hla hda hlow hhigh FA DA ⊢
 rw [hna] at FA ⊢
 clear hna h1 h2 D5 ha hb ha0 hb0 hn
 have hbn := Lib.hid (And.intro (show ((n : Nat) : Int).natAbs < LIM 20000 by rw [Int.natAbs_natCast]; exact hla) (And.intro hlb trivial))
 obtain ⟨pa, hpa⟩ : ∃ p : Nat, (dg n).length = p := ⟨_, rfl⟩
 obtain ⟨pb, hpb⟩ : ∃ p : Nat, (dg b).length = p := ⟨_, rfl⟩
 rw [hpa, hpb] at hlow hhigh
 rw [hpa] at DA hda
 rw [hpb] at DB hdb
 clear hpa hpb hla hlb
 have HL := Lib.hid (And.intro hlow hhigh)
 clear hlow hhigh
 obtain ⟨u0, hu0⟩ : ∃ u0 : World, Hid (u0 = (w.alloc (.cells #[.bool na, .slice A1 l1 c1, .slice A2 l2 c2] TFr (0, 0)))) := ⟨_, Lib.hid rfl⟩
 have hA : Fr NoS w u0 := by rw [hu0.out]; exact (Fr.refl NoS w).alloc _
 have B0 : u0.heap[w.heap.size]? = some (.cells #[.bool na, .slice A1 l1 c1, .slice A2 l2 c2] TFr (0, 0)) := by rw [hu0.out, new1 (by simp)]
 obtain ⟨c00, c01, c02, _, _, _⟩ := cells3 B0
 rw [hu0.out] at c00 c01 c02
 go_enter Tryz.func28, Tryz.ntmps28
 go_wp2_with fail
 refine (FA _ (by rw [← hu0.out]; exact hA)).mono ?_
 rintro en w1 ⟨r, rfl, hr, f1⟩
 rw [← hu0.out] at f1
 obtain ⟨v3, v4, rfl, r3, r4⟩ := hr
 obtain ⟨A3, l3, c3, rfl, _, _⟩ := r3.slice
 obtain ⟨A4, l4, c4, rfl, _, _⟩ := r4.slice
 rw [show decide (((n : Nat) : Int) < 0) = false from decide_eq_false (by omega)]
 rw [Int.natAbs_natCast] at r3
 have E0 := f1.kp B0
 clear c00 c01 c02
 obtain ⟨c00, c01, c02, cf0, cf1, cf2⟩ := cells3 E0
 obtain ⟨u1, hu1⟩ : ∃ u1 : World, Hid (u1 = ((w1.setCell ⟨w.heap.size, 0, none⟩ (.bool false)).setCell ⟨w.heap.size, 1, none⟩ (.slice A3 l3 c3)).setCell ⟨w.heap.size, 2, none⟩ (.slice A4 l4 c4)) := ⟨_, Lib.hid rfl⟩
 have fE : Fr (fun k => k = w.heap.size) w1 u1 := by rw [hu1.out]; exact ((Fr.set _ _ _ _).trans' (Fr.set _ _ _ _)).trans' (Fr.set _ _ _ _)
 have r3' := r3.beside E0 (fun j z e => nocell_any _ _ _ _ _ _ _ j z e) fE
 have r4' := r4.beside E0 (fun j z e => nocell_any _ _ _ _ _ _ _ j z e) fE
 have hsz := hA.size
 have hW : Fr NoS w u1 := (hA.trans' f1).trans fE (fun i hi e => by omega)
 have C0 : u1.heap[w.heap.size]? = some (.cells #[.bool false, .slice A3 l3 c3, .slice A4 l4 c4] TFr (0, 0)) := by
  rw [hu1.out]
  have := set_block (o := 2) (set_block (o := 1) (set_block (o := 0) E0 (.bool false)) (.slice A3 l3 c3)) (.slice A4 l4 c4)
  simpa using this
 have HRF : Hid (RF u1 (.agg #[.bool false, .slice A3 l3 c3, .slice A4 l4 c4]) (n : Int) b) := ⟨_, _, by rw [decide_eq_false (by omega)], by rw [Int.natAbs_natCast]; exact r3', r4'⟩
 clear r3 r4 fE E0 hA B0
 go_wp2_with fail
 rw [← hu1.out]
 clear c00 c01 c02 cf0 cf1 cf2
 obtain ⟨c00, c01, c02, _, _, _⟩ := cells3 C0
 go_region_held3 (fun w' => w'.cell? ⟨w.heap.size, 0, none⟩ = some (.bool false) ∧ w'.cell? ⟨w.heap.size, 1, none⟩ = some (.slice A3 l3 c3) ∧ w'.cell? ⟨w.heap.size, 2, none⟩ = some (.slice A4 l4 c4)) (go_keep) (first | (go_at_call 51; (with_reducible refine (DA (.slice A3 l3 c3) u1.drew (r3'.fr (Fr.refl NoS u1).drew)).mono ?_); rintro en w2 ⟨rfl, f2⟩; have F2 : Fr NoS u1 w2 := (Fr.refl NoS u1).drew.trans' f2; clear f2; clear c00 c01 c02; obtain ⟨c00, c01, c02, _, _, _⟩ := cells3 (F2.kp C0)) | (go_at_call 51; (with_reducible refine (DB (.slice A4 l4 c4) w2 (r4'.fr F2)).mono ?_); rintro en w3 ⟨rfl, f3⟩; have F3 : Fr NoS u1 w3 := F2.trans' f3; clear f3; clear c00 c01 c02; obtain ⟨c00, c01, c02, _, _, _⟩ := cells3 (F3.kp C0)))
 all_goals
  obtain ⟨m0, hm0⟩ : ∃ m0 : Int, Hid (m0 = (pa : Int) - pb) := ⟨_, Lib.hid rfl⟩
  have w64 : IntKind.i64.wrap ((pa : Int) - pb) = m0 := by rw [hm0.out]; exact IntWalk.i64_in _ (by omega)
  have hmB : -4000 ≤ m0 ∧ m0 ≤ 4000 := by have := hm0.out; omega
  rw [← hm0.out] at HL
  clear hm0 DA DB FA c00 c01 c02 r3' r4'
  simp only [w64]
  go_wp2_with fail
  go_loopw [3] (fun v wr => ∃ m : Int, v = .int .i64 m ∧ (m = m0 ∨ m = m0 - 1 ∧ Hid (¬ Tle n b m0)) ∧ Fr NoS u1 wr) (fun v _ => (intOf v - (m0 - 1)).toNat)
  case atStart => exact ⟨m0, rfl, .inl rfl, F3⟩
  case round =>
   obtain ⟨m, rfl, hm, hfr⟩ := hrel
   have D0 := hfr.kp C0
   obtain ⟨c00, c01, c02, _, _, _⟩ := cells3 D0
   have hmb : Hid (-9000 ≤ m ∧ m ≤ 9000) := (by show _ ∧ _; rcases hm with rfl | ⟨rfl, _⟩ <;> omega)
   have hfb := Lib.hid (fr_lim m hmb.out.1 hmb.out.2)
   obtain ⟨C, hC⟩ : ∃ C, Hid (cmpi ((n : Int) * (frD m : Nat)) (frN 1 m * (b : Nat)) = C) := ⟨_, rfl⟩
   have hCi := first_cmp n b m
   rw [hC.out] at hCi
   by_cases hT : Tle n b m
   ·have d1 : decide (C < 0) = false := decide_eq_false (fun h => hCi.1 h hT)
    have HT := Lib.hid hT
    have HM := Lib.hid hm
    clear hCi hT hm
    go_wp2_with fail
    go_region_held3 (fun w' => w'.cell? ⟨w.heap.size, 0, none⟩ = some (.bool false) ∧ w'.cell? ⟨w.heap.size, 1, none⟩ = some (.slice A3 l3 c3) ∧ w'.cell? ⟨w.heap.size, 2, none⟩ = some (.slice A4 l4 c4)) (go_keep) (first | (go_at_call 52; (with_reducible refine (sp_WholeOf1 wr.drew).mono ?_); rintro en w1 ⟨v1, rfl, r1, f1⟩; have F1 : Fr NoS wr w1 := (Fr.refl NoS wr).drew.trans' f1; clear f1; clear c00 c01 c02; obtain ⟨c00, c01, c02, _, _, _⟩ := cells3 (F1.kp D0); obtain ⟨A5, l5, c5, rfl, _, _⟩ := r1.slice; have RD1 : RD w1 (.agg #[.bool false, .slice A5 l5 c5, .int .i64 (m)]) 1 (m) := ⟨_, rfl, r1⟩) | (go_at_call 13; (with_reducible refine (sp_DFrac (.agg #[.bool false, .slice A5 l5 c5, .int .i64 (m)]) 1 (m) w1 RD1 hmb.out.1 hmb.out.2 one_lim).mono ?_); rintro en w2 ⟨v2, rfl, r2, f2⟩; have F2 : Fr NoS wr w2 := F1.trans' f2; clear f2; clear c00 c01 c02; obtain ⟨c00, c01, c02, _, _, _⟩ := cells3 (F2.kp D0)) | (go_at_call 24; (with_reducible refine (sp_FCmp (.agg #[.bool false, .slice A3 l3 c3, .slice A4 l4 c4]) _ (n : Int) (frN 1 (m)) b (frD (m)) w2 (HRF.out.fr (hfr.trans' F2)) r2 hbn.out.1 hbn.out.2.1 hfb.out.1 hfb.out.2).mono ?_); rintro en w3 ⟨rfl, f3⟩; have F3 : Fr NoS wr w3 := F2.trans' f3; clear f3; clear c00 c01 c02; obtain ⟨c00, c01, c02, _, _, _⟩ := cells3 (F3.kp D0); rw [hC.out]))
    all_goals
     have hF3 := hfr.trans' F3
     have hmm : m ≤ m0 := by rcases HM.out with rfl | ⟨rfl, _⟩ <;> omega
     have hml : m0 - 1 ≤ m := by rcases HM.out with rfl | ⟨rfl, _⟩ <;> omega
     clear c00 c01 c02 RD1 r1 r2 F1 F2 F3 D0 hmb hfb hC d1 HM
     go_wp2_with fail
     go_loopw [3] (fun v wr => ∃ m' : Int, v = .int .i64 m' ∧ Hid (Tle n b m') ∧ m0 - 1 ≤ m' ∧ m' ≤ m0 ∧ Fr NoS u1 wr) (fun v _ => (m0 - intOf v).toNat)
     case atStart => exact ⟨m, rfl, HT, hml, hmm, hF3⟩
     case round =>
      clear hF3 HT hmm hml
      obtain ⟨m', rfl, HT', hml', hmm', hfr'⟩ := hrel
      clear hfr
      have hfr := hfr'
      have D0 := hfr.kp C0
      obtain ⟨c00, c01, c02, _, _, _⟩ := cells3 D0
      have hmb : Hid (-9000 ≤ m' + 1 ∧ m' + 1 ≤ 9000) := (by show _ ∧ _; omega)
      have hfb := Lib.hid (fr_lim (m' + 1) hmb.out.1 hmb.out.2)
      obtain ⟨C, hC⟩ : ∃ C, Hid (cmpi ((n : Int) * (frD (m' + 1) : Nat)) (frN 1 (m' + 1) * (b : Nat)) = C) := ⟨_, rfl⟩
      have hCi := first_cmp n b (m' + 1)
      rw [hC.out] at hCi
      have w64' : IntKind.i64.wrap (m' + 1) = m' + 1 := IntWalk.i64_in _ (by omega)
      by_cases hT : Tle n b (m' + 1)
      ·have d1 : decide (0 ≤ C) = true := decide_eq_true (by
        have : ¬ C < 0 := fun h => hCi.1 h hT
        omega)
       have HT2 := Lib.hid hT
       clear hCi hT
       go_wp2_with fail
       go_region_held3 (fun w' => w'.cell? ⟨w.heap.size, 0, none⟩ = some (.bool false) ∧ w'.cell? ⟨w.heap.size, 1, none⟩ = some (.slice A3 l3 c3) ∧ w'.cell? ⟨w.heap.size, 2, none⟩ = some (.slice A4 l4 c4)) (go_keep) (first | (go_at_call 52; (with_reducible refine (sp_WholeOf1 wr.drew).mono ?_); rintro en w1 ⟨v1, rfl, r1, f1⟩; have F1 : Fr NoS wr w1 := (Fr.refl NoS wr).drew.trans' f1; clear f1; clear c00 c01 c02; obtain ⟨c00, c01, c02, _, _, _⟩ := cells3 (F1.kp D0); obtain ⟨A5, l5, c5, rfl, _, _⟩ := r1.slice; have RD1 : RD w1 (.agg #[.bool false, .slice A5 l5 c5, .int .i64 (m' + 1)]) 1 (m' + 1) := ⟨_, rfl, r1⟩) | (go_at_call 13; (with_reducible refine (sp_DFrac (.agg #[.bool false, .slice A5 l5 c5, .int .i64 (m' + 1)]) 1 (m' + 1) w1 RD1 hmb.out.1 hmb.out.2 one_lim).mono ?_); rintro en w2 ⟨v2, rfl, r2, f2⟩; have F2 : Fr NoS wr w2 := F1.trans' f2; clear f2; clear c00 c01 c02; obtain ⟨c00, c01, c02, _, _, _⟩ := cells3 (F2.kp D0)) | (go_at_call 24; (with_reducible refine (sp_FCmp (.agg #[.bool false, .slice A3 l3 c3, .slice A4 l4 c4]) _ (n : Int) (frN 1 (m' + 1)) b (frD (m' + 1)) w2 (HRF.out.fr (hfr.trans' F2)) r2 hbn.out.1 hbn.out.2.1 hfb.out.1 hfb.out.2).mono ?_); rintro en w3 ⟨rfl, f3⟩; have F3 : Fr NoS wr w3 := F2.trans' f3; clear f3; clear c00 c01 c02; obtain ⟨c00, c01, c02, _, _, _⟩ := cells3 (F3.kp D0); rw [hC.out]))
       all_goals
        have hF3 := hfr.trans' F3
        clear c00 c01 c02 RD1 r1 r2 F1 F2 F3 D0
        go_wp2
        go_roundw
        case rel => exact ⟨m' + 1, rfl, HT2, by omega, by
         refine Int.not_lt.1 (fun h => ?_)
         rw [show m' + 1 = m0 + 1 by omega] at HT2
         exact HL.out.2 HT2.out, hF3⟩
        case measure =>
         have : m' + 1 ≤ m0 := by
          refine Int.not_lt.1 (fun h => ?_)
          rw [show m' + 1 = m0 + 1 by omega] at HT2
          exact HL.out.2 HT2.out
         simp [intOf]; omega
      ·have d1 : decide (0 ≤ C) = false := decide_eq_false (by
        have := hCi.2 hT
        omega)
       have HT2 := Lib.hid hT
       clear hCi hT
       go_wp2_with fail
       go_region_held3 (fun w' => w'.cell? ⟨w.heap.size, 0, none⟩ = some (.bool false) ∧ w'.cell? ⟨w.heap.size, 1, none⟩ = some (.slice A3 l3 c3) ∧ w'.cell? ⟨w.heap.size, 2, none⟩ = some (.slice A4 l4 c4)) (go_keep) (first | (go_at_call 52; (with_reducible refine (sp_WholeOf1 wr.drew).mono ?_); rintro en w1 ⟨v1, rfl, r1, f1⟩; have F1 : Fr NoS wr w1 := (Fr.refl NoS wr).drew.trans' f1; clear f1; clear c00 c01 c02; obtain ⟨c00, c01, c02, _, _, _⟩ := cells3 (F1.kp D0); obtain ⟨A5, l5, c5, rfl, _, _⟩ := r1.slice; have RD1 : RD w1 (.agg #[.bool false, .slice A5 l5 c5, .int .i64 (m' + 1)]) 1 (m' + 1) := ⟨_, rfl, r1⟩) | (go_at_call 13; (with_reducible refine (sp_DFrac (.agg #[.bool false, .slice A5 l5 c5, .int .i64 (m' + 1)]) 1 (m' + 1) w1 RD1 hmb.out.1 hmb.out.2 one_lim).mono ?_); rintro en w2 ⟨v2, rfl, r2, f2⟩; have F2 : Fr NoS wr w2 := F1.trans' f2; clear f2; clear c00 c01 c02; obtain ⟨c00, c01, c02, _, _, _⟩ := cells3 (F2.kp D0)) | (go_at_call 24; (with_reducible refine (sp_FCmp (.agg #[.bool false, .slice A3 l3 c3, .slice A4 l4 c4]) _ (n : Int) (frN 1 (m' + 1)) b (frD (m' + 1)) w2 (HRF.out.fr (hfr.trans' F2)) r2 hbn.out.1 hbn.out.2.1 hfb.out.1 hfb.out.2).mono ?_); rintro en w3 ⟨rfl, f3⟩; have F3 : Fr NoS wr w3 := F2.trans' f3; clear f3; clear c00 c01 c02; obtain ⟨c00, c01, c02, _, _, _⟩ := cells3 (F3.kp D0); rw [hC.out]))
       all_goals
        have hF3 := hW.trans' (hfr.trans' F3)
        clear c00 c01 c02 RD1 r1 r2 F1 F2 F3 D0
        go_wp2
        go_ret
        exact ⟨m', rfl, HT'.out, HT2.out, by omega, by omega, hF3⟩
   ·have d1 : decide (C < 0) = true := decide_eq_true (hCi.2 hT)
    have hmm : Hid (m = m0) := by
     show _ = _
     rcases hm with h | ⟨h, _⟩
     ·exact h
     ·rw [h] at hT; exact absurd HL.out.1 hT
    have HT := Lib.hid hT
    have w64' : IntKind.i64.wrap (m - 1) = m - 1 := IntWalk.i64_in _ (by omega)
    clear hCi hT hm
    go_wp2_with fail
    go_region_held3 (fun w' => w'.cell? ⟨w.heap.size, 0, none⟩ = some (.bool false) ∧ w'.cell? ⟨w.heap.size, 1, none⟩ = some (.slice A3 l3 c3) ∧ w'.cell? ⟨w.heap.size, 2, none⟩ = some (.slice A4 l4 c4)) (go_keep) (first | (go_at_call 52; (with_reducible refine (sp_WholeOf1 wr.drew).mono ?_); rintro en w1 ⟨v1, rfl, r1, f1⟩; have F1 : Fr NoS wr w1 := (Fr.refl NoS wr).drew.trans' f1; clear f1; clear c00 c01 c02; obtain ⟨c00, c01, c02, _, _, _⟩ := cells3 (F1.kp D0); obtain ⟨A5, l5, c5, rfl, _, _⟩ := r1.slice; have RD1 : RD w1 (.agg #[.bool false, .slice A5 l5 c5, .int .i64 (m)]) 1 (m) := ⟨_, rfl, r1⟩) | (go_at_call 13; (with_reducible refine (sp_DFrac (.agg #[.bool false, .slice A5 l5 c5, .int .i64 (m)]) 1 (m) w1 RD1 hmb.out.1 hmb.out.2 one_lim).mono ?_); rintro en w2 ⟨v2, rfl, r2, f2⟩; have F2 : Fr NoS wr w2 := F1.trans' f2; clear f2; clear c00 c01 c02; obtain ⟨c00, c01, c02, _, _, _⟩ := cells3 (F2.kp D0)) | (go_at_call 24; (with_reducible refine (sp_FCmp (.agg #[.bool false, .slice A3 l3 c3, .slice A4 l4 c4]) _ (n : Int) (frN 1 (m)) b (frD (m)) w2 (HRF.out.fr (hfr.trans' F2)) r2 hbn.out.1 hbn.out.2.1 hfb.out.1 hfb.out.2).mono ?_); rintro en w3 ⟨rfl, f3⟩; have F3 : Fr NoS wr w3 := F2.trans' f3; clear f3; clear c00 c01 c02; obtain ⟨c00, c01, c02, _, _, _⟩ := cells3 (F3.kp D0); rw [hC.out]))
    all_goals
     have hF3 := hfr.trans' F3
     clear c00 c01 c02 RD1 r1 r2 F1 F2 F3 D0
     go_wp2
     go_roundw
     case rel => exact ⟨m - 1, rfl, .inr ⟨by have := hmm.out; omega, by rw [← hmm.out]; exact HT⟩, hF3⟩
     case measure =>
      have := hmm.out
      simp [intOf]; omega
theorem rnd_le' (M D : Nat) : rnd M D ≤ M + 1 := by
 rw [rnd_cases]
 have := Nat.div_le_self M D
 split <;> omega
theorem rdv_small (a : Int) (b : Nat) (p : Int) (ha : a.natAbs < LIM 10000) (hp : p ≤ 9000) : (rdv a b p).natAbs < LIM 40000 := by
 unfold rdv
 rw [sg_abs]
 have h1 := rnd_le' (a.natAbs * 10 ^ p.toNat) (b * 10 ^ (-p).toNat)
 have h2 := lim_mul1 ha (lim_pow1 p.toNat (by omega))
 generalize rnd (a.natAbs * 10 ^ p.toNat) (b * 10 ^ (-p).toNat) = X at h1 ⊢
 generalize a.natAbs * 10 ^ p.toNat = Y at h1 h2
 have h3 := lim_mul2 h2 (show 2 < LIM 20000 from Nat.lt_of_le_of_lt (by omega) (lim_big 20000 (by omega)))
 have h4 := one_lim1
 rcases Nat.eq_zero_or_pos Y with h | h
 ·have := lim_big 40000 (by omega)
  omega
 ·omega
theorem lim_first {a : Nat} (h : a < 10 ^ 4000) : a < LIM 10000 := Nat.lt_trans h (lim_pow1 4000 (by omega))
set_option maxRecDepth 100000 in
set_option maxHeartbeats 1500000 in
theorem sp_PowRounded (x : Value) (a : Int) (b : Nat) (w : World) (hx : RF w x a b) (ha0 : a ≠ 0) (hb0 : 0 < b) (ha : a.natAbs < 10 ^ 4000) (hb : b < 10 ^ 4000) :
  Calls Tryz.prog 11 #[x, .int .i64 16] w fun en w' => ∃ r q e, en = .returned r ∧ RD w' r q e ∧ ((rdv a b 16 ≠ 0 ∧ q = rdv a b 16 ∧ e = -16) ∨ (rdv a b 16 = 0 ∧ ∃ F : Int, Tle a.natAbs b F ∧ ¬ Tle a.natAbs b (F + 1) ∧ q = rdv a b (15 - F) ∧ e = -(15 - F))) ∧ Fr NoS w w' := by
 obtain ⟨va, vb, rfl, h1, h2⟩ := hx
 obtain ⟨A1, l1, c1, rfl, _, _⟩ := h1.slice
 obtain ⟨A2, l2, c2, rfl, _, _⟩ := h2.slice
 have RO := fun W (f : Fr NoS w W) (p : Int) (hp1 : -9000 ≤ p) (hp2 : p ≤ 9000) => sp_Round (.agg #[.bool (decide (a < 0)), .slice A1 l1 c1, .slice A2 l2 c2]) a b p W ⟨_, _, rfl, h1.fr f, h2.fr f⟩ hb0 hp1 hp2 (lim_first ha) (lim_first hb)
 have FP := fun W (f : Fr NoS w W) => sp_FirstPlace (.agg #[.bool (decide (a < 0)), .slice A1 l1 c1, .slice A2 l2 c2]) a b W ⟨_, _, rfl, h1.fr f, h2.fr f⟩ ha0 hb0 ha hb
 have hsm := rdv_small a b 16 (lim_first ha) (by omega)
 obtain ⟨na, hna⟩ : ∃ n, decide (a < 0) = n := ⟨_, rfl⟩
 rw [hna] at RO FP ⊢
 clear hna h1 h2 ha hb ha0 hb0
 obtain ⟨q1, hq1⟩ : ∃ q, Hid (rdv a b 16 = q) := ⟨_, Lib.hid rfl⟩
 rw [hq1.out] at hsm ⊢
 have R16 : ∀ W, Fr NoS w W → Calls Tryz.prog 27 #[.agg #[.bool na, .slice A1 l1 c1, .slice A2 l2 c2], .int .i64 16, .int .i64 4] W fun en w' => ∃ r, en = .returned r ∧ RD w' r q1 (-16) ∧ Fr NoS W w' := fun W f => by rw [← hq1.out]; exact RO W f 16 (by omega) (by omega)
 have hsm' := Lib.hid hsm
 clear hsm
 obtain ⟨u0, hu0⟩ : ∃ u0 : World, Hid (u0 = ((w.alloc (.cells #[.bool na, .slice A1 l1 c1, .slice A2 l2 c2] TFr (0, 0))).alloc (.cells #[.bool false, .slice none 0 0, .int .i64 0] TSd (0, 0)))) := ⟨_, Lib.hid rfl⟩
 have hA : Fr NoS w u0 := by rw [hu0.out]; exact ((Fr.refl NoS w).alloc _).alloc _
 have B0 : u0.heap[w.heap.size]? = some (.cells #[.bool na, .slice A1 l1 c1, .slice A2 l2 c2] TFr (0, 0)) := by rw [hu0.out, old1 (by simp), new1 (by simp)]
 have B1 : u0.heap[w.heap.size + 1]? = some (.cells #[.bool false, .slice none 0 0, .int .i64 0] TSd (0, 0)) := by rw [hu0.out, new1 (by simp)]
 obtain ⟨c00, c01, c02, _, _, _⟩ := cells3 B0
 have n1 : w.heap.size ≠ w.heap.size + 1 := by omega
 rw [hu0.out] at c00 c01 c02
 go_enter Tryz.func11, Tryz.ntmps11
 go_wp2_with fail
 refine (R16 _ (by rw [← hu0.out]; exact hA)).mono ?_
 rintro en w1 ⟨r, rfl, hr, f1⟩
 rw [← hu0.out] at f1
 obtain ⟨v3, rfl, r3⟩ := hr
 obtain ⟨A3, l3, c3, rfl, _, _⟩ := r3.slice
 obtain ⟨bb, hbb⟩ : ∃ bb, Hid (decide (q1 < 0) = bb) := ⟨_, rfl⟩
 rw [hbb.out]
 clear c00 c01 c02
 obtain ⟨u3, hu3⟩ : ∃ u3 : World, Hid (u3 = w1.alloc (.cells #[.bool bb, .slice A3 l3 c3, .int .i64 (-16)] TSd (0, 0))) := ⟨_, Lib.hid rfl⟩
 have f13 : Fr NoS w1 u3 := by rw [hu3.out]; exact (Fr.refl NoS w1).alloc _
 have K3 : u3.heap[w1.heap.size]? = some (.cells #[.bool bb, .slice A3 l3 c3, .int .i64 (-16)] TSd (0, 0)) := by rw [hu3.out]; exact heap_alloc_new w1 _
 replace r3 := r3.fr f13
 have F3 : Fr NoS u0 u3 := f1.trans' f13
 have SG := sp_WSign (.agg #[.bool bb, .slice A3 l3 c3]) q1 u3 ⟨_, by rw [hbb.out], r3⟩ hsm'.out
 have hsz1 := f1.size
 have hl1 := (zLt B1)
 have n2 : w.heap.size + 1 ≠ w1.heap.size := by omega
 have n3 : w1.heap.size ≠ w.heap.size + 1 := by omega
 have hz := cmpi_zero q1
 obtain ⟨C, hC⟩ : ∃ C, cmpi q1 0 = C := ⟨_, rfl⟩
 rw [hC] at SG hz
 clear hC hsz1 hl1
 obtain ⟨j0, j1, j2, _, _, _⟩ := cells3 K3
 rw [hu3.out] at SG j0 j1 j2
 go_wp2_with fail
 refine SG.mono ?_
 rintro en w4 ⟨rfl, f4⟩
 rw [← hu3.out] at f4
 replace r3 := r3.fr f4
 have F4 : Fr NoS u0 w4 := F3.trans' f4
 clear j0 j1 j2
 obtain ⟨j0, j1, j2, _, _, _⟩ := cells3 (f4.kp K3)
 by_cases hq0 : q1 = 0
 ·have e1 : (C == 0) = true := by rw [hz]; exact decide_eq_true hq0
  have e2 : (C != 0) = false := by simpa using e1
  have HQ0 := Lib.hid hq0
  clear hz hq0
  obtain ⟨c00, c01, c02, _, _, _⟩ := cells3 (F4.kp B0)
  go_wp2_with fail
  go_region_held3 (fun w' => w'.cell? ⟨w.heap.size, 0, none⟩ = some (.bool na) ∧ w'.cell? ⟨w.heap.size, 1, none⟩ = some (.slice A1 l1 c1) ∧ w'.cell? ⟨w.heap.size, 2, none⟩ = some (.slice A2 l2 c2)) (go_keep) (first | (go_at_call 28; (with_reducible refine (FP w4.drew (hA.trans' (F4.trans' (Fr.refl NoS w4).drew))).mono ?_); rintro en w5 ⟨F, rfl, hF1, hF2, hF3, hF4, f5⟩; have F5 : Fr NoS u0 w5 := F4.trans' ((Fr.refl NoS w4).drew.trans' f5); have HF := Lib.hid (And.intro hF1 hF2); clear hF1 hF2 f5; clear c00 c01 c02; obtain ⟨c00, c01, c02, _, _, _⟩ := cells3 (F5.kp B0); have w64 : IntKind.i64.wrap (15 - F) = 15 - F := IntWalk.i64_in _ (by omega)) | (go_at_call 27; show Calls _ _ #[_, .int .i64 (IntKind.i64.wrap (15 - F)), _] _ _; rw [w64]; (with_reducible refine (RO w5 (hA.trans' F5) (15 - F) (by omega) (by omega)).mono ?_); rintro en w6 ⟨r6, rfl, hr6, f6⟩; have F6 : Fr NoS u0 w6 := F5.trans' f6; clear c00 c01 c02; obtain ⟨c00, c01, c02, _, _, _⟩ := cells3 (F6.kp B0); obtain ⟨v6, rfl, r6⟩ := hr6; obtain ⟨A6, l6, c6, rfl, _, _⟩ := r6.slice; obtain ⟨q2, hq2⟩ : ∃ q, Hid (rdv a b (15 - F) = q) := ⟨_, Lib.hid rfl⟩; rw [hq2.out]; rw [hq2.out] at r6; obtain ⟨b2, hb2⟩ : ∃ bb, Hid (decide (q2 < 0) = bb) := ⟨_, rfl⟩; rw [hb2.out]; have DR := F6.kp B1; obtain ⟨k0, k1, k2, kf0, kf1, kf2⟩ := cells3 DR))
  all_goals
   have fE : Fr (fun k => k = w.heap.size + 1) w6 (((w6.setCell ⟨w.heap.size + 1, 0, none⟩ (.bool b2)).setCell ⟨w.heap.size + 1, 1, none⟩ (.slice A6 l6 c6)).setCell ⟨w.heap.size + 1, 2, none⟩ (.int .i64 (-(15 - F)))) := (((Fr.set _ _ _ _).trans' (Fr.set _ _ _ _)).trans' (Fr.set _ _ _ _))
   have hv3 := r6.beside DR (fun j z e => nocell_sd j z e) fE
   have hsz := hA.size
   have hFE := (hA.trans' F6).trans fE (fun i hi e => by omega)
   have HV := Lib.hid (And.intro hv3 hFE)
   clear fE hFE DR hv3 r6 B0 B1
   go_wp2
   exact bodyPost_ret (v := .agg #[.bool b2, .slice A6 l6 c6, .int .i64 (-(15 - F))]) (by simp [results, Tryz.results11, go_sem, k0, k1, k2]) rfl ⟨_, q2, _, rfl, ⟨_, by rw [hb2.out], HV.out.1⟩, .inr ⟨HQ0.out, F, HF.out.1, HF.out.2, hq2.out.symm, rfl⟩, HV.out.2⟩
 ·have e1 : (C == 0) = false := by rw [hz]; exact decide_eq_false hq0
  have e2 : (C != 0) = true := by simpa using e1
  have HQ0 := Lib.hid hq0
  clear hz hq0
  have DR := F4.kp B1
  obtain ⟨k0, k1, k2, kf0, kf1, kf2⟩ := cells3 DR
  have fE : Fr (fun k => k = w.heap.size + 1) w4 (((w4.setCell ⟨w.heap.size + 1, 0, none⟩ (.bool bb)).setCell ⟨w.heap.size + 1, 1, none⟩ (.slice A3 l3 c3)).setCell ⟨w.heap.size + 1, 2, none⟩ (.int .i64 (-16))) := (((Fr.set _ _ _ _).trans' (Fr.set _ _ _ _)).trans' (Fr.set _ _ _ _))
  have hv3 := r3.beside DR (fun j z e => nocell_sd j z e) fE
  have hsz := hA.size
  have hFE := (hA.trans' F4).trans fE (fun i hi e => by omega)
  have HV := Lib.hid (And.intro hv3 hFE)
  clear fE hFE DR hv3 r3 B0 B1
  go_wp2
  exact bodyPost_ret (v := .agg #[.bool bb, .slice A3 l3 c3, .int .i64 (-16)]) (by simp [results, Tryz.results11, go_sem, k0, k1, k2]) rfl ⟨_, q1, _, rfl, ⟨_, by rw [hbb.out], HV.out.1⟩, .inl ⟨HQ0.out, rfl, rfl⟩, HV.out.2⟩
set_option maxRecDepth 100000 in
set_option maxHeartbeats 1500000 in
theorem sp_Sound (z e : Int) (w : World) (h : (lz z).length ≤ 100000) (hz : z.natAbs < 10 ^ 5000) (he1 : -3000 < e) (he2 : e < 3000) :
  Calls Tryz.prog 22 #[DC z e] w fun en w' => en = .returned (.bool true) ∧ Fr NoS w w' := by
 have PW := fun W => sp_Parse z W h
 have ST := fun x W (hx : RW W x z) => sp_WString x z W hx hz
 obtain ⟨s, hs⟩ : ∃ s, tz z = s := ⟨_, rfl⟩
 show Calls _ _ #[.agg #[.string (tz z), .int .i64 e]] w _
 rw [hs] at PW ST ⊢
 clear hs h hz
 obtain ⟨u0, hu0⟩ : ∃ u0 : World, Hid (u0 = w.alloc (.cells #[.string s, .int .i64 e] TDec (0, 0))) := ⟨_, Lib.hid rfl⟩
 have hA : Fr NoS w u0 := by rw [hu0.out]; exact (Fr.refl NoS w).alloc _
 have B0 : u0.heap[w.heap.size]? = some (.cells #[.string s, .int .i64 e] TDec (0, 0)) := by rw [hu0.out, new1 (by simp)]
 have d1 : decide (-3000 < e) = true := decide_eq_true he1
 have d2 : decide (e < 3000) = true := decide_eq_true he2
 clear he1 he2
 go_enter Tryz.func22, Tryz.ntmps22
 go_wp2_with fail
 rw [← hu0.out]
 refine (PW u0).mono ?_
 rintro en w1 ⟨x, rfl, hx, f1⟩
 obtain ⟨v3, rfl, r3⟩ := hx
 obtain ⟨A3, l3, c3, rfl, _, _⟩ := r3.slice
 obtain ⟨bb, hbb⟩ : ∃ bb, Hid (decide (z < 0) = bb) := ⟨_, rfl⟩
 rw [hbb.out]
 obtain ⟨u3, hu3⟩ : ∃ u3 : World, Hid (u3 = w1.alloc (.cells #[.bool bb, .slice A3 l3 c3] TWh (0, 0))) := ⟨_, Lib.hid rfl⟩
 have f13 : Fr NoS w1 u3 := by rw [hu3.out]; exact (Fr.refl NoS w1).alloc _
 have K3 : u3.heap[w1.heap.size]? = some (.cells #[.bool bb, .slice A3 l3 c3] TWh (0, 0)) := by rw [hu3.out]; exact heap_alloc_new w1 _
 have F3 : Fr NoS u0 u3 := f1.trans' f13
 have B3 := F3.kp B0
 have S3 := ST (.agg #[.bool bb, .slice A3 l3 c3]) u3.drew ⟨_, by rw [hbb.out], r3.fr (f13.trans' (Fr.refl NoS u3).drew)⟩
 have hsz1 := f1.size
 have hl1 := (zLt B0)
 have n2 : w.heap.size ≠ w1.heap.size := by omega
 have n3 : w1.heap.size ≠ w.heap.size := by omega
 clear hsz1 hl1
 obtain ⟨c00, c01, _, _⟩ := cells2 B3
 obtain ⟨j0, j1, _, _⟩ := cells2 K3
 go_wp2_with fail
 rw [← hu3.out]
 go_region_held3 (fun w' => w'.cell? ⟨w.heap.size, 0, none⟩ = some (.string s) ∧ w'.cell? ⟨w.heap.size, 1, none⟩ = some (.int .i64 e) ∧ w'.cell? ⟨w1.heap.size, 0, none⟩ = some (.bool bb) ∧ w'.cell? ⟨w1.heap.size, 1, none⟩ = some (.slice A3 l3 c3)) (go_keep) (first | (go_at_call 42; (with_reducible refine S3.mono ?_); rintro en w4 ⟨rfl, f4⟩; have F34 : Fr NoS u3 w4 := (Fr.refl NoS u3).drew.trans' f4; clear f4; clear c00 c01 j0 j1; obtain ⟨c00, c01, _, _⟩ := cells2 (F34.kp B3); obtain ⟨j0, j1, _, _⟩ := cells2 (F34.kp K3)))
 all_goals
  have hF := hA.trans' (F3.trans' F34)
  clear c00 c01 j0 j1 B3 K3 S3 PW ST
  go_wp2
  go_ret
  exact ⟨rfl, hF⟩
theorem cmpi_eq (a b : Int) : (cmpi a b == 0) = decide (a = b) := by
 unfold cmpi
 by_cases h : a < b
 ·rw [if_pos h, decide_eq_false (by omega)]; rfl
 ·rw [if_neg h]
  by_cases e : a = b
  ·rw [if_pos e, decide_eq_true e]; rfl
  ·rw [if_neg e, decide_eq_false e]; rfl
theorem frN_lim (z e : Int) (hz : z.natAbs < LIM 10000) (he2 : e ≤ 9000) : (frN z e).natAbs < LIM 20000 := by
 rw [frN_abs]; exact lim_mul1 hz (lim_pow1 _ (by omega))
theorem frD_lim (e : Int) (he : -9000 ≤ e) : frD e < LIM 20000 := by
 rw [frD_eq]; exact lim_pow _ (by omega)
theorem lim_five {n : Nat} (h : n < 10 ^ 5000) : n < LIM 10000 := Nat.lt_trans h (lim_pow1 5000 (by omega))
set_option maxRecDepth 100000 in
set_option maxHeartbeats 1500000 in
theorem sp_Says (z e : Int) (x : Value) (a : Int) (b : Nat) (w : World) (hx : RF w x a b) (h : (lz z).length ≤ 100000) (hz : z.natAbs < 10 ^ 5000) (he1 : -3000 < e) (he2 : e < 3000) (ha : a.natAbs < LIM 20000) (hb : b < LIM 20000) :
  Calls Tryz.prog 9 #[DC z e, x] w fun en w' => en = .returned (.bool (decide (frN z e * b = a * frD e))) ∧ Fr NoS w w' := by
 obtain ⟨va, vb, rfl, h1, h2⟩ := hx
 obtain ⟨A1, l1, c1, rfl, _, _⟩ := h1.slice
 obtain ⟨A2, l2, c2, rfl, _, _⟩ := h2.slice
 have SO := fun W => sp_Sound z e W h hz he1 he2
 have DI := fun W => sp_DecIn z e W h
 have DF := fun y W (hy : RD W y z e) => sp_DFrac y z e W hy (by omega) (by omega) (lim_up1 (lim_five hz))
 have CM := fun y W (f : Fr NoS w W) (hy : RF W y (frN z e) (frD e)) => sp_FCmp y (.agg #[.bool (decide (a < 0)), .slice A1 l1 c1, .slice A2 l2 c2]) (frN z e) a (frD e) b W hy ⟨_, _, rfl, h1.fr f, h2.fr f⟩ (frN_lim z e (lim_five hz) (by omega)) (frD_lim e (by omega)) ha hb
 obtain ⟨s, hs⟩ : ∃ s, tz z = s := ⟨_, rfl⟩
 obtain ⟨na, hna⟩ : ∃ n, decide (a < 0) = n := ⟨_, rfl⟩
 obtain ⟨nz, hnz⟩ : ∃ n, Hid (decide (z < 0) = n) := ⟨_, rfl⟩
 rw [hnz.out] at DI
 have SO' : ∀ W, Calls Tryz.prog 22 #[.agg #[.string s, .int .i64 e]] W fun en w' => en = .returned (.bool true) ∧ Fr NoS W w' := by rw [← hs]; exact SO
 have DI' : ∀ W, Calls Tryz.prog 23 #[.agg #[.string s, .int .i64 e]] W fun en w' => ∃ v, en = .returned (.agg #[.bool nz, v, .int .i64 e]) ∧ RN w' v z.natAbs ∧ Fr NoS W w' := by rw [← hs]; exact DI
 have hce := cmpi_eq (frN z e * b) (a * frD e)
 rw [hna] at CM ⊢
 show Calls _ _ #[.agg #[.string (tz z), .int .i64 e], _] w _
 rw [hs]
 clear hs SO DI h hz he1 he2 ha hb h1 h2 hna
 obtain ⟨C, hC⟩ : ∃ C, cmpi (frN z e * b) (a * frD e) = C := ⟨_, rfl⟩
 rw [hC] at CM hce
 rw [← hce]
 clear hC hce
 obtain ⟨u0, hu0⟩ : ∃ u0 : World, Hid (u0 = ((w.alloc (.cells #[.string s, .int .i64 e] TDec (0, 0))).alloc (.cells #[.bool na, .slice A1 l1 c1, .slice A2 l2 c2] TFr (0, 0)))) := ⟨_, Lib.hid rfl⟩
 have hA : Fr NoS w u0 := by rw [hu0.out]; exact ((Fr.refl NoS w).alloc _).alloc _
 have B0 : u0.heap[w.heap.size]? = some (.cells #[.string s, .int .i64 e] TDec (0, 0)) := by rw [hu0.out, old1 (by simp), new1 (by simp)]
 have B1 : u0.heap[w.heap.size + 1]? = some (.cells #[.bool na, .slice A1 l1 c1, .slice A2 l2 c2] TFr (0, 0)) := by rw [hu0.out, new1 (by simp)]
 obtain ⟨c00, c01, _, _⟩ := cells2 B0
 obtain ⟨c10, c11, c12, _, _, _⟩ := cells3 B1
 have n1 : w.heap.size ≠ w.heap.size + 1 := by omega
 rw [hu0.out] at c00 c01 c10 c11 c12
 go_enter Tryz.func9, Tryz.ntmps9
 go_wp2_with fail
 rw [← hu0.out] at c00 c01 c10 c11 c12
 rw [← hu0.out]
 go_region_held3 (fun w' => w'.cell? ⟨w.heap.size, 0, none⟩ = some (.string s) ∧ w'.cell? ⟨w.heap.size, 1, none⟩ = some (.int .i64 e) ∧ w'.cell? ⟨w.heap.size + 1, 0, none⟩ = some (.bool na) ∧ w'.cell? ⟨w.heap.size + 1, 1, none⟩ = some (.slice A1 l1 c1) ∧ w'.cell? ⟨w.heap.size + 1, 2, none⟩ = some (.slice A2 l2 c2)) (go_keep) (first | (go_at_call 22; (with_reducible refine (SO' u0.drew).mono ?_); rintro en w1 ⟨rfl, f1⟩; have F1 : Fr NoS u0 w1 := (Fr.refl NoS u0).drew.trans' f1; clear c00 c01; obtain ⟨c00, c01, _, _⟩ := cells2 (F1.kp B0); clear c10 c11 c12; obtain ⟨c10, c11, c12, _, _, _⟩ := cells3 (F1.kp B1)) | (go_at_call 23; (with_reducible refine (DI' w1).mono ?_); rintro en w2 ⟨v2, rfl, r2, f2⟩; have F2 : Fr NoS u0 w2 := F1.trans' f2; clear c00 c01; obtain ⟨c00, c01, _, _⟩ := cells2 (F2.kp B0); clear c10 c11 c12; obtain ⟨c10, c11, c12, _, _, _⟩ := cells3 (F2.kp B1); obtain ⟨A3, l3, c3, rfl, _, _⟩ := r2.slice; have RD2 : RD w2 (.agg #[.bool nz, .slice A3 l3 c3, .int .i64 e]) z e := ⟨_, by rw [hnz.out], r2⟩) | (go_at_call 13; (with_reducible refine (DF (.agg #[.bool nz, .slice A3 l3 c3, .int .i64 e]) w2 RD2).mono ?_); rintro en w3 ⟨v3, rfl, r3, f3⟩; have F3 : Fr NoS u0 w3 := F2.trans' f3; clear c00 c01; obtain ⟨c00, c01, _, _⟩ := cells2 (F3.kp B0); clear c10 c11 c12; obtain ⟨c10, c11, c12, _, _, _⟩ := cells3 (F3.kp B1)) | (go_at_call 24; (with_reducible refine (CM _ w3 (hA.trans' F3) r3).mono ?_); rintro en w4 ⟨rfl, f4⟩; have F4 : Fr NoS u0 w4 := F3.trans' f4; clear c00 c01; obtain ⟨c00, c01, _, _⟩ := cells2 (F4.kp B0); clear c10 c11 c12; obtain ⟨c10, c11, c12, _, _, _⟩ := cells3 (F4.kp B1)))
 all_goals
  have HF := hA.trans' F4
  clear c00 c01 c10 c11 c12 SO' DI' DF CM B0 B1 RD2 r2 r3
  go_wp2
  go_ret
  exact ⟨rfl, HF⟩
theorem dg_push (n c : Nat) (hc : 48 ≤ c) (hc2 : c ≤ 57) (h : n ≠ 0 ∨ c ≠ 48) : dg (10 * n + (c - 48)) = c :: dg n := by
 rw [dg_pos (by omega)]
 congr 1
 ·omega
 ·congr 1; omega
theorem dg_len_zero (n : Nat) : (dg n).length = 0 ↔ n = 0 := by
 constructor
 ·intro h
  refine Classical.byContradiction fun hn => ?_
  rw [dg_pos hn] at h
  simp at h
 ·rintro rfl; rw [dg_zero]; rfl
theorem dg_push_get (n c j : Nat) (hc : 48 ≤ c) (hc2 : c ≤ 57) (h : n ≠ 0 ∨ c ≠ 48) (hj : j < (dg n).length + 1) : (if j < (dg n).length then (dg n).reverse.getD j 0 else [c].getD (j - (dg n).length) 0) = (dg (10 * n + (c - 48))).reverse.getD j 0 := by
 rw [dg_push n c hc hc2 h, List.reverse_cons]
 have := getD_app (dg n).reverse c j (by rw [List.length_reverse]; exact hj)
 rw [List.length_reverse] at this
 exact this
theorem str_dg (n : Nat) (hn : n ≠ 0) : strOfNums ((List.range (dg n).length).map fun j => ((dg n).reverse.getD j 0 : Nat)) = tz (n : Int) := by
 unfold tz lz
 rw [if_neg (by omega), if_neg (by omega), Int.natAbs_natCast, List.append_nil]
 congr 1
 apply List.ext_getElem
 ·simp
 ·intro j h1 h2
  simp only [List.length_map, List.length_range] at h1
  simp only [List.getElem_map, List.getElem_range]
  rw [List.getD_eq_getElem?_getD, List.getElem?_eq_getElem (by rw [List.length_reverse]; exact h1)]
  rfl
theorem str_zero : (⟨#[48]⟩ : ByteArray) = tz 0 := rfl
theorem Row.str {w : World} {v : Value} {n : Nat} {F : Nat → Nat} (h : Row .u8 T8 w v n F) : (convert 65 9 v).run Tryz.prog w = .ok (.string (strOfNums ((List.range n).map fun j => (F j : Nat)))) w :=
 own_string Tryz.underlying65 Tryz.underlying5 Tryz.underlying9 (by
  have := h.owns
  simpa [nums, List.map_map, Function.comp_def] using this)
theorem tmod11 (e : Int) : -10 ≤ e.tmod 11 ∧ e.tmod 11 ≤ 10 := by
 have h1 := Int.natAbs_tmod e 11
 have h2 : e.natAbs % (11 : Int).natAbs < 11 := Nat.mod_lt _ (by decide)
 omega
set_option maxRecDepth 100000 in
set_option maxHeartbeats 8000000 in
theorem sp_DecFit (s : ByteArray) (e : Int) (w : World) (hs : s.size ≤ 2147483647) :
  Calls Tryz.prog 14 #[.agg #[.string s, .int .i64 e], .int .i64 20, .int .i64 10] w fun en w' => ∃ z e', en = .returned (DC z e') ∧ z.natAbs < 10 ^ 20 ∧ -10 ≤ e' ∧ e' ≤ 10 ∧ Fr NoS w w' := by
 obtain ⟨u0, hu0⟩ : ∃ u0 : World, Hid (u0 = (w.alloc (.cells #[.string s, .int .i64 e] TDec (0, 0))).alloc (.cells #[.string ⟨#[]⟩, .int .i64 0] TDec (0, 0))) := ⟨_, Lib.hid rfl⟩
 have hA : Fr NoS w u0 := by rw [hu0.out]; exact ((Fr.refl NoS w).alloc _).alloc _
 have hsz : u0.heap.size = w.heap.size + 1 + 1 := by rw [hu0.out]; simp
 have B0 : u0.heap[w.heap.size]? = some (.cells #[.string s, .int .i64 e] TDec (0, 0)) := by rw [hu0.out, old1 (by simp), new1 (by simp)]
 have B1 : u0.heap[w.heap.size + 1]? = some (.cells #[.string ⟨#[]⟩, .int .i64 0] TDec (0, 0)) := by rw [hu0.out, new1 (by simp)]
 go_enter Tryz.func14, Tryz.ntmps14
 go_wp2_with fail
 rw [← hu0.out]
 go_loopw [7, 8] (fun vb vi wr => ∃ (i n : Nat), i ≤ s.size ∧ vi = .int .i64 i ∧ Row .u8 T8 wr vb (dg n).length (fun j => (dg n).reverse.getD j 0) ∧ (dg n).length ≤ 20 ∧ (dg n).length ≤ i ∧ Fr NoS u0 wr ∧ Hid (∀ k, vb.ownBlock = some k → u0.heap.size ≤ k))
  (fun _ vi _ => s.size - (intOf vi).toNat)
 case atStart => exact ⟨0, 0, Nat.zero_le _, rfl, by rw [dg_zero]; exact Row.nil _ _ _ _, by rw [dg_zero]; exact Nat.zero_le _, by rw [dg_zero]; exact Nat.le_refl _, Fr.refl _ _, fun k hk => by simp [Value.ownBlock] at hk⟩
 case round =>
  obtain ⟨i, n, hi, rfl, hR, h20, hni, hfr, hown⟩ := hrel
  have D0 := hfr.kp B0
  obtain ⟨c00, c01, _, _⟩ := cells2 D0
  obtain ⟨N, hN⟩ : ∃ N, Hid (N = (dg n).length) := ⟨_, Lib.hid rfl⟩
  have hn0 : Hid (N = 0 ↔ n = 0) := by show _ ↔ _; rw [hN.out]; exact dg_len_zero n
  rw [← hN.out] at hR h20 hni
  obtain ⟨A, c, rfl⟩ := hR.shape'
  by_cases hlt : i < s.size ∧ N < 20
  ·obtain ⟨hi1, hN1⟩ := hlt
   obtain ⟨ch, hch⟩ : ∃ ch : Nat, Hid (ch = (s[i]'hi1).toNat) := ⟨_, Lib.hid rfl⟩
   have k0 : ∀ h : i < s.size, ((s[i]'h).toNat : Int) = ch := fun h => by rw [hch.out]
   have d1 : decide ((i : Int) < (s.size : Int)) = true := decide_eq_true (by omega)
   have d2 : decide ((N : Int) < 20) = true := decide_eq_true (by omega)
   have hi2 : (i : Int) < (s.size : Int) := by omega
   have hi3 : (0 : Int) ≤ (i : Int) := by omega
   have wi : IntKind.i64.wrap ((i : Int) + 1) = (i : Int) + 1 := IntWalk.i64_in _ (by omega)
   by_cases g1 : 48 ≤ ch
   ·have b1 : decide ((48 : Int) ≤ (ch : Int)) = true := decide_eq_true (by omega)
    have b1' : decide (48 ≤ ch) = true := decide_eq_true g1
    by_cases g2 : ch ≤ 57
    ·have b2 : decide ((ch : Int) ≤ 57) = true := decide_eq_true (by omega)
     have b2' : decide (ch ≤ 57) = true := decide_eq_true g2
     by_cases g3 : 0 < N
     ·have b3 : decide ((0 : Int) < (N : Int)) = true := decide_eq_true (by omega)
      have b3' : decide (0 < N) = true := decide_eq_true g3
      have hor : n ≠ 0 ∨ ch ≠ 48 := by have := hn0.out; omega
      have hlen : (dg (10 * n + (ch - 48))).length = N + 1 := by rw [dg_push n ch g1 g2 hor, List.length_cons, hN.out]
      have hget := fun j => dg_push_get n ch j g1 g2 hor
      rw [← hN.out] at hget
      have HG := Lib.hid (And.intro hlen hget)
      clear hlen hget hor
      have hRa : ∀ o, Row .u8 T8 (wr.alloc o) (.slice A N c) N (fun j => (dg n).reverse.getD j 0) := fun o => hR.fr ((Fr.refl NoS wr).alloc o) (fun _ _ x => x)
      go_wp2_with (at_builtin; (refine wpList_pushs (K := .u8) (T := T8) rfl (.tmp 43) (.tmp 45) 65 rfl Tryz.underlying65 info8' rfl (by omega) (.slice A N c) N [ch] rfl (hRa _) wr.heap.size 1 1 rfl rfl (by omega) (by omega) (one_cell wr _ _ _ _ rfl) (by omega) ?_; intro gw cw ww hR' hf' hat'))
      go_roundw
      case rel =>
       refine ⟨i + 1, 10 * n + (ch - 48), by omega, by go_num, ?_, by rw [HG.out.1]; omega, by rw [HG.out.1]; omega, (hfr.trans' ((Fr.refl NoS wr).alloc _)).trans hf' (fun k hk e => ?_), fun k hk => ?_⟩
       ·rw [HG.out.1]
        exact hR'.congr fun j hj => HG.out.2 j hj
       ·have := hown.out k e; omega
       ·simp only [Value.ownBlock, Option.some.injEq] at hk
        subst hk
        rcases hat' with e | e
        ·exact hown.out _ e
        ·rw [World.size_alloc] at e; have := hfr.size; omega
      case measure => simp [intOf]; omega
     ·have b3 : decide ((0 : Int) < (N : Int)) = false := decide_eq_false (by omega)
      have b3' : decide (0 < N) = false := decide_eq_false g3
      by_cases g4 : ch = 48
      ·have b4 : ((ch : Int) != 48) = false := by simp; omega
       have b4' : ((ch : Int) == 48) = true := by simp; omega
       go_wp2
       go_roundw
       case rel => exact ⟨i + 1, n, by omega, by go_num, by rw [← hN.out]; exact hR, by rw [← hN.out]; omega, by rw [← hN.out]; omega, hfr, hown⟩
       case measure => simp [intOf]; omega
      ·have b4 : ((ch : Int) != 48) = true := by simp; omega
       have b4' : ((ch : Int) == 48) = false := by simp; omega
       have hor : n ≠ 0 ∨ ch ≠ 48 := by have := hn0.out; omega
       have hlen : (dg (10 * n + (ch - 48))).length = N + 1 := by rw [dg_push n ch g1 g2 hor, List.length_cons, hN.out]
       have hget := fun j => dg_push_get n ch j g1 g2 hor
       rw [← hN.out] at hget
       have HG := Lib.hid (And.intro hlen hget)
       clear hlen hget hor
       have hRa : ∀ o, Row .u8 T8 (wr.alloc o) (.slice A N c) N (fun j => (dg n).reverse.getD j 0) := fun o => hR.fr ((Fr.refl NoS wr).alloc o) (fun _ _ x => x)
       go_wp2_with (at_builtin; (refine wpList_pushs (K := .u8) (T := T8) rfl (.tmp 43) (.tmp 45) 65 rfl Tryz.underlying65 info8' rfl (by omega) (.slice A N c) N [ch] rfl (hRa _) wr.heap.size 1 1 rfl rfl (by omega) (by omega) (one_cell wr _ _ _ _ rfl) (by omega) ?_; intro gw cw ww hR' hf' hat'))
       go_roundw
       case rel =>
        refine ⟨i + 1, 10 * n + (ch - 48), by omega, by go_num, ?_, by rw [HG.out.1]; omega, by rw [HG.out.1]; omega, (hfr.trans' ((Fr.refl NoS wr).alloc _)).trans hf' (fun k hk e => ?_), fun k hk => ?_⟩
        ·rw [HG.out.1]
         exact hR'.congr fun j hj => HG.out.2 j hj
        ·have := hown.out k e; omega
        ·simp only [Value.ownBlock, Option.some.injEq] at hk
         subst hk
         rcases hat' with e | e
         ·exact hown.out _ e
         ·rw [World.size_alloc] at e; have := hfr.size; omega
       case measure => simp [intOf]; omega
    ·have b2 : decide ((ch : Int) ≤ 57) = false := decide_eq_false (by omega)
     have b2' : decide (ch ≤ 57) = false := decide_eq_false g2
     go_wp2
     go_roundw
     case rel => exact ⟨i + 1, n, by omega, by go_num, by rw [← hN.out]; exact hR, by rw [← hN.out]; omega, by rw [← hN.out]; omega, hfr, hown⟩
     case measure => simp [intOf]; omega
   ·have b1 : decide ((48 : Int) ≤ (ch : Int)) = false := decide_eq_false (by omega)
    have b1' : decide (48 ≤ ch) = false := decide_eq_false g1
    go_wp2
    go_roundw
    case rel => exact ⟨i + 1, n, by omega, by go_num, by rw [← hN.out]; exact hR, by rw [← hN.out]; omega, by rw [← hN.out]; omega, hfr, hown⟩
    case measure => simp [intOf]; omega
  ·obtain ⟨str, hstr⟩ : ∃ str, Hid (strOfNums ((List.range N).map fun j => ((dg n).reverse.getD j 0 : Nat)) = str) := ⟨_, rfl⟩
   have hall : ∀ W, Fr NoS wr W → W.cell? ⟨w.heap.size, 0, none⟩ = some (.string s) ∧ W.cell? ⟨w.heap.size, 1, none⟩ = some (.int .i64 e) ∧ (convert 65 9 (.slice A N c)).run Tryz.prog W = .ok (.string str) W := fun W f => ⟨(cells2 (f.kp D0)).1, (cells2 (f.kp D0)).2.1, by rw [← hstr.out]; exact (hR.fr f (fun _ _ x => x)).str⟩
   have hW : Fr NoS w wr := hA.trans' hfr
   have D1 := hfr.kp B1
   have hstrN : Hid (n ≠ 0 → str = tz (n : Int)) := by
    show _ → _
    intro h; rw [← hstr.out, hN.out]; exact str_dg n h
   have hsl : Hid (str.size = N) := by show _ = _; rw [← hstr.out, size_sn, List.length_map, List.length_range]
   have hE := tmod11 e
   obtain ⟨E, hEE⟩ : ∃ E, Hid (e.tmod 11 = E) := ⟨_, rfl⟩
   rw [hEE.out] at hE
   have e11 : IntKind.i64.wrap 11 = 11 := rfl
   have hx : (i = s.size) ∨ (i < s.size ∧ N = 20) := by omega
   have hn20 : Hid (n < 10 ^ 20) := by
    show _ < _
    have h1 := dg_lt n
    rw [← hN.out] at h1
    exact Nat.lt_of_lt_of_le h1 (Nat.pow_le_pow_right (by omega) (by omega))
   rcases hx with hx | ⟨hx1, hx2⟩
   case' inl =>
    have d1 : decide ((i : Int) < (s.size : Int)) = false := decide_eq_false (by omega)
    have d1' : decide (i < s.size) = false := decide_eq_false (by omega)
    clear hx
   case' inr =>
    have d1 : decide ((i : Int) < (s.size : Int)) = true := decide_eq_true (by omega)
    have d1' : decide (i < s.size) = true := decide_eq_true (by omega)
    have d2 : decide ((N : Int) < 20) = false := decide_eq_false (by omega)
    have d2' : decide (N < 20) = false := decide_eq_false (by omega)
    clear hx1 hx2
   all_goals
    go_wp2_with fail
    refine wp_region_held_drew (S := (fun w' => w'.cell? ⟨w.heap.size, 0, none⟩ = some (.string s) ∧ w'.cell? ⟨w.heap.size, 1, none⟩ = some (.int .i64 e) ∧ (convert 65 9 (.slice A N c)).run Tryz.prog w' = .ok (.string str) w')) (by kernel_rfl) (hall _ (Fr.refl NoS wr).drew) (fun hHeld => ?_)
    refine tkA 0 ?_
    try simp only [Act.put, zA, zB, zC, zD, zE, zF]
    refine tkA 1 ?_
    try simp only [Act.put, zA, zB, zC, zD, zE, zF]
    refine tkA 2 ?_
    try simp only [Act.put, zA, zB, zC, zD, zE, zF]
    refine tkA 3 ?_
    try simp only [Act.put, zA, zB, zC, zD, zE, zF]
    refine tkA 4 ?_
    try simp only [Act.put, zA, zB, zC, zD, zE, zF]
    refine tkA 5 ?_
    try simp only [Act.put, zA, zB, zC, zD, zE, zF]
    refine tkA 6 ?_
    try simp only [Act.put, zA, zB, zC, zD, zE, zF]
    refine tkA 7 ?_
    try simp only [Act.put, zA, zB, zC, zD, zE, zF]
    refine wpAnyH_ready (rs := [8]) (by kernel_rfl) (by simp) ?_
    refine AllReadyH.cons rfl (fun K hK => ?_) AllReadyH.nil
    go_simp
    refine hK.out _ _ (hall _ ((Fr.refl NoS wr).drew.alloc _)) (fun hHeld => ?_)
    clear hK K
    try simp only [Act.put, zA, zB, zC, zD, zE, zF]
    refine wpAnyH_ready (rs := [9]) (by kernel_rfl) (by simp) ?_
    refine AllReadyH.cons rfl (fun K hK => ?_) AllReadyH.nil
    go_simp
    refine hK.out _ _ (hall _ (((Fr.refl NoS wr).alloc _).drew)) (fun hHeld => ?_)
    clear hK K
    try simp only [Act.put, zA, zB, zC, zD, zE, zF]
    refine wpAnyH_done (by kernel_rfl) ?_ _
    obtain ⟨u2, hu2⟩ : ∃ u2 : World, Hid (u2 = (wr.alloc (.cells #[.string str, .int .i64 (e.tmod 11)] TDec (0, 0))).drew) := ⟨_, Lib.hid rfl⟩
    rw [← hu2.out]
    have f2 : Fr NoS wr u2 := by rw [hu2.out]; exact ((Fr.refl NoS wr).alloc _).drew
    have K2 : u2.heap[wr.heap.size]? = some (.cells #[.string str, .int .i64 E] TDec (0, 0)) := by rw [hu2.out, ← hEE.out]; exact heap_alloc_new wr _
    have R2 := f2.kp D1
    have hW2 : Fr NoS w u2 := hW.trans' f2
    have hl1 := (zLt D1)
    have ns1 : w.heap.size + 1 ≠ wr.heap.size := by omega
    have ns2 : wr.heap.size ≠ w.heap.size + 1 := by omega
    have hle : w.heap.size ≤ wr.heap.size := by omega
    obtain ⟨x0, x1, _, _⟩ := cells2 (f2.kp D0)
    obtain ⟨k0, k1, kf0, kf1⟩ := cells2 K2
    obtain ⟨r0, r1, rf0, rf1⟩ := cells2 R2
    clear c00 c01 hHeld
    rcases Nat.eq_zero_or_pos N with h0 | h0
    ·have q1 : ((N : Int) == 0) = true := by simp; exact h0
     have hF := Lib.hid (((hW2.setCell ⟨wr.heap.size, 0, none⟩ (.string ⟨#[48]⟩) (.inl hle)).setCell ⟨w.heap.size + 1, 0, none⟩ (.string ⟨#[48]⟩) (.inl (Nat.le_succ _))).setCell ⟨w.heap.size + 1, 1, none⟩ (.int .i64 E) (.inl (Nat.le_succ _)))
     clear h0 hR hall hfr hown hW hW2 K2 R2 D0 D1 B0 B1 hA
     go_wp2
     exact bodyPost_ret (v := .agg #[.string ⟨#[48]⟩, .int .i64 E]) (by simp [results, Tryz.results14, go_sem, r0, r1, ns1, ns2]) rfl ⟨0, E, by rw [str_zero], Nat.pow_pos (by omega), hE.1, hE.2, hF.out⟩
    ·have q1 : ((N : Int) == 0) = false := by simp; omega
     have hs0 : 0 < s.size := by omega
     have hs1 : (0 : Int) < (s.size : Int) := by omega
     have hnz : n ≠ 0 := by have := hn0.out; omega
     have hsn := hstrN.out hnz
     have hlz : 1 + str.size ≤ 9223372036854775807 := by have := hsl.out; omega
     obtain ⟨ch, hch⟩ : ∃ ch : Nat, Hid (ch = (s[0]'hs0).toNat) := ⟨_, Lib.hid rfl⟩
     have k9 : ∀ h : 0 < s.size, ((s[0]'h).toNat : Int) = ch := fun h => by rw [hch.out]
     have HS := Lib.hid (And.intro hsn hnz)
     clear hsn hnz hstrN
     by_cases g : ch = 45
     ·have b1 : ((ch : Int) == 45) = true := by simp; omega
      have hm : Hid ((⟨#[45]⟩ : ByteArray) ++ str = tz (-(n : Int))) := by
       show _ = _
       rw [HS.out.1, ← tz_minus (-(n : Int)) (by have := HS.out.2; omega), Int.natAbs_neg, Int.natAbs_natCast]
      obtain ⟨st2, hst2⟩ : ∃ st2, (⟨#[45]⟩ : ByteArray) ++ str = st2 := ⟨_, rfl⟩
      rw [hst2] at hm
      have hF := Lib.hid (((hW2.setCell ⟨wr.heap.size, 0, none⟩ (.string st2) (.inl hle)).setCell ⟨w.heap.size + 1, 0, none⟩ (.string st2) (.inl (Nat.le_succ _))).setCell ⟨w.heap.size + 1, 1, none⟩ (.int .i64 E) (.inl (Nat.le_succ _)))
      clear g h0 hR hall hfr hown hW hW2 K2 R2 D0 D1 B0 B1 hA
      go_wp2
      exact bodyPost_ret (v := .agg #[.string st2, .int .i64 E]) (by simp [results, Tryz.results14, go_sem, r0, r1, ns1, ns2]) rfl ⟨-(n : Int), E, by rw [hm.out], by rw [Int.natAbs_neg, Int.natAbs_natCast]; exact hn20.out, hE.1, hE.2, hF.out⟩
     ·have b1 : ((ch : Int) == 45) = false := by simp; omega
      have hF := Lib.hid ((hW2.setCell ⟨w.heap.size + 1, 0, none⟩ (.string str) (.inl (Nat.le_succ _))).setCell ⟨w.heap.size + 1, 1, none⟩ (.int .i64 E) (.inl (Nat.le_succ _)))
      clear g h0 hR hall hfr hown hW hW2 K2 R2 D0 D1 B0 B1 hA
      go_wp2
      exact bodyPost_ret (v := .agg #[.string str, .int .i64 E]) (by simp [results, Tryz.results14, go_sem, r0, r1, ns1, ns2]) rfl ⟨(n : Int), E, by rw [HS.out.1], by rw [Int.natAbs_natCast]; exact hn20.out, hE.1, hE.2, hF.out⟩
end Go.Proofs.YtilmldfbmmcchaaGreatDoor
