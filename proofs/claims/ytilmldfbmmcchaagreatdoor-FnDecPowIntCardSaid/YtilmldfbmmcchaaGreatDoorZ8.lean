/- Natural numbers of nine digits a limb, as lists: division. Natural numbers of nine digits a limb, as lists: division, put together. The decimal text of a whole number, as a list of signs. No conditions. Natural numbers of nine digits a limb, as lists: the decimal text. Conditions: each theorem bears its own. -/
import Derived.Test.YtilmldfbmmcchaaGreatDoorZ6
import Derived.Test.YtilmldfbmmcchaaGreatDoorZ7
set_option linter.unusedVariables false
set_option linter.unusedSimpArgs false
namespace Go.Proofs.YtilmldfbmmcchaaGreatDoor.PFnDecPowInt
open Go.RowKit Go.Proofs.YtilmldfbmmcchaaGreatDoorW.PrintWords Go.Proofs.YtilmldfbmmcchaaGreatDoorW.PrintLast Go.Proofs.YtilmldfbmmcchaaGreatDoorW.PrintMore
theorem px_mul (y g k m : Nat) (hy : y < 1000000000 ^ k) (hg : g < 1000000000) (hk : k + 1 < m) : y * (g + 1) < 1000000000 ^ m := by
 have h1 : y * (g + 1) ≤ 1000000000 ^ k * 1000000000 := Nat.mul_le_mul (Nat.le_of_lt hy) hg
 rw [← Nat.pow_succ] at h1
 exact Nat.lt_of_le_of_lt h1 (Nat.pow_lt_pow_right (by decide) hk)
theorem px_step (R y k m : Nat) (h : R < y * 1000000000) (hy : y < 1000000000 ^ k) (hm : k + 1 = m) : R < 1000000000 ^ m := by
 subst hm
 rw [Nat.pow_succ]
 exact Nat.lt_of_lt_of_le h (Nat.mul_le_mul_right _ (Nat.le_of_lt hy))
theorem pw_le_px (a b c : Nat) (h1 : 0 < a) (h2 : b ≤ c) : a ^ b ≤ a ^ c := Nat.pow_le_pow_right h1 h2
theorem rd_limbs (n i : Nat) : rd (limbs n) (i : Int) = ((n / 1000000000 ^ i % 1000000000 : Nat) : Int) := by
 have h := limbs_drop i n
 have h0 : rd (limbs n) (i : Int) = rd ((limbs n).drop i) 0 := by
  simp [rd, List.getD_eq_getElem?_getD]
 rw [h0, h]
 by_cases hz : n / 1000000000 ^ i = 0
 ·rw [hz, limbs_zero]; rfl
 ·rw [limbs_pos hz]; rfl
theorem short_step {x b rest B Q t : Nat} (ht : t = rest * B + x) : x + B * (b * Q + rest) = b * (t / b + B * Q) + t % b := by
 have := Nat.mod_add_div t b
 have e : b * (t / b + B * Q) + t % b = t + b * (B * Q) := by
  rw [Nat.mul_add]; omega
 rw [e, ht]
 grind
theorem short_dig {x b rest t : Nat} (hb : 0 < b) (hb9 : b < 1000000000) (hr : rest < b) (hx : x < 1000000000) (ht : t = rest * 1000000000 + x) : t / b < 1000000000 ∧ t % b < b ∧ t < 1000000000000000000 := by
 have h1 : t < b * 1000000000 := by omega
 exact ⟨(Nat.div_lt_iff_lt_mul hb).2 (by omega), Nat.mod_lt _ hb, by omega⟩
theorem w_dig (q : Nat) (hq : q < 1000000000) : IntKind.u64.wrap (q : Int) % 4294967296 = (q : Int) := by rw [u64_small (by omega) (by omega)]; omega
theorem short_go {x b rest t : Nat} (hb : 0 < b) (hb9 : b < 1000000000) (hr : rest < b) (hx : x < 1000000000) (ht : t = rest * 1000000000 + x) :
  IntKind.u64.wrap (b : Int) = (b : Int) ∧ IntKind.u64.wrap (IntKind.u64.wrap ((rest : Int) * 1000000000) + IntKind.u64.wrap (x : Int)) = (t : Int) ∧ IntKind.u64.wrap (Int.tdiv (t : Int) (b : Int)) % 4294967296 = ((t / b : Nat) : Int) ∧ Int.tmod (t : Int) (b : Int) = ((t % b : Nat) : Int) := by
 obtain ⟨h1, h2, h3⟩ := short_dig hb hb9 hr hx ht
 have e1 : IntKind.u64.wrap (b : Int) = (b : Int) := u64_small (by omega) (by omega)
 have e2 : Int.tdiv (t : Int) (b : Int) = ((t / b : Nat) : Int) := rfl
 have e3 : Int.tmod (t : Int) (b : Int) = ((t % b : Nat) : Int) := rfl
 refine ⟨e1, ?_, ?_, e3⟩
 ·rw [u64_small (x := (rest : Int) * 1000000000) (by omega) (by omega), u64_small (x := (x : Int)) (by omega) (by omega), u64_small (by omega) (by omega)]; omega
 ·rw [e2]; exact w_dig _ h1
set_option maxRecDepth 10000 in
theorem short_l (n b : Nat) (hb : 0 < b) (hb9 : b < 1000000000) (hn : (limbs n).length ≤ 1000000) (j : Nat) : ∀ (out : List Int) (Q rest : Nat), j ≤ (limbs n).length → Lm out → out.length = (limbs n).length → rest < b → val (out.drop j) = (Q : Int) → n / 1000000000 ^ j = b * Q + rest →
  Ev (fun k => spec_natShort.l0 k (limbs n) (b : Int) out (rest : Int) ((j : Int) - 1)) (limbs (n / b), ((n % b : Nat) : Int)) := by
 induction j with
 | zero =>
  intro out Q rest hj hO hl hr hQ hinv
  rw [Nat.pow_zero, Nat.div_one] at hinv
  rw [List.drop_zero] at hQ
  have ht := trim_ev out.length out rfl (by omega) hO
  rw [hQ, Int.toNat_natCast] at ht
  have e1 : n / b = Q := by rw [hinv, Nat.mul_add_div hb, Nat.div_eq_of_lt hr, Nat.add_zero]
  have e2 : n % b = rest := by rw [hinv, Nat.mul_add_mod, Nat.mod_eq_of_lt hr]
  rw [e1, e2]
  refine Ev.step (f := fun k => (spec_natTrim.f k out).bind fun t => some (t, (rest : Int))) (fun k => ?_) (Ev.bind ht (Ev.now _))
  rw [spec_natShort.l0, if_neg (by simp), Int.emod_eq_of_lt (by omega) (by omega)]
 | succ j ih =>
  intro out Q rest hj hO hl hr hQ hinv
  have ej : ((j + 1 : Nat) : Int) - 1 = (j : Int) := by omega
  have ew : wrap64 ((j : Int) - 1) = (j : Int) - 1 := wrap64_small (by omega) (by omega)
  have a1 : (j : Int) < ((limbs n).length : Int) := by omega
  have a2 : (j : Int) < (out.length : Int) := by omega
  have a3 : j < out.length := by omega
  have hxr := rd_limbs n j
  obtain ⟨x, hx⟩ : ∃ x, n / 1000000000 ^ j % 1000000000 = x := ⟨_, rfl⟩
  have hx9 : x < 1000000000 := by rw [← hx]; exact Nat.mod_lt _ (by omega)
  rw [hx] at hxr
  obtain ⟨t, ht⟩ : ∃ t, t = rest * 1000000000 + x := ⟨_, rfl⟩
  obtain ⟨h1, h2, h3⟩ := short_dig hb hb9 hr hx9 ht
  obtain ⟨g1, g2, g3, g4⟩ := short_go hb hb9 hr hx9 ht
  have hd : (out.set j ((t / b : Nat) : Int)).drop j = ((t / b : Nat) : Int) :: out.drop (j + 1) := by
   rw [drop_rd _ _ (by rw [List.length_set]; exact a3), rd_set _ _ _ _ a3, if_pos rfl]
   congr 1
   rw [List.drop_set, if_pos (by omega)]
  have hinv' : n / 1000000000 ^ j = b * (t / b + 1000000000 * Q) + t % b := by
   rw [← short_step ht, ← hinv, Nat.pow_succ, ← Nat.div_div_eq_div_mul, ← hx]
   have := Nat.mod_add_div (n / 1000000000 ^ j) 1000000000
   omega
  have IH := ih (out.set j ((t / b : Nat) : Int)) (t / b + 1000000000 * Q) (t % b) (by omega) (hO.set _ (by omega) (by omega)) (by rw [List.length_set]; exact hl) h2 (by rw [hd, val, hQ]; omega) hinv'
  have hbne : ¬ ((b : Int) = 0) := by omega
  clear hinv hinv' hQ hd ih
  refine Ev.step (fun k => ?_) IH
  rw [ej, spec_natShort.l0, if_pos (Int.natCast_nonneg _), if_pos (Int.natCast_nonneg _), if_pos a1, hxr, g1, if_neg hbne, if_pos a2, g2, g3, g4, ew, Int.toNat_natCast]
theorem shortN (n b : Nat) (hb : 0 < b) (hb9 : b < 1000000000) (hn : n < 1000000000 ^ 100000) : Ev (fun k => spec_natShort.f k (limbs n) (b : Int)) (limbs (n / b), ((n % b : Nat) : Int)) := by
 have hl := limbs_length_le n 100000 hn
 have hlt : n / 1000000000 ^ (limbs n).length = 0 := by
  have h1 := val_lt (limbs_lm n)
  rw [val_limbs, P9_cast] at h1
  exact Nat.div_eq_of_lt (Int.ofNat_lt.1 h1)
 have h := short_l n b hb hb9 (by omega) (limbs n).length (List.replicate (limbs n).length 0) 0 0 (Nat.le_refl _) (Lm.zeros _) (by rw [List.length_replicate]) hb (by rw [List.drop_of_length_le (by rw [List.length_replicate]; exact Nat.le_refl _)]; rfl) (by rw [hlt]; rfl)
 have ew : wrap64 (((limbs n).length : Int) - 1) = ((limbs n).length : Int) - 1 := wrap64_small (by omega) (by omega)
 refine Ev.congr (fun k => ?_) h
 rw [spec_natShort.f, if_pos (by omega), if_pos (by omega), Int.toNat_natCast, ew]
 rfl
theorem guess_le {R y p yt : Nat} (hyt : yt = y / p) (hp : 0 < p) (hyt0 : 0 < yt) : R / y ≤ R / p / yt := by
 rw [Nat.div_div_eq_div_mul]
 refine Nat.div_le_div_left ?_ (Nat.mul_pos hp hyt0)
 rw [hyt]; exact Nat.mul_div_le y p
theorem guess_val (t yt : Nat) (ht : t < 1000000000000000000) (hyt : 0 < yt) (hyt9 : yt < 1000000000) : ∃ g : Nat, mn (IntKind.u64.wrap (Int.tdiv (t : Int) (yt : Int))) 999999999 = (g : Int) ∧ g < 1000000000 ∧ ∀ m, m ≤ t / yt → m ≤ 999999999 → m ≤ g := by
 have hq : t / yt ≤ t := Nat.div_le_self _ _
 have e : Int.tdiv (t : Int) (yt : Int) = ((t / yt : Nat) : Int) := rfl
 rw [e]
 generalize t / yt = q at hq ⊢
 rw [u64_small (by omega) (by omega)]
 unfold mn
 by_cases h : (999999999 : Int) < (q : Int)
 ·rw [if_pos h]; exact ⟨999999999, rfl, by omega, fun m _ h2 => h2⟩
 ·rw [if_neg h]; exact ⟨q, rfl, by omega, fun m h1 _ => h1⟩
theorem guess_sum (u v : Nat) (hu : u < 1000000000) (hv : v < 1000000000) : IntKind.u64.wrap (IntKind.u64.wrap (u : Int) + IntKind.u64.wrap (IntKind.u64.wrap (v : Int) * 1000000000)) = ((u + v * 1000000000 : Nat) : Int) := by
 rw [u64_small (x := (u : Int)) (by omega) (by omega), u64_small (x := (v : Int)) (by omega) (by omega), u64_small (x := (v : Int) * 1000000000) (by omega) (by omega), u64_small (by omega) (by omega)]; omega
set_option maxRecDepth 10000 in
theorem guessN (R y n : Nat) (hn : (limbs y).length = n + 1) (hns : n ≤ 100000) (hR : R < y * 1000000000) : ∃ g : Nat, spec_natGuess.f (limbs R) (limbs y) = some (g : Int) ∧ g < 1000000000 ∧ R / y ≤ g := by
 have hy0 : 0 < y := by
  rcases Nat.eq_zero_or_pos y with h | h
  ·subst h; rw [limbs_zero] at hn; simp at hn
  ·exact h
 have ylt : y < 1000000000 ^ (n + 1) := by
  have h1 := val_lt (limbs_lm y)
  rw [val_limbs, P9_cast, hn] at h1
  exact Int.ofNat_lt.1 h1
 have hp : 0 < 1000000000 ^ n := Nat.pow_pos (by omega)
 obtain ⟨p, hpv⟩ : ∃ p, 1000000000 ^ n = p := ⟨_, rfl⟩
 have hyt : rd (limbs y) ((n : Nat) : Int) = ((y / p : Nat) : Int) := by
  rw [rd_limbs, hpv, Nat.mod_eq_of_lt]
  refine (Nat.div_lt_iff_lt_mul (by rw [← hpv]; exact hp)).2 ?_
  rw [Nat.mul_comm, ← hpv, ← Nat.pow_succ]; exact ylt
 have hyt9 : y / p < 1000000000 := by
  refine (Nat.div_lt_iff_lt_mul (by rw [← hpv]; exact hp)).2 ?_
  rw [Nat.mul_comm, ← hpv, ← Nat.pow_succ]; exact ylt
 have hyt0 : 0 < y / p := by
  have h := drop_pos (n := y) (i := n) (by omega)
  rw [limbs_drop, val_limbs, hpv] at h
  exact Int.ofNat_le.1 h
 have hRq : R / y ≤ 999999999 := Nat.le_of_lt_succ ((Nat.div_lt_iff_lt_mul hy0).2 (by rw [Nat.mul_comm]; exact hR))
 have hle := guess_le (R := R) (yt := y / p) rfl (by rw [← hpv]; exact hp) hyt0
 have ew : wrap64 (((limbs y).length : Int) - 1) = ((n : Nat) : Int) := by rw [hn, wrap64_small (by omega) (by omega)]; omega
 have ey : IntKind.u64.wrap ((y / p : Nat) : Int) = ((y / p : Nat) : Int) := by
  generalize y / p = q at hyt9 ⊢
  exact u64_small (by omega) (by omega)
 have eyne : ¬ (((y / p : Nat) : Int) = 0) := by
  generalize y / p = q at hyt0 ⊢
  omega
 by_cases h1 : (limbs R).length < (limbs y).length
 ·have := limbs_len_lt h1
  refine ⟨0, ?_, by omega, by rw [Nat.div_eq_of_lt this]; exact Nat.le_refl _⟩
  rw [spec_natGuess.f, if_pos (by omega)]; rfl
 ·have Rlt : R < 1000000000 ^ (n + 2) := by
   rw [Nat.pow_succ]; exact Nat.lt_of_lt_of_le hR (Nat.mul_le_mul_right _ (Nat.le_of_lt ylt))
  have hlR := limbs_length_le R (n + 2) Rlt
  have hu : rd (limbs R) ((n : Nat) : Int) = ((R / p % 1000000000 : Nat) : Int) := by rw [rd_limbs, hpv]
  have hu9 : R / p % 1000000000 < 1000000000 := Nat.mod_lt _ (by omega)
  by_cases h2 : (limbs R).length > (limbs y).length
  ·have hv : rd (limbs R) (((limbs y).length : Nat) : Int) = ((R / p / 1000000000 : Nat) : Int) := by
    rw [rd_limbs, hn, Nat.pow_succ, hpv, ← Nat.div_div_eq_div_mul, Nat.mod_eq_of_lt]
    rw [Nat.div_div_eq_div_mul, ← hpv, ← Nat.pow_succ]
    refine (Nat.div_lt_iff_lt_mul (Nat.pow_pos (by omega))).2 ?_
    rw [Nat.mul_comm, ← Nat.pow_succ]; exact Rlt
   have hv9 : R / p / 1000000000 < 1000000000 := by
    rw [Nat.div_div_eq_div_mul, ← hpv, ← Nat.pow_succ]
    refine (Nat.div_lt_iff_lt_mul (Nat.pow_pos (by omega))).2 ?_
    rw [Nat.mul_comm, ← Nat.pow_succ]; exact Rlt
   have es := guess_sum (R / p % 1000000000) (R / p / 1000000000) hu9 hv9
   have et : R / p % 1000000000 + R / p / 1000000000 * 1000000000 = R / p := by
    generalize R / p = q
    omega
   rw [et] at es
   have ht18 : R / p < 1000000000000000000 := by
    generalize R / p = q at hv9 ⊢
    omega
   obtain ⟨g, g1, g2, g3⟩ := guess_val (R / p) (y / p) ht18 hyt0 hyt9
   refine ⟨g, ?_, g2, g3 _ hle hRq⟩
   have b1 : ¬ (((limbs R).length : Int) < ((limbs y).length : Int)) := by omega
   have b2 : (n : Int) < ((limbs R).length : Int) := by omega
   have b3 : ((limbs R).length : Int) > ((limbs y).length : Int) := by omega
   have b4 : (n : Int) < ((limbs y).length : Int) := by omega
   rw [spec_natGuess.f, if_neg b1, ew, if_pos (Int.natCast_nonneg _), if_pos b2, if_pos b3, if_pos (Int.natCast_nonneg _), if_pos b3, if_pos b4, hyt, ey, if_neg eyne, hu, hv, es, g1]
  ·have hRn : R < 1000000000 ^ (n + 1) := by
    have h3 := val_lt (limbs_lm R)
    rw [val_limbs, P9_cast, show (limbs R).length = n + 1 by omega] at h3
    exact Int.ofNat_lt.1 h3
   have ht9 : R / p < 1000000000 := by
    refine (Nat.div_lt_iff_lt_mul (by rw [← hpv]; exact hp)).2 ?_
    rw [Nat.mul_comm, ← hpv, ← Nat.pow_succ]; exact hRn
   rw [Nat.mod_eq_of_lt ht9] at hu
   obtain ⟨g, g1, g2, g3⟩ := guess_val (R / p) (y / p) (by generalize R / p = q at ht9 ⊢; omega) hyt0 hyt9
   have eu : IntKind.u64.wrap ((R / p : Nat) : Int) = ((R / p : Nat) : Int) := by
    generalize R / p = q at ht9 ⊢
    exact u64_small (by omega) (by omega)
   refine ⟨g, ?_, g2, g3 _ hle hRq⟩
   have b1 : ¬ (((limbs R).length : Int) < ((limbs y).length : Int)) := by omega
   have b2 : (n : Int) < ((limbs R).length : Int) := by omega
   have b3 : ¬ (((limbs R).length : Int) > ((limbs y).length : Int)) := by omega
   have b4 : (n : Int) < ((limbs y).length : Int) := by omega
   rw [spec_natGuess.f, if_neg b1, ew, if_pos (Int.natCast_nonneg _), if_pos b2, if_neg b3, if_pos b4, hyt, ey, if_neg eyne, hu, eu, g1]
theorem le_pow_of (B n : Nat) (hB : 0 < B) (hn : 0 < n) : B ≤ B ^ n := by
 have h := Nat.pow_le_pow_right (n := B) hB hn
 rwa [Nat.pow_one] at h
theorem cmp3_lt {a b : Nat} (h : a < b) : cmp3 a b = -1 := by rw [cmp3, if_pos h]
theorem cmp3_le {a b : Nat} (h : a ≤ b) : ¬ (cmp3 a b > 0) := by
 unfold cmp3; split
 ·omega
 ·rw [if_pos (by omega)]; omega
theorem cmp3_gt {a b : Nat} (h : b < a) : cmp3 a b > 0 := by
 rw [cmp3, if_neg (by omega), if_neg (by omega)]; omega
set_option maxRecDepth 10000 in
theorem div_in (R y : Nat) (hy : 0 < y) (hys : y < 1000000000 ^ 40001) (hRs : R < 1000000000 ^ 40002) (q xs : List Int) (by_ : List Int) (j : Nat) (hj : j < q.length) (hjl : j ≤ 1000000) (res : List Int × List Int)
  (H : Ev (fun k => spec_NatDiv.l0 k (q.set j ((R / y : Nat) : Int)) (limbs (R % y)) by_ xs (limbs y) ((j : Int) - 1)) res) (e : Nat) : ∀ g : Nat, g = R / y + e → g < 1000000000 →
  Ev (fun k => spec_NatDiv.l1 k q (limbs R) by_ xs (limbs y) (j : Int) (g : Int) (limbs (y * g))) res := by
 have hdm := Nat.div_add_mod R y
 have hml := Nat.mod_lt R hy
 obtain ⟨D, hD⟩ : ∃ D, R / y = D := ⟨_, rfl⟩
 obtain ⟨M, hM⟩ : ∃ M, R % y = M := ⟨_, rfl⟩
 rw [hD, hM] at hdm
 rw [hM] at hml
 rw [hD, hM] at H
 rw [hD]
 induction e with
 | zero =>
  intro g hg hg9
  obtain rfl : g = D := by omega
  have hp : y * g < 1000000000 ^ 100000 := Nat.lt_of_le_of_lt (show y * g ≤ R by omega) (Nat.lt_of_lt_of_le hRs (pw_le_px 1000000000 40002 100000 (by decide) (by decide)))
  have C := cmpN (y * g) R hp
  have S := subN R (y * g) (by omega) (Nat.lt_of_lt_of_le hRs (pw_le_px 1000000000 40002 100000 (by decide) (by decide)))
  rw [show R - y * g = M by omega] at S
  have ew : wrap64 ((j : Int) - 1) = (j : Int) - 1 := wrap64_small (by omega) (by omega)
  have hle := cmp3_le (a := y * g) (b := R) (by omega)
  have b1 : (0 : Int) ≤ (j : Int) := Int.natCast_nonneg _
  have b2 : (j : Int) < (q.length : Int) := Int.ofNat_lt.2 hj
  have eg : (g : Int) % 4294967296 = (g : Int) := by clear hp hle hdm hml; omega
  refine Ev.step (fun k => ?_) (Ev.bind (f := fun k t => if t > 0 then (spec_NatSub.f k (limbs (y * g)) (limbs y)).bind fun t392 => spec_NatDiv.l1 k q (limbs R) by_ xs (limbs y) (j : Int) (IntKind.u64.wrap ((g : Int) - 1)) t392 else (spec_NatSub.f k (limbs R) (limbs (y * g))).bind fun t395 => if 0 ≤ (j : Int) then (if (j : Int) < (q.length : Int) then spec_NatDiv.l0 k (q.set ((j : Int)).toNat ((g : Int) % 4294967296)) t395 by_ xs (limbs y) (wrap64 ((j : Int) - 1)) else none) else none) C ?_)
  ·rw [spec_NatDiv.l1]
  ·refine Ev.congr (fun k => if_neg hle) (Ev.bind S ?_)
   refine Ev.congr (fun k => ?_) H
   rw [if_pos b1, if_pos b2, ew, Int.toNat_natCast, eg]
 | succ e ih =>
  intro g hg hg9
  obtain ⟨g, rfl⟩ : ∃ g', g = g' + 1 := ⟨g - 1, by omega⟩
  have IH := ih g (by omega) (by omega)
  have hgt : R < y * (g + 1) := by
   have h1 : y * (D + 1) ≤ y * (g + 1) := Nat.mul_le_mul_left _ (by omega)
   rw [Nat.mul_succ] at h1
   omega
  have hp : y * (g + 1) < 1000000000 ^ 100000 := px_mul y g 40001 100000 hys (Nat.lt_of_succ_lt hg9) (by decide)
  have C := cmpN (y * (g + 1)) R hp
  have S := subN (y * (g + 1)) y (by rw [Nat.mul_succ]; exact Nat.le_add_left _ _) hp
  rw [show y * (g + 1) - y = y * g by rw [Nat.mul_succ]; exact Nat.add_sub_cancel _ _] at S
  have eg : IntKind.u64.wrap (((g + 1 : Nat) : Int) - 1) = (g : Int) := by
   rw [show ((g + 1 : Nat) : Int) - 1 = (g : Int) by omega]
   clear hp hgt hdm hml
   exact u64_small (by omega) (by omega)
  refine Ev.step (fun k => ?_) (Ev.bind (f := fun k t => if t > 0 then (spec_NatSub.f k (limbs (y * (g + 1))) (limbs y)).bind fun t392 => spec_NatDiv.l1 k q (limbs R) by_ xs (limbs y) (j : Int) (IntKind.u64.wrap (((g + 1 : Nat) : Int) - 1)) t392 else (spec_NatSub.f k (limbs R) (limbs (y * (g + 1)))).bind fun t395 => if 0 ≤ (j : Int) then (if (j : Int) < (q.length : Int) then spec_NatDiv.l0 k (q.set ((j : Int)).toNat (((g + 1 : Nat) : Int) % 4294967296)) t395 by_ xs (limbs y) (wrap64 ((j : Int) - 1)) else none) else none) C ?_)
  ·rw [spec_NatDiv.l1]
  ·refine Ev.congr (fun k => if_pos (cmp3_gt hgt)) (Ev.bind S ?_)
   refine Ev.congr (fun k => ?_) IH
   rw [eg]
theorem div_next {X p R y Q x R' : Nat} (h : X / (p * 1000000000) = Q * y + R) (hx : X / p % 1000000000 = x) (hR' : R' = x + 1000000000 * R) (hy : 0 < y) : X / p = (R' / y + 1000000000 * Q) * y + R' % y := by
 rw [← Nat.div_div_eq_div_mul] at h
 have h1 := Nat.mod_add_div (X / p) 1000000000
 have h2 := Nat.mod_add_div R' y
 rw [hx, h] at h1
 rw [← h1]
 have e : (R' / y + 1000000000 * Q) * y + R' % y = R' % y + y * (R' / y) + 1000000000 * Q * y := by grind
 rw [e, h2, hR']
 grind
set_option maxRecDepth 10000 in
theorem div_out (X y c n : Nat) (hc : 0 < c) (hc9 : c < 1000000000) (hn : (limbs y).length = n + 1) (hns : n ≤ 40000) (hXs : (limbs X).length ≤ 40001) (j : Nat) : ∀ (q : List Int) (Q R : Nat), j ≤ (limbs X).length → q.length = (limbs X).length → Lm q → R < y → val (q.drop j) = (Q : Int) → X / 1000000000 ^ j = Q * y + R →
  Ev (fun k => spec_NatDiv.l0 k q (limbs R) [(c : Int)] (limbs X) (limbs y) ((j : Int) - 1)) (limbs (X / y), limbs (X % y / c)) := by
 have hy0 : 0 < y := by
  rcases Nat.eq_zero_or_pos y with h | h
  ·subst h; rw [limbs_zero] at hn; simp at hn
  ·exact h
 have ylt : y < 1000000000 ^ (n + 1) := by
  have h1 := val_lt (limbs_lm y)
  rw [val_limbs, P9_cast, hn] at h1
  exact Int.ofNat_lt.1 h1
 have hy1 : y < 1000000000 ^ 40001 := Nat.lt_of_lt_of_le ylt (pw_le_px 1000000000 (n + 1) 40001 (by decide) (by omega))
 induction j with
 | zero =>
  intro q Q R hj hl hq hR hQ hinv
  rw [Nat.pow_zero, Nat.div_one] at hinv
  rw [List.drop_zero] at hQ
  have S := shortN R c hc hc9 (Nat.lt_trans hR (Nat.lt_of_lt_of_le hy1 (pw_le_px 1000000000 40001 100000 (by decide) (by decide))))
  have T := trim_ev q.length q rfl (by omega) hq
  rw [hQ, Int.toNat_natCast] at T
  have e1 : X / y = Q := by rw [hinv, Nat.mul_comm, Nat.mul_add_div hy0, Nat.div_eq_of_lt hR, Nat.add_zero]
  have e2 : X % y = R := by rw [hinv, Nat.mul_comm, Nat.mul_add_mod, Nat.mod_eq_of_lt hR]
  rw [e1, e2]
  refine Ev.step (f := fun k => (spec_natShort.f k (limbs R) (c : Int)).bind fun b => (spec_natTrim.f k q).bind fun t => some (t, b.1)) (fun k => ?_) (Ev.bind S (Ev.bind T (Ev.now _)))
  rw [spec_NatDiv.l0, if_neg (by simp), if_pos (by simp)]
  rfl
 | succ j ih =>
  intro q Q R hj hl hq hR hQ hinv
  have ej : ((j + 1 : Nat) : Int) - 1 = (j : Int) := by omega
  have a1 : (j : Int) < ((limbs X).length : Int) := by omega
  have a3 : j < q.length := by omega
  have a4 : j ≤ 1000000 := by omega
  have a5 : j ≤ (limbs X).length := by omega
  obtain ⟨x, hx⟩ : ∃ x, X / 1000000000 ^ j % 1000000000 = x := ⟨_, rfl⟩
  have hxr := rd_limbs X j
  rw [hx] at hxr
  have hx9 : x < 1000000000 := by rw [← hx]; exact Nat.mod_lt _ (by omega)
  obtain ⟨R', hR'⟩ : ∃ R', R' = x + 1000000000 * R := ⟨_, rfl⟩
  have hRy : R' < y * 1000000000 := by omega
  have hRl := limbs_length_le R 40001 (Nat.lt_trans hR hy1)
  have hR's : R' < 1000000000 ^ 40002 := px_step R' y 40001 40002 hRy hy1 rfl
  rw [Nat.pow_succ] at hinv
  have hinv' := div_next hinv hx hR' hy0
  have hml := Nat.mod_lt R' hy0
  have hdl : R' / y < 1000000000 := (Nat.div_lt_iff_lt_mul hy0).2 (by rw [Nat.mul_comm]; exact hRy)
  have hdd : (0 : Int) ≤ ((R' / y : Nat) : Int) ∧ ((R' / y : Nat) : Int) < 1000000000 := ⟨Int.natCast_nonneg _, Int.ofNat_lt.2 hdl⟩
  have hd : val ((q.set j ((R' / y : Nat) : Int)).drop j) = ((R' / y + 1000000000 * Q : Nat) : Int) := by
   rw [drop_rd _ _ (by rw [List.length_set]; exact a3), rd_set _ _ _ _ a3, if_pos rfl, List.drop_set, if_pos (by omega), val, hQ, Int.natCast_add, Int.natCast_mul]
   rfl
  have IH := ih (q.set j ((R' / y : Nat) : Int)) (R' / y + 1000000000 * Q) (R' % y) a5 (by rw [List.length_set]; exact hl) (hq.set _ hdd.1 hdd.2) hml hd hinv'
  obtain ⟨g, hg1, hg2, hg3⟩ := guessN R' y n hn (by omega) hRy
  have INN := div_in R' y hy0 hy1 hR's q (limbs X) [(c : Int)] j a3 a4 _ IH (g - R' / y) g (by generalize R' / y = D at hg3 ⊢; omega) hg2
  have hLr : Lm ([(x : Int)] ++ limbs R) := (Lm.cons (by omega) (by omega) Lm.nil).append (limbs_lm R)
  have T := trim_ev ([(x : Int)] ++ limbs R).length ([(x : Int)] ++ limbs R) rfl (by rw [List.length_append, List.length_singleton]; omega) hLr
  have hvr : val ([(x : Int)] ++ limbs R) = (R' : Int) := by
   show val ((x : Int) :: limbs R) = _
   rw [val, val_limbs, hR']; omega
  rw [hvr, Int.toNat_natCast] at T
  have FG := fromN g (Nat.lt_of_lt_of_le hg2 (by decide))
  have MG := mulN y g (Nat.lt_of_lt_of_le hy1 (pw_le_px 1000000000 40001 50000 (by decide) (by decide))) (Nat.lt_of_lt_of_le hg2 (le_pow_of 1000000000 50000 (by omega) (by omega)))
  have b3 : ([(x : Int)] : List Int).length + (limbs R).length < 35184372088832 := by rw [List.length_singleton]; clear hinv hinv' IH INN hd; omega
  clear ih hinv hinv' IH hd
  refine Ev.step (f := fun k => (spec_natTrim.f k ([(x : Int)] ++ limbs R)).bind fun t381 => (spec_natGuess.f t381 (limbs y)).bind fun t384 => (spec_NatFrom.f k t384).bind fun t385 => (spec_NatMul.f k (limbs y) t385).bind fun t388 => spec_NatDiv.l1 k q t381 [(c : Int)] (limbs X) (limbs y) (j : Int) t384 t388) (fun k => ?_) (Ev.bind T ?_)
  ·rw [ej, spec_NatDiv.l0, if_pos (Int.natCast_nonneg _), if_pos (Int.natCast_nonneg _), if_pos a1, hxr]
   simp only [Option.bind_some]
   rw [if_pos b3]
  ·refine Ev.congr (f := fun k => (spec_NatFrom.f k (g : Int)).bind fun t385 => (spec_NatMul.f k (limbs y) t385).bind fun t388 => spec_NatDiv.l1 k q (limbs R') [(c : Int)] (limbs X) (limbs y) (j : Int) (g : Int) t388) (fun k => ?_) (Ev.bind FG (Ev.bind MG INN))
   rw [hg1]; rfl
def divF (a b : Nat) (k : Nat) (t338 : Int) : Option (List Int × List Int) := if t338 < 0 then ((some (([] : List Int) : List Int)).bind fun y339 => (if y339.length + (limbs a).length < 35184372088832 then (some (([] : List Int), (y339 ++ limbs a))) else (none))) else (if ((limbs b).length : Int) = 1 then (if 0 < ((limbs b).length : Int) then ((spec_natShort.f k (limbs a) (rd (limbs b) 0)).bind fun bt346 => ((spec_NatFrom.f k (IntKind.u64.wrap (bt346.2))).bind fun t350 => (some (bt346.1, t350)))) else (none)) else (if 0 ≤ (wrap64 (((limbs b).length : Int) - 1)) then (if (wrap64 (((limbs b).length : Int) - 1)) < ((limbs b).length : Int) then (if (IntKind.u64.wrap ((IntKind.u64.wrap (rd (limbs b) (wrap64 (((limbs b).length : Int) - 1)))) + 1)) = 0 then (none) else ((some (([(IntKind.u64.wrap (Int.tdiv 1000000000 (IntKind.u64.wrap ((IntKind.u64.wrap (rd (limbs b) (wrap64 (((limbs b).length : Int) - 1)))) + 1)))) % 4294967296] : List Int) : List Int)).bind fun y354 => ((spec_NatMul.f k (limbs a) y354).bind fun t357 => ((spec_NatMul.f k (limbs b) y354).bind fun t360 => (if 0 ≤ (t357.length : Int) then (if ((t357.length : Int) : Int).toNat ≤ 70368744177664 then (spec_NatDiv.l0 k (List.replicate ((t357.length : Int) : Int).toNat 0) ([] : List Int) y354 t357 t360 (wrap64 ((t357.length : Int) - 1))) else (none)) else (none)))))) else (none)) else (none)))
theorem tdiv_nat (m n : Nat) : Int.tdiv (m : Int) (n : Int) = ((m / n : Nat) : Int) := rfl
theorem by_val (t : Nat) (ht0 : 0 < t) (ht : t < 1000000000) : ∃ c : Nat, 0 < c ∧ c < 1000000000 ∧ IntKind.u64.wrap (IntKind.u64.wrap (t : Int) + 1) ≠ 0 ∧ IntKind.u64.wrap (Int.tdiv 1000000000 (IntKind.u64.wrap (IntKind.u64.wrap (t : Int) + 1))) % 4294967296 = (c : Int) := by
 have e1 : IntKind.u64.wrap (IntKind.u64.wrap (t : Int) + 1) = ((t + 1 : Nat) : Int) := by
  rw [u64_small (x := (t : Int)) (by omega) (by omega), u64_small (by omega) (by omega)]; omega
 have e2 : Int.tdiv 1000000000 ((t + 1 : Nat) : Int) = ((1000000000 / (t + 1) : Nat) : Int) := by
  rw [show (1000000000 : Int) = ((1000000000 : Nat) : Int) from rfl]
  exact tdiv_nat _ _
 have h1 : 0 < 1000000000 / (t + 1) := Nat.div_pos (by omega) (by omega)
 have h2 : 1000000000 / (t + 1) < 1000000000 := Nat.div_lt_self (by omega) (by omega)
 rw [e1, e2]
 refine ⟨1000000000 / (t + 1), h1, h2, by omega, ?_⟩
 exact w_dig _ h2
def LIM (k : Nat) : Nat := 1000000000 ^ k
theorem lim_lt {a k : Nat} (h : a < LIM k) (m : Nat) (hk : k ≤ m) : a < 1000000000 ^ m := Nat.lt_of_lt_of_le h (Nat.pow_le_pow_right (by omega) hk)
theorem lim_len {a k : Nat} (h : a < LIM k) : (limbs a).length ≤ k := limbs_length_le a k h
theorem lim_mul {a c k : Nat} (h : a < LIM k) (hc : c < 1000000000) : a * c < LIM (k + 1) := by
 unfold LIM; rw [Nat.pow_succ]; exact Nat.mul_lt_mul_of_lt_of_lt h hc
theorem lim_top (n : Nat) : n / 1000000000 ^ (limbs n).length = 0 := by
 have h1 := val_lt (limbs_lm n)
 rw [val_limbs, P9_cast] at h1
 exact Nat.div_eq_of_lt (Int.ofNat_lt.1 h1)
theorem len_one {b : Nat} (h1 : (limbs b).length = 1) : b < 1000000000 := by
 have h := val_lt (limbs_lm b)
 rw [val_limbs, P9_cast, h1, Nat.pow_one] at h
 exact Int.ofNat_lt.1 h
theorem top_digit {b n : Nat} (hn : (limbs b).length = n + 1) : ∃ t : Nat, 0 < t ∧ t < 1000000000 ∧ rd (limbs b) ((n : Nat) : Int) = (t : Int) := by
 have hp : 0 < 1000000000 ^ n := Nat.pow_pos (by omega)
 have hbt := rd_limbs b n
 have hbt0 : 0 < b / 1000000000 ^ n := by
  have h := drop_pos (n := b) (i := n) (by omega)
  rw [limbs_drop, val_limbs] at h
  exact Int.ofNat_le.1 h
 have hbt9 : b / 1000000000 ^ n < 1000000000 := by
  refine (Nat.div_lt_iff_lt_mul hp).2 ?_
  have h := val_lt (limbs_lm b)
  rw [val_limbs, P9_cast, hn] at h
  rw [Nat.mul_comm, ← Nat.pow_succ]; exact Int.ofNat_lt.1 h
 rw [Nat.mod_eq_of_lt hbt9] at hbt
 exact ⟨_, hbt0, hbt9, hbt⟩
theorem len_pos {b : Nat} (hb : 0 < b) : 0 < (limbs b).length := limbs_length_lt b 0 (by rw [Nat.pow_zero]; exact hb)
theorem len_one_rd {b : Nat} (hb9 : b < 1000000000) : rd (limbs b) 0 = (b : Int) := by
 have := rd_limbs b 0
 rw [Nat.pow_zero, Nat.div_one, Nat.mod_eq_of_lt hb9] at this
 exact this
theorem divN_lt (a b : Nat) (ha : a < LIM 40000) (hab : a < b) : Ev (fun k => spec_NatDiv.f k (limbs a) (limbs b)) (limbs (a / b), limbs (a % b)) := by
 have hla := lim_len ha
 have C := cmpN a b (lim_lt ha 100000 (by decide))
 rw [Nat.div_eq_of_lt hab, Nat.mod_eq_of_lt hab, limbs_zero]
 rw [cmp3_lt hab] at C
 refine Ev.bind (f := divF a b) C ?_
 refine Ev.congr (f := fun _ => some (([] : List Int), limbs a)) (fun k => ?_) (Ev.now _)
 rw [divF, if_pos (by omega)]
 simp only [Option.bind_some, List.length_nil, List.nil_append]
 rw [if_pos (by omega)]
theorem divN_one (a b : Nat) (hb : 0 < b) (ha : a < LIM 40000) (hab : ¬ a < b) (h1 : (limbs b).length = 1) : Ev (fun k => spec_NatDiv.f k (limbs a) (limbs b)) (limbs (a / b), limbs (a % b)) := by
 have hla := lim_len ha
 have C := cmpN a b (lim_lt ha 100000 (by decide))
 have hba : b ≤ a := Nat.not_lt.1 hab
 have hc0 : ¬ (cmp3 a b < 0) := by
  rw [cmp3, if_neg hab]; split <;> omega
 have hbs : b < LIM 40000 := Nat.lt_of_le_of_lt hba ha
 have hlb := lim_len hbs
 refine Ev.bind (f := divF a b) C ?_
 have hlb0 := len_pos hb
 obtain ⟨n, hn⟩ : ∃ n, (limbs b).length = n + 1 := ⟨(limbs b).length - 1, by omega⟩
 have hb9 := len_one h1
 have hr : rd (limbs b) 0 = (b : Int) := by
  exact len_one_rd hb9
 have S := shortN a b hb hb9 (lim_lt ha 100000 (by decide))
 have hm := Nat.mod_lt a hb
 have F := fromN (a % b) (by omega)
 have em : IntKind.u64.wrap ((a % b : Nat) : Int) = ((a % b : Nat) : Int) := by
  generalize a % b = m at hm ⊢
  exact u64_small (by omega) (by omega)
 refine Ev.congr (f := fun k => (spec_natShort.f k (limbs a) (b : Int)).bind fun bt346 => (spec_NatFrom.f k (IntKind.u64.wrap (bt346.2))).bind fun t350 => some (bt346.1, t350)) (fun k => ?_) (Ev.bind S ?_)
 ·rw [divF, if_neg hc0, if_pos (by omega), if_pos (by omega), hr]
 ·refine Ev.congr (f := fun k => (spec_NatFrom.f k ((a % b : Nat) : Int)).bind fun t350 => some (limbs (a / b), t350)) (fun k => ?_) (Ev.bind F (Ev.now _))
  rw [em]
set_option maxRecDepth 10000 in
theorem divN_big (a b : Nat) (hb : 0 < b) (ha : a < LIM 40000) (hab : ¬ a < b) (h1 : ¬ (limbs b).length = 1) : Ev (fun k => spec_NatDiv.f k (limbs a) (limbs b)) (limbs (a / b), limbs (a % b)) := by
 have hla := lim_len ha
 have C := cmpN a b (lim_lt ha 100000 (by decide))
 have hba : b ≤ a := Nat.not_lt.1 hab
 have hc0 : ¬ (cmp3 a b < 0) := by
  rw [cmp3, if_neg hab]; split <;> omega
 have hbs : b < LIM 40000 := Nat.lt_of_le_of_lt hba ha
 have hlb := lim_len hbs
 refine Ev.bind (f := divF a b) C ?_
 have hlb0 := len_pos hb
 obtain ⟨n, hn⟩ : ∃ n, (limbs b).length = n + 1 := ⟨(limbs b).length - 1, by omega⟩
 have ew : wrap64 (((limbs b).length : Int) - 1) = ((n : Nat) : Int) := by rw [hn, wrap64_small (by omega) (by omega)]; omega
 obtain ⟨bt, hbt0, hbt9, hbt⟩ := top_digit hn
 obtain ⟨c, hc1, hc2, hc3, hc4⟩ := by_val _ hbt0 hbt9
 have hLc : Lm [(c : Int)] := Lm.cons (by omega) (by omega) Lm.nil
 have hvc : val [(c : Int)] = (c : Int) := by simp [val]
 have M1 := mul_ev (limbs a) [(c : Int)] (limbs_lm a) hLc (by rw [List.length_singleton]; omega)
 have M2 := mul_ev (limbs b) [(c : Int)] (limbs_lm b) hLc (by rw [List.length_singleton]; omega)
 rw [val_limbs, hvc, ← Int.natCast_mul, Int.toNat_natCast] at M1 M2
 have hXl := lim_len (lim_mul ha hc2)
 have hyl := lim_len (lim_mul hbs hc2)
 have hy0 : 0 < b * c := Nat.mul_pos hb hc1
 have hyl0 := len_pos hy0
 obtain ⟨m, hm⟩ : ∃ m, (limbs (b * c)).length = m + 1 := ⟨(limbs (b * c)).length - 1, by omega⟩
 have ew2 : wrap64 (((limbs (a * c)).length : Int) - 1) = ((limbs (a * c)).length : Int) - 1 := wrap64_small (by omega) (by omega)
 have b1 : ¬ (((limbs b).length : Int) = 1) := by omega
 have b2 : (n : Int) < ((limbs b).length : Int) := by omega
 have b3 : (((limbs (a * c)).length : Int)).toNat ≤ 70368744177664 := by omega
 have D := div_out (a * c) (b * c) c m hc1 hc2 hm (by omega) hXl (limbs (a * c)).length (List.replicate (limbs (a * c)).length 0) 0 0 (Nat.le_refl _) (by rw [List.length_replicate]) (Lm.zeros _) hy0 (by rw [List.drop_of_length_le (by rw [List.length_replicate]; exact Nat.le_refl _)]; rfl) (by rw [lim_top (a * c), Nat.zero_mul])
 rw [limbs_zero, Nat.mul_div_mul_right _ _ hc1, Nat.mul_mod_mul_right, Nat.mul_div_cancel _ hc1] at D
 refine Ev.congr (f := fun k => (spec_NatMul.f k (limbs a) [(c : Int)]).bind fun t357 => (spec_NatMul.f k (limbs b) [(c : Int)]).bind fun t360 => (if 0 ≤ (t357.length : Int) then (if ((t357.length : Int) : Int).toNat ≤ 70368744177664 then (spec_NatDiv.l0 k (List.replicate ((t357.length : Int) : Int).toNat 0) ([] : List Int) [(c : Int)] t357 t360 (wrap64 ((t357.length : Int) - 1))) else (none)) else (none))) (fun k => ?_) (Ev.bind M1 (Ev.bind M2 ?_))
 ·rw [divF, if_neg hc0, if_neg b1, ew, if_pos (Int.natCast_nonneg _), if_pos b2, hbt, if_neg hc3, hc4, Option.bind_some]
 ·refine Ev.congr (fun k => ?_) D
  rw [if_pos (Int.natCast_nonneg _), if_pos b3, ew2, Int.toNat_natCast]
theorem divN (a b : Nat) (hb : 0 < b) (ha : a < LIM 40000) : Ev (fun k => spec_NatDiv.f k (limbs a) (limbs b)) (limbs (a / b), limbs (a % b)) := by
 by_cases hab : a < b
 ·exact divN_lt a b ha hab
 ·by_cases h1 : (limbs b).length = 1
  ·exact divN_one a b hb ha hab h1
  ·exact divN_big a b hb ha hab h1
end Go.Proofs.YtilmldfbmmcchaaGreatDoor.PFnDecPowInt
namespace Go.Proofs.YtilmldfbmmcchaaGreatDoor
open Go.RowKit Go.Proofs.YtilmldfbmmcchaaGreatDoorW.PrintWords
def dg (n : Nat) : List Nat := if n = 0 then [] else (48 + n % 10) :: dg (n / 10)
termination_by n
decreasing_by omega
theorem dg_zero : dg 0 = [] := by rw [dg, if_pos rfl]
theorem dg_pos {n : Nat} (h : n ≠ 0) : dg n = (48 + n % 10) :: dg (n / 10) := by rw [dg, if_neg h]
def pad : Nat → Nat → List Nat
 | 0, _ => []
 | k + 1, n => (48 + n % 10) :: pad k (n / 10)
theorem dg_split (k : Nat) : ∀ n V : Nat, 0 < V → n < 10 ^ k → dg (n + 10 ^ k * V) = pad k n ++ dg V := by
 induction k with
 | zero => intro n V _ hn; obtain rfl : n = 0 := by simpa using hn
           simp [pad]
 | succ k ih =>
  intro n V hV hn
  have hp : 0 < 10 ^ k * V := Nat.mul_pos (Nat.pow_pos (by omega)) hV
  have e : n + 10 ^ (k + 1) * V = n + 10 * (10 ^ k * V) := by rw [Nat.pow_succ, Nat.mul_assoc, Nat.mul_left_comm]
  rw [e, dg_pos (by omega), pad, List.cons_append]
  have e1 : (n + 10 * (10 ^ k * V)) % 10 = n % 10 := by omega
  have e2 : (n + 10 * (10 ^ k * V)) / 10 = n / 10 + 10 ^ k * V := by omega
  rw [e1, e2, ih (n / 10) V hV (by rw [Nat.pow_succ] at hn; omega)]
def rst (k n V : Nat) : List Nat := if V = 0 then dg n else pad k n ++ dg V
theorem rst_step (k n V : Nat) (h : n ≠ 0 ∨ 0 < V) : rst (k + 1) n V = (48 + n % 10) :: rst k (n / 10) V := by
 unfold rst
 by_cases hV : V = 0
 ·rw [if_pos hV, if_pos hV]; exact dg_pos (by omega)
 ·rw [if_neg hV, if_neg hV]; rfl
theorem rst_end (V : Nat) : rst 0 0 V = dg V := by
 unfold rst
 by_cases hV : V = 0
 ·rw [if_pos hV, hV]
 ·rw [if_neg hV]; rfl
theorem rst_none (k : Nat) : rst k 0 0 = dg 0 := by unfold rst; rw [if_pos rfl]
theorem rst_start (k n V : Nat) (hn : n < 10 ^ k) : rst k n V = dg (n + 10 ^ k * V) := by
 unfold rst
 by_cases hV : V = 0
 ·rw [if_pos hV, hV]; simp
 ·rw [if_neg hV, dg_split k n V (by omega) hn]
theorem dg_getD : ∀ (j n : Nat), j < (dg n).length → (dg n).getD j 0 = 48 + n / 10 ^ j % 10
 | 0, n, h => by
  have h0 : n ≠ 0 := by rintro rfl; rw [dg_zero] at h; simp at h
  rw [dg_pos h0]; simp
 | j + 1, n, h => by
  have h0 : n ≠ 0 := by rintro rfl; rw [dg_zero] at h; simp at h
  rw [dg_pos h0] at h ⊢
  have := dg_getD j (n / 10) (by simpa using h)
  rw [List.getD_cons_succ, this, Nat.div_div_eq_div_mul, Nat.pow_succ, Nat.mul_comm 10]
theorem dg_lt (n : Nat) : n < 10 ^ (dg n).length := by
 induction n using Nat.strongRecOn with
 | _ n ih =>
  by_cases h : n = 0
  ·subst h; rw [dg_zero]; simp
  ·have := ih (n / 10) (by omega)
   rw [dg_pos h, List.length_cons, Nat.pow_succ]; omega
theorem dg_le (n : Nat) (h : n ≠ 0) : 10 ^ ((dg n).length - 1) ≤ n := by
 induction n using Nat.strongRecOn with
 | _ n ih =>
  rw [dg_pos h, List.length_cons, Nat.add_sub_cancel]
  by_cases h1 : n / 10 = 0
  ·rw [h1, dg_zero]; simp; omega
  ·have h2 := ih (n / 10) (by omega) h1
   have h3 : 0 < (dg (n / 10)).length := by rw [dg_pos h1]; simp
   obtain ⟨k, hk⟩ : ∃ k, (dg (n / 10)).length = k + 1 := ⟨(dg (n / 10)).length - 1, by omega⟩
   rw [hk, Nat.add_sub_cancel] at h2
   rw [hk, Nat.pow_succ]; omega
theorem dg_byte : ∀ n, ∀ x ∈ dg n, 48 ≤ x ∧ x ≤ 57 := by
 intro n
 induction n using Nat.strongRecOn with
 | _ n ih =>
  intro x hx
  by_cases h : n = 0
  ·subst h; rw [dg_zero] at hx; cases hx
  ·rw [dg_pos h] at hx
   rcases List.mem_cons.1 hx with rfl | hx
   ·omega
   ·exact ih (n / 10) (by omega) x hx
theorem dg_length_le (n k : Nat) (h : n < 10 ^ k) : (dg n).length ≤ k := by
 by_cases h0 : n = 0
 ·subst h0; rw [dg_zero]; exact Nat.zero_le _
 ·refine Nat.le_of_not_lt fun hlt => ?_
  have h1 := dg_le n h0
  have h2 : 10 ^ k ≤ 10 ^ ((dg n).length - 1) := Nat.pow_le_pow_right (by omega) (by omega)
  omega
def lz (z : Int) : List Nat := (if z = 0 then [48] else dg z.natAbs) ++ (if z < 0 then [45] else [])
def tz (z : Int) : ByteArray := strOfNums ((lz z).reverse.map Int.ofNat)
theorem lz_byte (z : Int) : ∀ x ∈ lz z, x < 256 := by
 intro x hx
 rcases List.mem_append.1 hx with hx | hx
 ·split at hx
  ·simp at hx; omega
  ·have := dg_byte _ x hx; omega
 ·split at hx
  ·simp at hx; omega
  ·cases hx
theorem size_sn (xs : List Int) : (strOfNums xs).size = xs.length := by simp [strOfNums, ByteArray.size]
theorem tz_size (z : Int) : (tz z).size = (lz z).length := by rw [tz, size_sn]; simp
theorem bt_sn (xs : List Int) (i : Nat) (h : ∀ x ∈ xs, 0 ≤ x ∧ x < 256) (hi : i < xs.length) : bt (strOfNums xs) i = xs.getD i 0 := by
 have hs : i < (strOfNums xs).size := by rw [size_sn]; exact hi
 have := h xs[i] (List.getElem_mem hi)
 rw [bt, dif_pos (by simpa using hs)]
 simp [strOfNums, hi, ByteArray.getElem_eq_getElem_data]
 omega
theorem bt_tz (z : Int) (i : Nat) (hi : i < (lz z).length) : bt (tz z) i = ((lz z).getD ((lz z).length - 1 - i) 0 : Nat) := by
 rw [tz, bt_sn _ _ (fun x hx => by
  obtain ⟨y, hy, rfl⟩ := List.mem_map.1 hx
  have := lz_byte z y (List.mem_reverse.1 hy)
  show 0 ≤ (y : Int) ∧ (y : Int) < 256
  omega) (by simpa using hi)]
 simp only [List.getD_eq_getElem?_getD, List.getElem?_map]
 rw [List.getElem?_reverse hi]
 have hj : (lz z).length - 1 - i < (lz z).length := by omega
 rw [List.getElem?_eq_getElem hj]
 rfl
end Go.Proofs.YtilmldfbmmcchaaGreatDoor
namespace Go.Proofs.YtilmldfbmmcchaaGreatDoor.PFnDecPowInt
open Go.RowKit Go.Proofs.YtilmldfbmmcchaaGreatDoorW.PrintWords Go.Proofs.YtilmldfbmmcchaaGreatDoorW.PrintLast Go.Proofs.YtilmldfbmmcchaaGreatDoorW.PrintMore
theorem pw_le_py (a b c : Nat) (h : a ≤ b) : a ^ c ≤ b ^ c := Nat.pow_le_pow_left h c
def di (l : List Nat) : List Int := l.map Int.ofNat
theorem rev_end {A L : List Int} {m i j : Nat} (hA : A.length = m) (hL : L.length = m) (hij : i + j + 1 = m) (hle : j ≤ i) (h : ∀ p : Nat, p < m → rd A (p : Int) = if p < i ∨ j < p then rd L ((m - 1 - p : Nat) : Int) else rd L (p : Int)) : A = L.reverse := by
 apply List.ext_getElem
 ·rw [List.length_reverse, hA, hL]
 ·intro p h1 h2
  have hp : p < m := by omega
  have e := h p hp
  have e1 : rd A (p : Int) = A[p] := by simp [rd, h1]
  have e2 : ∀ q (hq : q < L.length), rd L (q : Int) = L[q] := fun q hq => by simp [rd, hq]
  rw [List.getElem_reverse, ← e1, e]
  by_cases hc : p < i ∨ j < p
  ·rw [if_pos hc, e2 _ (by omega)]; congr 1; omega
  ·rw [if_neg hc, e2 _ (by omega)]; congr 1; omega
theorem rev_l (L : List Int) (m : Nat) (hL : L.length = m) (hm : m ≤ 1000000) (d : Nat) : ∀ (i j : Nat) (A : List Int), i + j + 1 = m → j - i ≤ d → A.length = m → (∀ p : Nat, p < m → rd A (p : Int) = if p < i ∨ j < p then rd L ((m - 1 - p : Nat) : Int) else rd L (p : Int)) →
  Ev (fun k => spec_Nat_String.l2 k A i j) (strOfNums L.reverse) := by
 induction d with
 | zero =>
  intro i j A hij hd hA h
  rw [← rev_end hA hL hij (by omega) h]
  refine Ev.step (f := fun _ => some (strOfNums A)) (fun k => ?_) (Ev.now _)
  rw [spec_Nat_String.l2, if_neg (by omega)]
 | succ d ih =>
  intro i j A hij hd hA h
  by_cases hlt : i < j
  ·have w1 : wrap64 ((j : Int) - 1) = ((j - 1 : Nat) : Int) := by rw [wrap64_small (by omega) (by omega)]; omega
   refine Ev.step (fun k => ?_) (ih (i + 1) (j - 1) ((A.set i (rd A (j : Int))).set j (rd A (i : Int))) (by omega) (by omega) (by simp [hA]) (fun p hp => ?_))
   ·rw [spec_Nat_String.l2, if_pos (by omega), if_pos (by omega), if_pos (by omega), if_pos (by omega), if_pos (by omega), w64_one i (by omega), w1, Int.toNat_natCast, Int.toNat_natCast]
   ·rw [rd_set _ _ _ _ (by rw [List.length_set]; omega), rd_set _ _ _ _ (by omega)]
    have hi := h i (by omega)
    have hj := h j (by omega)
    rw [if_neg (by omega)] at hi hj
    by_cases e1 : p = j
    ·rw [if_pos e1, hi, if_pos (by omega), e1, show m - 1 - j = i by omega]
    ·rw [if_neg e1]
     by_cases e2 : p = i
     ·rw [if_pos e2, hj, if_pos (by omega), e2, show m - 1 - i = j by omega]
     ·rw [if_neg e2, h p hp]
      by_cases hc : p < i ∨ j < p
      ·rw [if_pos hc, if_pos (by omega)]
      ·rw [if_neg hc, if_neg (by omega)]
  ·rw [← rev_end hA hL hij (by omega) h]
   refine Ev.step (f := fun _ => some (strOfNums A)) (fun k => ?_) (Ev.now _)
   rw [spec_Nat_String.l2, if_neg (by omega)]
theorem str_dig (x : Nat) (hx : x < 4294967296) : (48 + Int.tmod (x : Int) 10) % 256 = Int.ofNat (48 + x % 10) ∧ Int.tdiv (x : Int) 10 % 4294967296 = ((x / 10 : Nat) : Int) := by
 rw [Int.tmod_eq_emod_of_nonneg (by omega), Int.tdiv_eq_ediv_of_nonneg (by omega)]
 constructor
 ·show _ = ((48 + x % 10 : Nat) : Int)
  omega
 ·omega
theorem lim_top' (n : Nat) : n / 1000000000 ^ (limbs n).length = 0 := by
 have h1 := val_lt (limbs_lm n)
 rw [val_limbs, P9_cast] at h1
 exact Nat.div_eq_of_lt (Int.ofNat_lt.1 h1)
theorem limbs_drop' (i : Nat) : ∀ n : Nat, (limbs n).drop i = limbs (n / 1000000000 ^ i) := by
 induction i with
 | zero => intro n; simp
 | succ i ih =>
  intro n
  by_cases h : n = 0
  ·subst h; rw [limbs_zero]; simp [limbs_zero]
  ·rw [limbs_pos h, List.drop_succ_cons, ih, Nat.div_div_eq_div_mul, Nat.pow_succ, Nat.mul_comm]
theorem drop_pos' {n i : Nat} (h : i < (limbs n).length) : 0 < n / 1000000000 ^ i := by
 refine Nat.pos_of_ne_zero fun e => ?_
 have := congrArg List.length (limbs_drop' i n)
 rw [List.length_drop, e, limbs_zero, List.length_nil] at this
 exact absurd this (Nat.sub_ne_zero_of_lt h)
theorem rd_limbs' (n i : Nat) : rd (limbs n) (i : Int) = ((n / 1000000000 ^ i % 1000000000 : Nat) : Int) := by
 have h := limbs_drop' i n
 have h0 : rd (limbs n) (i : Int) = rd ((limbs n).drop i) 0 := by
  simp [rd, List.getD_eq_getElem?_getD]
 rw [h0, h]
 by_cases hz : n / 1000000000 ^ i = 0
 ·rw [hz, limbs_zero]; rfl
 ·rw [limbs_pos hz]; rfl
theorem str_in (n i : Nat) (hi : i + 1 ≤ 1000000) (V : Nat) (hV : (((i + 1 : Nat) : Int) < ((limbs n).length : Int)) ↔ 0 < V) (res : ByteArray) (d : Nat) : ∀ (t x : Nat) (out : List Int), t + d = 9 → x < 10 ^ d → out.length ≤ 10000000 →
  ∀ D : List Nat, di D = out ++ di (rst d x V) → D.length ≤ 10000000 →
  (∀ out' : List Int, di D = out' ++ di (dg V) → Ev (fun k => spec_Nat_String.l0 k (limbs n) out' (limbs n) ((limbs n).length : Int) ((i + 1 : Nat) : Int)) res) →
  Ev (fun k => spec_Nat_String.l1 k (limbs n) out i (x : Int) t (limbs n) ((limbs n).length : Int) i) res := by
 induction d with
 | zero =>
  intro t x out ht hx _ D hD hDl H
  obtain rfl : t = 9 := by omega
  obtain rfl : x = 0 := by simpa using hx
  rw [rst_end] at hD
  refine Ev.step (fun k => ?_) (H out hD)
  rw [spec_Nat_String.l1, if_neg (by decide), w64_one i (by omega)]
 | succ d ih =>
  intro t x out ht hx hol D hD hDl H
  have ht9 : (t : Int) < 9 := by omega
  have hxs : x < 4294967296 := by
   have : 10 ^ (d + 1) ≤ 10 ^ 9 := Nat.pow_le_pow_right (by omega) (by omega)
   rw [show (10 : Nat) ^ 9 = 1000000000 from rfl] at this
   omega
  obtain ⟨g1, g2⟩ := str_dig x hxs
  have ew := w64_one t (by omega)
  have ewi := w64_one i (by omega)
  by_cases hgo : x ≠ 0 ∨ 0 < V
  ·rw [rst_step d x V hgo] at hD
   have hD' : di D = (out ++ [Int.ofNat (48 + x % 10)]) ++ di (rst d (x / 10) V) := by rw [hD, List.append_assoc]; rfl
   have hlen : out.length < 140737488355328 := by omega
   have hx' : x / 10 < 10 ^ d := by rw [Nat.pow_succ] at hx; omega
   have hol' : (out ++ [Int.ofNat (48 + x % 10)]).length ≤ 10000000 := by
    have := congrArg List.length hD'
    rw [List.length_append] at this
    simp only [di, List.length_map] at this
    omega
   refine Ev.step (fun k => ?_) (ih (t + 1) (x / 10) (out ++ [Int.ofNat (48 + x % 10)]) (by omega) hx' hol' D hD' hDl H)
   by_cases h0 : (x : Int) > 0
   ·rw [spec_Nat_String.l1, if_pos ht9, if_pos h0, if_pos hlen, ew, g1, g2]
   ·have hV0 : ((i + 1 : Nat) : Int) < ((limbs n).length : Int) := hV.2 (by omega)
    rw [spec_Nat_String.l1, if_pos ht9, if_neg h0, ewi, if_pos hV0, if_pos hlen, ew, g1, g2]
  ·have hx0 : x = 0 := by omega
   have hV0 : V = 0 := by omega
   subst hx0; subst hV0
   rw [rst_none] at hD
   refine Ev.step (fun k => ?_) (H out hD)
   have hn : ¬ (((i + 1 : Nat) : Int) < ((limbs n).length : Int)) := fun h => absurd (hV.1 h) (by omega)
   rw [spec_Nat_String.l1, if_pos ht9, if_neg (by simp), ewi, if_neg hn]
theorem di_length (l : List Nat) : (di l).length = l.length := by simp [di]
set_option maxRecDepth 10000 in
theorem str_out (n : Nat) (hm : (limbs n).length ≤ 100000) (hd : (dg n).length ≤ 1000000) (d : Nat) : ∀ (i : Nat) (out : List Int), i + d = (limbs n).length → di (dg n) = out ++ di (dg (n / 1000000000 ^ i)) →
  Ev (fun k => spec_Nat_String.l0 k (limbs n) out (limbs n) ((limbs n).length : Int) i) (tz (n : Int)) := by
 induction d with
 | zero =>
  intro i out hi hD
  obtain rfl : i = (limbs n).length := by omega
  rw [lim_top', dg_zero] at hD
  have ho : out = di (dg n) := by rw [hD]; simp [di]
  by_cases hn : n = 0
  ·subst hn
   rw [dg_zero] at ho
   subst ho
   refine Ev.step (f := fun _ => some (⟨#[48]⟩ : ByteArray)) (fun k => ?_) (Ev.now _)
   rw [spec_Nat_String.l0, if_neg (by omega), if_pos (by decide)]
  ·have hp : 0 < out.length := by rw [ho, di_length, dg_pos hn]; simp
   have hlo : out.length ≤ 1000000 := by rw [ho, di_length]; exact hd
   have R := rev_l out out.length rfl hlo (out.length - 1) 0 (out.length - 1) out (by omega) (by omega) rfl (fun p hp => by rw [if_neg (by omega)])
   have et : strOfNums out.reverse = tz (n : Int) := by
    unfold tz
    rw [lz, if_neg (by omega), if_neg (by omega), List.append_nil, ho]
    simp [di]
   rw [et] at R
   have ew : wrap64 ((out.length : Int) - 1) = ((out.length - 1 : Nat) : Int) := by rw [wrap64_small (by omega) (by omega)]; omega
   refine Ev.step (fun k => ?_) R
   rw [spec_Nat_String.l0, if_neg (by omega), if_neg (by omega), ew]
   rfl
 | succ d ih =>
  intro i out hi hD
  have hin : (i : Int) < ((limbs n).length : Int) := by omega
  have hr := rd_limbs' n i
  have hx9 : n / 1000000000 ^ i % 1000000000 < 10 ^ 9 := Nat.mod_lt _ (by omega)
  have hV : (((i + 1 : Nat) : Int) < ((limbs n).length : Int)) ↔ 0 < n / 1000000000 ^ (i + 1) := by
   rw [Int.ofNat_lt]
   constructor
   ·intro h
    have h1 := drop_pos' (n := n) (i := i + 1) h
    exact h1
   ·intro h
    refine Nat.lt_of_not_le fun hle => ?_
    have h1 := lim_top' n
    have h2 : n / 1000000000 ^ (i + 1) ≤ n / 1000000000 ^ (limbs n).length := Nat.div_le_div_left (Nat.pow_le_pow_right (by omega) hle) (Nat.pow_pos (by omega))
    omega
  have eD : dg (n / 1000000000 ^ i) = rst 9 (n / 1000000000 ^ i % 1000000000) (n / 1000000000 ^ (i + 1)) := by
   rw [rst_start 9 _ _ hx9, show 1000000000 ^ (i + 1) = 1000000000 ^ i * 1000000000 from Nat.pow_succ _ _, ← Nat.div_div_eq_div_mul]
   congr 1
   exact (Nat.mod_add_div _ _).symm
  rw [eD] at hD
  have hol : out.length ≤ 10000000 := by
   have := congrArg List.length hD
   rw [List.length_append, di_length] at this
   omega
  have IN := str_in n i (by omega) (n / 1000000000 ^ (i + 1)) hV (tz (n : Int)) 9 0 (n / 1000000000 ^ i % 1000000000) out (by omega) hx9 hol (dg n) hD (by omega) (fun out' h' => ih (i + 1) out' (by omega) h')
  refine Ev.step (fun k => ?_) IN
  rw [spec_Nat_String.l0, if_pos hin, if_pos (Int.natCast_nonneg _), if_pos hin, hr]
  rfl
theorem strN (n : Nat) (hn : n < 10 ^ 5000) : Ev (fun k => spec_Nat_String.f k (limbs n)) (tz (n : Int)) := by
 have h1 := dg_length_le n 5000 hn
 have h2 : (limbs n).length ≤ 5000 := by
  refine limbs_length_le n 5000 (Nat.lt_of_lt_of_le hn ?_)
  exact pw_le_py 10 1000000000 5000 (by decide)
 have h := str_out n (by omega) (by omega) (limbs n).length 0 [] (by omega) (by rw [Nat.pow_zero, Nat.div_one]; rfl)
 exact h
theorem digitsN (n : Nat) (hn : n < 10 ^ 5000) : Ev (fun k => spec_Nat_Digits.f k (limbs n)) (((dg n).length : Nat) : Int) := by
 by_cases h0 : n = 0
 ·subst h0
  rw [limbs_zero, dg_zero]
  refine Ev.congr (f := fun _ => some 0) (fun k => ?_) (Ev.now _)
  rw [spec_Nat_Digits.f, if_pos (by decide)]
 ·have hl : (limbs n).length ≠ 0 := by rw [limbs_pos h0]; simp
  have S := strN n hn
  have hs : (tz (n : Int)).size = (dg n).length := by
   rw [tz_size, lz, if_neg (by omega), if_neg (by omega), List.append_nil]; rfl
  rw [← hs]
  refine Ev.congr (f := fun k => (spec_Nat_String.f k (limbs n)).bind fun t453 => some (t453.size : Int)) (fun k => ?_) (Ev.bind S (Ev.now _))
  rw [spec_Nat_Digits.f, if_neg (by omega)]
end Go.Proofs.YtilmldfbmmcchaaGreatDoor.PFnDecPowInt
