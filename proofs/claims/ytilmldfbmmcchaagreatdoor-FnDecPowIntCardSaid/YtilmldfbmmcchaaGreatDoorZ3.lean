/- Natural numbers of nine digits a limb, as lists: what the printed functions compute. Natural numbers of nine digits a limb compared. What the functions compute, and that they compute it. Conditions: each theorem bears its own. -/
import Derived.Test.YtilmldfbmmcchaaGreatDoorZ2
set_option linter.unusedVariables false
set_option linter.unusedSimpArgs false
namespace Go.Proofs.YtilmldfbmmcchaaGreatDoor.PFnDecPowInt
open Go.RowKit Go.Proofs.YtilmldfbmmcchaaGreatDoorW.PrintWords Go.Proofs.YtilmldfbmmcchaaGreatDoorW.PrintLast Go.Proofs.YtilmldfbmmcchaaGreatDoorW.PrintMore
def val : List Int → Int
 | [] => 0
 | x :: xs => x + 1000000000 * val xs
def P9 (k : Nat) : Int := 1000000000 ^ k
theorem P9_zero : P9 0 = 1 := rfl
theorem P9_succ (k : Nat) : P9 (k + 1) = P9 k * 1000000000 := Int.pow_succ _ _
theorem P9_pos (k : Nat) : 0 < P9 k := Int.pow_pos (by omega)
def Lm (l : List Int) : Prop := ∀ x ∈ l, 0 ≤ x ∧ x < 1000000000
def limbs (n : Nat) : List Int := if n = 0 then [] else ((n % 1000000000 : Nat) : Int) :: limbs (n / 1000000000)
termination_by n
decreasing_by omega
theorem Lm.nil : Lm [] := fun x h => by cases h
theorem Lm.cons {x : Int} {l : List Int} (h0 : 0 ≤ x) (h1 : x < 1000000000) (h : Lm l) : Lm (x :: l) := fun y hy => by
 rcases List.mem_cons.1 hy with rfl | hy
 ·exact ⟨h0, h1⟩
 ·exact h y hy
theorem Lm.tail {x : Int} {l : List Int} (h : Lm (x :: l)) : Lm l := fun y hy => h y (List.mem_cons_of_mem _ hy)
theorem Lm.head {x : Int} {l : List Int} (h : Lm (x :: l)) : 0 ≤ x ∧ x < 1000000000 := h x List.mem_cons_self
theorem Lm.append {a b : List Int} (h : Lm a) (k : Lm b) : Lm (a ++ b) := fun x hx => by
 rcases List.mem_append.1 hx with hx | hx
 ·exact h x hx
 ·exact k x hx
theorem Lm.at_ {l : List Int} (h : Lm l) (i : Int) : 0 ≤ rd l i ∧ rd l i < 1000000000 := by
 unfold rd
 by_cases hi : i.toNat < l.length
 ·rw [List.getD_eq_getElem?_getD, List.getElem?_eq_getElem hi]; exact h _ (List.getElem_mem _)
 ·rw [List.getD_eq_getElem?_getD, List.getElem?_eq_none (by omega)]; simp
theorem Lm.set {l : List Int} (h : Lm l) (k : Nat) {y : Int} (h0 : 0 ≤ y) (h1 : y < 1000000000) : Lm (l.set k y) := fun x hx => by
 rcases List.mem_or_eq_of_mem_set hx with hx | rfl
 ·exact h x hx
 ·exact ⟨h0, h1⟩
theorem Lm.drop {l : List Int} (h : Lm l) (k : Nat) : Lm (l.drop k) := fun x hx => h x (List.mem_of_mem_drop hx)
theorem Lm.take {l : List Int} (h : Lm l) (k : Nat) : Lm (l.take k) := fun x hx => h x (List.mem_of_mem_take hx)
theorem Lm.zeros (n : Nat) : Lm (List.replicate n 0) := fun x hx => by rw [List.eq_of_mem_replicate hx]; omega
theorem val_nonneg : ∀ {l : List Int}, Lm l → 0 ≤ val l
 | [], _ => by simp [val]
 | x :: xs, h => by
  have h1 := h.head
  have h2 := val_nonneg h.tail
  simp only [val]; omega
theorem val_lt : ∀ {l : List Int}, Lm l → val l < P9 l.length
 | [], _ => by simp [val, P9]
 | x :: xs, h => by
  have h1 := h.head
  have h2 := val_lt h.tail
  simp only [val, List.length_cons, P9_succ]; omega
theorem val_append : ∀ (a b : List Int), val (a ++ b) = val a + P9 a.length * val b
 | [], b => by simp [val, P9]
 | x :: xs, b => by
  simp only [List.cons_append, val, val_append xs b, List.length_cons, P9_succ]
  grind
theorem val_zeros (n : Nat) : val (List.replicate n 0) = 0 := by
 induction n with
 | zero => rfl
 | succ n ih => rw [List.replicate_succ, val, ih]; rfl
theorem val_set : ∀ (l : List Int) (k : Nat) (y : Int), k < l.length → val (l.set k y) = val l + P9 k * (y - rd l k)
 | [], k, y, h => by simp at h
 | x :: xs, 0, y, _ => by simp [val, rd, P9_zero]; omega
 | x :: xs, k + 1, y, h => by
  have := val_set xs k y (by simpa using h)
  have e : rd (x :: xs) ((k + 1 : Nat) : Int) = rd xs k := by simp [rd]
  rw [List.set_cons_succ, val, this, val, e, P9_succ]
  grind
theorem rd_set (l : List Int) (k j : Nat) (y : Int) (hk : k < l.length) : rd (l.set k y) (j : Int) = if j = k then y else rd l j := by
 simp only [rd, Int.toNat_natCast, List.getD_eq_getElem?_getD, List.getElem?_set]
 by_cases h : k = j
 ·subst h; simp [hk]
 ·rw [if_neg h, if_neg (fun e => h e.symm)]
theorem drop_rd (l : List Int) (k : Nat) (hk : k < l.length) : l.drop k = rd l k :: l.drop (k + 1) := by
 rw [List.drop_eq_getElem_cons hk]
 simp [rd, hk]
theorem rd_zeros (n : Nat) (i : Int) : rd (List.replicate n 0) i = 0 := by
 simp only [rd, List.getD_eq_getElem?_getD, List.getElem?_replicate]
 split <;> rfl
theorem limbs_zero : limbs 0 = [] := by rw [limbs, if_pos rfl]
theorem limbs_pos {n : Nat} (h : n ≠ 0) : limbs n = ((n % 1000000000 : Nat) : Int) :: limbs (n / 1000000000) := by rw [limbs, if_neg h]
theorem limbs_lm (n : Nat) : Lm (limbs n) := by
 induction n using Nat.strongRecOn with
 | _ n ih =>
  by_cases h : n = 0
  ·subst h; rw [limbs_zero]; exact Lm.nil
  ·rw [limbs_pos h]
   exact Lm.cons (by omega) (by omega) (ih _ (by omega))
theorem val_limbs (n : Nat) : val (limbs n) = n := by
 induction n using Nat.strongRecOn with
 | _ n ih =>
  by_cases h : n = 0
  ·subst h; rw [limbs_zero]; rfl
  ·rw [limbs_pos h, val, ih _ (by omega)]; omega
theorem ipow_le (B : Nat) (hB : 0 < B) {a b : Nat} (h : a ≤ b) : (B : Int) ^ a ≤ (B : Int) ^ b := by
 rw [← Int.natCast_pow, ← Int.natCast_pow]
 exact Int.ofNat_le.2 (Nat.pow_le_pow_right hB h)
theorem limbs_length_le (n k : Nat) (h : n < 1000000000 ^ k) : (limbs n).length ≤ k := by
 induction k generalizing n with
 | zero => simp at h; subst h; rw [limbs_zero]; exact Nat.le_refl _
 | succ k ih =>
  by_cases h0 : n = 0
  ·subst h0; rw [limbs_zero]; exact Nat.zero_le _
  ·rw [limbs_pos h0, List.length_cons]
   have := ih (n / 1000000000) (by rw [Nat.pow_succ] at h; omega)
   omega
theorem limbs_length_lt (n k : Nat) (h : 1000000000 ^ k ≤ n) : k < (limbs n).length := by
 refine Nat.lt_of_not_le fun hle => ?_
 have h1 := val_lt (limbs_lm n)
 rw [val_limbs] at h1
 have h2 : P9 (limbs n).length ≤ P9 k := ipow_le 1000000000 (by omega) hle
 have h3 : ((1000000000 ^ k : Nat) : Int) ≤ n := Int.ofNat_le.2 h
 rw [Int.natCast_pow] at h3
 exact absurd h1 (Int.not_lt.2 (Int.le_trans h2 h3))
theorem limbs_val : ∀ {l : List Int}, Lm l → (∀ h : l ≠ [], l.getLast h ≠ 0) → limbs (val l).toNat = l
 | [], _, _ => by rw [val]; exact limbs_zero
 | x :: xs, h, hl => by
  have h1 := h.head
  have h2 := val_nonneg h.tail
  have ih := limbs_val h.tail (fun hne => by have := hl (List.cons_ne_nil _ _); rwa [List.getLast_cons hne] at this)
  have hv : val (x :: xs) = x + 1000000000 * val xs := rfl
  by_cases h0 : (val (x :: xs)).toNat = 0
  ·exfalso
   have hx : x = 0 := by omega
   have hx2 : val xs = 0 := by omega
   rw [hx2] at ih
   have : xs = [] := by rw [← ih]; exact limbs_zero
   subst this
   exact hl (List.cons_ne_nil _ _) (by simpa using hx)
  ·rw [limbs_pos h0]
   have e1 : ((((val (x :: xs)).toNat % 1000000000 : Nat)) : Int) = x := by omega
   have e2 : (val (x :: xs)).toNat / 1000000000 = (val xs).toNat := by omega
   rw [e1, e2, ih]
theorem wrap64_small {x : Int} (h0 : -9223372036854775808 ≤ x) (h1 : x < 9223372036854775808) : wrap64 x = x := by unfold wrap64; omega
theorem trim_ev (n : Nat) : ∀ l : List Int, l.length = n → n ≤ 1000000 → Lm l → Ev (fun k => spec_natTrim.f k l) (limbs (val l).toNat) := by
 induction n with
 | zero =>
  intro l hl _ _
  obtain rfl : l = [] := List.length_eq_zero_iff.1 hl
  refine Ev.step (f := fun _ => some []) (fun k => ?_) ?_
  ·simp [spec_natTrim.f, spec_natTrim.l0]
  ·rw [show limbs (val []).toNat = [] from limbs_zero]; exact Ev.now _
 | succ n ih =>
  intro l hl hn hL
  have hne : l ≠ [] := by rintro rfl; simp at hl
  have ew : wrap64 ((l.length : Int) - 1) = n := by rw [wrap64_small (by omega) (by omega)]; omega
  have hlast : rd l (n : Int) = l.getLast hne := by
   simp only [rd, Int.toNat_natCast, List.getD_eq_getElem?_getD]
   rw [List.getLast_eq_getElem, List.getElem?_eq_getElem (by omega)]
   simp only [Option.getD_some]
   congr 1; omega
  by_cases h0 : rd l (n : Int) = 0
  ·have hs : l = l.take n ++ [0] := by
    conv => lhs; rw [← List.take_append_drop n l, drop_rd l n (by omega), h0, List.drop_of_length_le (by omega)]
   have hv : val l = val (l.take n) := by
    conv => lhs; rw [hs, val_append]
    simp [val]
   rw [hv]
   refine Ev.step (f := fun k => spec_natTrim.l0 k (l.take n)) (fun k => ?_) (ih (l.take n) (by rw [List.length_take]; omega) (by omega) (hL.take n))
   simp only [spec_natTrim.f, spec_natTrim.l0]
   rw [ew, if_pos (by omega), if_pos (by omega), if_pos (by omega), if_pos h0, if_pos (by omega)]
   rfl
  ·rw [limbs_val hL (fun h => by rw [← hlast]; exact h0)]
   refine Ev.step (f := fun _ => some l) (fun k => ?_) (Ev.now _)
   simp only [spec_natTrim.f, spec_natTrim.l0]
   rw [ew, if_pos (by omega), if_pos (by omega), if_pos (by omega), if_neg h0]
theorem w64_add (i j : Nat) (h : i + j ≤ 1000000) : wrap64 ((i : Int) + (j : Int)) = ((i + j : Nat) : Int) := by rw [wrap64_small (by omega) (by omega)]; omega
theorem w64_one (i : Nat) (h : i ≤ 1000000) : wrap64 ((i : Int) + 1) = ((i + 1 : Nat) : Int) := by rw [wrap64_small (by omega) (by omega)]; omega
theorem u64_small {x : Int} (h0 : 0 ≤ x) (h1 : x < 18446744073709551616) : IntKind.u64.wrap x = x := by rw [IntKind.wrap_u64]; omega
theorem u64_mul {x y o c : Int} (hx0 : 0 ≤ x) (hx : x < 1000000000) (hy0 : 0 ≤ y) (hy : y < 1000000000) (ho0 : 0 ≤ o) (ho : o < 1000000000) (hc0 : 0 ≤ c) (hc : c < 1000000000) (h0 : 0 ≤ x * y) (h1 : x * y ≤ 999999998000000001) :
  IntKind.u64.wrap (c + (IntKind.u64.wrap (IntKind.u64.wrap o + IntKind.u64.wrap (IntKind.u64.wrap x * IntKind.u64.wrap y)))) = c + (o + x * y) := by
 rw [u64_small hx0 (by omega), u64_small hy0 (by omega), u64_small ho0 (by omega)]
 generalize x * y = p at *
 rw [u64_small h0 (by omega), u64_small (x := o + p) (by omega) (by omega), u64_small (by omega) (by omega)]
theorem u64_div {s : Int} (h0 : 0 ≤ s) (h1 : s < 1000000000000000000) : IntKind.u64.wrap (Int.tdiv s 1000000000) = s / 1000000000 ∧ Int.tmod s 1000000000 % 4294967296 = s % 1000000000 := by
 rw [Int.tmod_eq_emod_of_nonneg h0, Int.tdiv_eq_ediv_of_nonneg h0]
 exact ⟨u64_small (by omega) (by omega), by omega⟩
theorem bb_lt (x y : Int) (hx0 : 0 ≤ x) (hx : x < 1000000000) (hy0 : 0 ≤ y) (hy : y < 1000000000) : 0 ≤ x * y ∧ x * y ≤ 999999998000000001 := by
 refine ⟨Int.mul_nonneg hx0 hy0, ?_⟩
 have := Int.mul_le_mul (show x ≤ 999999999 by omega) (show y ≤ 999999999 by omega) hy0 (by omega)
 omega
theorem mul_inner {v v' p c a b out s xy : Int} (hs : s = c + (out + xy)) (ha : a = s % 1000000000) (hb : b = s / 1000000000) (hv : v' = v + p * (a - out)) : v' + p * 1000000000 * b = v + p * (c + xy) := by
 have : s = 1000000000 * b + a := by omega
 subst hv
 have e : c + xy = s - out := by omega
 rw [e, this]
 grind
theorem mul_inner2 {v v' v2 p b c x y Y Q : Int} (h1 : v' + p * 1000000000 * b = v + p * (c + x * y)) (h2 : v2 + Q = v' + p * 1000000000 * (b + x * Y)) : v2 + Q = v + p * (c + x * (y + 1000000000 * Y)) := by
 rw [h2]
 have : v' + p * 1000000000 * (b + x * Y) = (v' + p * 1000000000 * b) + p * 1000000000 * (x * Y) := by grind
 rw [this, h1]
 grind
set_option maxRecDepth 10000 in
theorem mul_in (l1 l0 : List Int) (h1 : Lm l1) (hn : l0.length + l1.length ≤ 100000) (i : Nat) (hi : i < l0.length) (x : Int) (hx0 : 0 ≤ x) (hx : x < 1000000000) (d : Nat) : ∀ (j : Nat) (out : List Int) (c : Int), j + d = l1.length → Lm out → out.length = l0.length + l1.length → 0 ≤ c → c < 1000000000 →
  ∃ (out' : List Int) (c' : Int), Lm out' ∧ out'.length = out.length ∧ 0 ≤ c' ∧ c' < 1000000000 ∧ val out' + P9 (i + l1.length) * c' = val out + P9 (i + j) * (c + x * val (l1.drop j)) ∧ (∀ p : Nat, i + l1.length ≤ p → rd out' p = rd out p) ∧
   ∀ r, Ev (fun k => spec_NatMul.l0 k l1 (out'.set (i + l1.length) c') l0 (l0.length : Int) ((i + 1 : Nat) : Int)) r → Ev (fun k => spec_NatMul.l1 k l1 out i x c l0 (l0.length : Int) i l1 (l1.length : Int) j) r := by
 induction d with
 | zero =>
  intro j out c hj hO hl hc0 hc
  obtain rfl : j = l1.length := by omega
  refine ⟨out, c, hO, rfl, hc0, hc, by rw [List.drop_length]; simp [val], fun _ _ => rfl, fun r hr => ?_⟩
  refine Ev.step (fun k => ?_) hr
  have e1 : wrap64 ((i : Int) + (l1.length : Int)) = ((i + l1.length : Nat) : Int) := w64_add _ _ (by omega)
  have e2 : wrap64 ((i : Int) + 1) = ((i + 1 : Nat) : Int) := w64_one i (by omega)
  rw [spec_NatMul.l1, if_neg (by omega), e1, if_pos (by omega), if_pos (by omega), e2, Int.toNat_natCast, Int.emod_eq_of_lt hc0 (by omega)]
 | succ d ih =>
  intro j out c hj hO hl hc0 hc
  have a1 : (j : Int) < (l1.length : Int) := by clear hx hx0 hc hc0; omega
  have a2 : (0 : Int) ≤ (j : Int) := Int.natCast_nonneg _
  have a3 : (0 : Int) ≤ ((i + j : Nat) : Int) := Int.natCast_nonneg _
  have a4 : ((i + j : Nat) : Int) < (out.length : Int) := by clear hx hx0 hc hc0; omega
  have a5 : i + j ≤ 1000000 := by clear hx hx0 hc hc0; omega
  have a6 : j ≤ 1000000 := by clear hx hx0 hc hc0; omega
  have hy := h1.at_ j
  have ho := hO.at_ ((i + j : Nat) : Int)
  obtain ⟨y, hyv⟩ : ∃ y, rd l1 (j : Int) = y := ⟨_, rfl⟩
  obtain ⟨o, hov⟩ : ∃ o, rd out ((i + j : Nat) : Int) = o := ⟨_, rfl⟩
  rw [hyv] at hy
  rw [hov] at ho
  have hxy := bb_lt x y hx0 hx hy.1 hy.2
  obtain ⟨s, hs⟩ : ∃ s, s = c + (o + x * y) := ⟨_, rfl⟩
  have hs0 : 0 ≤ s := by omega
  have hs1 : s < 1000000000000000000 := by omega
  obtain ⟨out', c', g1, g2, g3, g4, g5, g6, g7⟩ := ih (j + 1) (out.set (i + j) (s % 1000000000)) (s / 1000000000) (by omega) (hO.set _ (by omega) (by omega)) (by rw [List.length_set]; exact hl) (by omega) (by omega)
  refine ⟨out', c', g1, by rw [g2, List.length_set], g3, g4, ?_, fun p hp => ?_, fun r hr => ?_⟩
  ·have hv := val_set out (i + j) (s % 1000000000) (by omega)
   rw [hov] at hv
   have k1 := mul_inner hs rfl rfl hv
   rw [drop_rd l1 j (by omega), hyv, val]
   rw [← Nat.add_assoc, P9_succ] at g5
   exact mul_inner2 k1 g5
  ·rw [g6 p hp, rd_set _ _ _ _ (by omega), if_neg (by omega)]
  ·refine Ev.step (fun k => ?_) (g7 r hr)
   clear g1 g2 g3 g4 g5 g6 g7 ih hr
   have e1 : wrap64 ((i : Int) + (j : Int)) = ((i + j : Nat) : Int) := w64_add i j a5
   have e2 : wrap64 ((j : Int) + 1) = ((j + 1 : Nat) : Int) := w64_one j a6
   rw [spec_NatMul.l1, if_pos a1, if_pos a2, if_pos a1, e1, if_pos a3, if_pos a4, e2, Int.toNat_natCast, hyv, hov]
   rw [u64_mul hx0 hx hy.1 hy.2 ho.1 ho.2 hc0 hc hxy.1 hxy.2, ← hs, (u64_div hs0 hs1).1, (u64_div hs0 hs1).2]
set_option maxRecDepth 10000 in
theorem mul_out (l1 l0 : List Int) (h0 : Lm l0) (h1 : Lm l1) (hn : l0.length + l1.length ≤ 100000) (d : Nat) : ∀ (i : Nat) (out : List Int), i + d = l0.length → Lm out → out.length = l0.length + l1.length → (∀ p : Nat, i + l1.length ≤ p → rd out p = 0) →
  Ev (fun k => spec_NatMul.l0 k l1 out l0 (l0.length : Int) i) (limbs (val out + P9 i * (val (l0.drop i) * val l1)).toNat) := by
 induction d with
 | zero =>
  intro i out hi hO hl hz
  obtain rfl : i = l0.length := by omega
  rw [List.drop_length, show val [] = 0 from rfl, Int.zero_mul, Int.mul_zero, Int.add_zero]
  have ht := trim_ev out.length out rfl (by omega) hO
  refine Ev.step (f := fun k => spec_natTrim.f k out) (fun k => ?_) ht
  rw [spec_NatMul.l0, if_neg (by omega)]
  exact Option.bind_fun_some _
 | succ d ih =>
  intro i out hi hO hl hz
  have hx := h0.at_ i
  obtain ⟨x, hxv⟩ : ∃ x, rd l0 (i : Int) = x := ⟨_, rfl⟩
  rw [hxv] at hx
  obtain ⟨out', c', g1, g2, g3, g4, g5, g6, g7⟩ := mul_in l1 l0 h1 hn i (by omega) x hx.1 hx.2 l1.length 0 out 0 (by omega) hO hl (by omega) (by omega)
  have IH := ih (i + 1) (out'.set (i + l1.length) c') (by omega) (g1.set _ g3 g4) (by rw [List.length_set, g2, hl]) (fun p hp => by rw [rd_set _ _ _ _ (by omega), if_neg (by omega), g6 p (by omega), hz p (by omega)])
  have K := g7 _ IH
  have hv := val_set out' (i + l1.length) c' (by omega)
  rw [g6 _ (Nat.le_refl _), hz _ (Nat.le_refl _), Int.sub_zero, g5] at hv
  have e : val (out'.set (i + l1.length) c') + P9 (i + 1) * (val (l0.drop (i + 1)) * val l1) = val out + P9 i * (val (l0.drop i) * val l1) := by
   rw [hv, drop_rd l0 i (by omega), hxv, val, P9_succ]
   simp only [Nat.add_zero, List.drop_zero]
   grind
  rw [e] at K
  refine Ev.step (fun k => ?_) K
  rw [spec_NatMul.l0, if_pos (by omega), if_pos (by omega), if_pos (by omega), hxv]
  rfl
theorem mul_ev (l0 l1 : List Int) (h0 : Lm l0) (h1 : Lm l1) (hn : l0.length + l1.length ≤ 100000) : Ev (fun k => spec_NatMul.f k l0 l1) (limbs (val l0 * val l1).toNat) := by
 have e1 : wrap64 ((l0.length : Int) + (l1.length : Int)) = ((l0.length + l1.length : Nat) : Int) := by rw [wrap64_small (by omega) (by omega)]; omega
 have h := mul_out l1 l0 h0 h1 hn l0.length 0 (List.replicate (l0.length + l1.length) 0) (by omega) (Lm.zeros _) (by rw [List.length_replicate]) (fun p _ => rd_zeros _ _)
 rw [val_zeros, P9_zero, List.drop_zero, Int.one_mul, Int.zero_add] at h
 refine Ev.congr (fun k => ?_) h
 rw [spec_NatMul.f, e1, if_pos (by omega), Int.toNat_natCast, if_pos (by omega)]
 rfl
theorem mulN (a b : Nat) (ha : a < 1000000000 ^ 50000) (hb : b < 1000000000 ^ 50000) : Ev (fun k => spec_NatMul.f k (limbs a) (limbs b)) (limbs (a * b)) := by
 have h := mul_ev (limbs a) (limbs b) (limbs_lm a) (limbs_lm b) (by have := limbs_length_le a 50000 ha; have := limbs_length_le b 50000 hb; omega)
 rw [val_limbs, val_limbs, ← Int.natCast_mul, Int.toNat_natCast] at h
 exact h
def spec_NatCmp.l0 : Nat → List Int → List Int → Int → Option (Int)
 | 0, _, _, _ => none
 | k + 1, x0, x1, x5 => if x5 ≥ 0 then (if 0 ≤ x5 then (if x5 < (x0.length : Int) then (if x5 < (x1.length : Int) then (if (rd x0 x5) = (rd x1 x5) then (spec_NatCmp.l0 k x0 x1 (wrap64 (x5 - 1))) else (if (rd x0 x5) < (rd x1 x5) then (some (-1)) else (some 1))) else (none)) else (none)) else (none)) else (some 0)
def spec_NatCmp.f (k : Nat) (l0 : List Int) (l1 : List Int) : Option (Int) := if (l0.length : Int) = (l1.length : Int) then (spec_NatCmp.l0 k l0 l1 (wrap64 ((l0.length : Int) - 1))) else (if (l0.length : Int) < (l1.length : Int) then (some (-1)) else (some 1))
set_option maxHeartbeats 8000000 in
set_option maxRecDepth 100000 in
theorem spec_NatCmp.calls (k : Nat) (A0 : Option Addr) (c0 : Nat) (l0 : List Int) (A1 : Option Addr) (c1 : Nat) (l1 : List Int) (r : Int) (w : World) (hr0 : Kd.C (Kd.int .u32) w A0 l0.length l0) (hc0 : l0.length ≤ c0) (hr1 : Kd.C (Kd.int .u32) w A1 l1.length l1) (hc1 : l1.length ≤ c1) (h : spec_NatCmp.f k l0 l1 = some r) :
  Calls Tryz.prog 48 #[.slice A0 l0.length c0, .slice A1 l1.length c1] w fun e w' => e = .returned (.int .i64 r) ∧ Drawn0 w w' := by
 have HR0 := Aside0.mk hr0
 have HC0 := Aside0.mk hc0
 clear hr0 hc0
 have HR1 := Aside0.mk hr1
 have HC1 := Aside0.mk hc1
 clear hr1 hc1
 have H : (if (l0.length : Int) = (l1.length : Int) then (spec_NatCmp.l0 k l0 l1 (wrap64 ((l0.length : Int) - 1))) else (if (l0.length : Int) < (l1.length : Int) then (some (-1)) else (some 1))) = some r := h
 clear h
 by_cases c3 : (l0.length : Int) = (l1.length : Int)
 ·rw [if_pos c3] at H
  have c3b0 : ((l0.length : Int) == (l1.length : Int)) = true := beq_iff_eq.mpr c3
  have c3b1 : ((l0.length : Int) != (l1.length : Int)) = false := bne_eq_false_iff_eq.mpr c3
  have c3b2 : (l0.length == l1.length) = true := by first | simpa using c3 | (simp at c3 ⊢; omega)
  clear c3
  have H' := Aside0.mk H
  clear H
  go_enter Tryz.func48, Tryz.ntmps48
  go_wp2
  repeat (go_quiet (fail); try go_wp2)
  go_loopg [5] k (fun kq v5 w' => ∃ (x5_1 : Int), v5 = .int .i64 x5_1 ∧ Aside0 (spec_NatCmp.l0 kq l0 l1 x5_1 = some r) ∧ Aside0 (kq ≤ k) ∧ Drawn0 w w')
  case atStart => exact ⟨(wrap64 ((l0.length : Int) - 1)), (by first | rfl | (simp; done) | (simp [*]; done)), H', ⟨Nat.le_refl _⟩, by repeat (first | exact Drawn0.refl _ | apply Drawn0.step)⟩
  case round =>
   clear H'
   try clear c1
   try clear p2
   try clear c3
   try clear c3b0
   try clear c3b1
   try clear c3b2
   obtain ⟨x5_1, rfl, HA, HK1, ⟨m1, rfl⟩⟩ := hrel
   cases gk with
   | zero => exact absurd HA.out (by simp [spec_NatCmp.l0])
   | succ k1 =>
    have H := HA.out
    clear HA
    simp only [spec_NatCmp.l0] at H
    by_cases c4 : x5_1 ≥ 0
    ·rw [if_pos c4] at H
     have c4b0 : decide (0 ≤ x5_1) = true := decide_eq_true c4
     clear c4
     by_cases c5 : 0 ≤ x5_1
     ·rw [if_pos c5] at H
      have c5b0 : decide (0 ≤ x5_1) = true := decide_eq_true c5
      clear c5
      by_cases c6 : x5_1 < (l0.length : Int)
      ·rw [if_pos c6] at H
       have c6b0 : decide (x5_1 < (l0.length : Int)) = true := decide_eq_true c6
       clear c6
       by_cases c7 : x5_1 < (l1.length : Int)
       ·rw [if_pos c7] at H
        have c7b0 : decide (x5_1 < (l1.length : Int)) = true := decide_eq_true c7
        clear c7
        by_cases c8 : (rd l0 x5_1) = (rd l1 x5_1)
        ·rw [if_pos c8] at H
         have c8b0 : ((rd l0 x5_1) == (rd l1 x5_1)) = true := beq_iff_eq.mpr c8
         have c8b1 : ((rd l0 x5_1) != (rd l1 x5_1)) = false := bne_eq_false_iff_eq.mpr c8
         clear c8
         have H' := Aside0.mk H
         clear H
         have p258 : 0 ≤ (x5_1 : Int) := of_decide_eq_true (by first | (with_reducible assumption) | assumption)
         have q258 : x5_1 < (l0.length : Int) := of_decide_eq_true (by first | (with_reducible assumption) | assumption)
         obtain ⟨ad258, e258, hx258_0⟩ := Kd.at_int HR0.out x5_1 p258 q258
         cases e258
         replace p258 := eq_true p258
         replace q258 := eq_true q258
         have p259 : 0 ≤ (x5_1 : Int) := of_decide_eq_true (by first | (with_reducible assumption) | assumption)
         have q259 : x5_1 < (l1.length : Int) := of_decide_eq_true (by first | (with_reducible assumption) | assumption)
         obtain ⟨ad259, e259, hx259_0⟩ := Kd.at_int HR1.out x5_1 p259 q259
         cases e259
         replace p259 := eq_true p259
         replace q259 := eq_true q259
         go_wp2
         repeat (go_quiet (fail); try go_wp2)
         go_roundg k1
         case measure => have := HK1.out; omega
         case rel => exact ⟨(wrap64 (x5_1 - 1)), (by first | rfl | (simp; done) | (simp [*]; done)), H', ⟨by have := HK1.out; omega⟩, by repeat (first | exact Drawn0.refl _ | apply Drawn0.step)⟩
        ·rw [if_neg c8] at H
         have c8b0 : ((rd l0 x5_1) == (rd l1 x5_1)) = false := beq_eq_false_iff_ne.mpr c8
         have c8b1 : ((rd l0 x5_1) != (rd l1 x5_1)) = true := bne_iff_ne.mpr c8
         by_cases c9 : (rd l0 x5_1) < (rd l1 x5_1)
         ·rw [if_pos c9] at H
          have c9b0 : decide ((rd l0 x5_1) < (rd l1 x5_1)) = true := decide_eq_true c9
          clear c9
          obtain rfl := Option.some.inj H
          have p258 : 0 ≤ (x5_1 : Int) := of_decide_eq_true (by first | (with_reducible assumption) | assumption)
          have q258 : x5_1 < (l0.length : Int) := of_decide_eq_true (by first | (with_reducible assumption) | assumption)
          obtain ⟨ad258, e258, hx258_0⟩ := Kd.at_int HR0.out x5_1 p258 q258
          cases e258
          replace p258 := eq_true p258
          replace q258 := eq_true q258
          have p259 : 0 ≤ (x5_1 : Int) := of_decide_eq_true (by first | (with_reducible assumption) | assumption)
          have q259 : x5_1 < (l1.length : Int) := of_decide_eq_true (by first | (with_reducible assumption) | assumption)
          obtain ⟨ad259, e259, hx259_0⟩ := Kd.at_int HR1.out x5_1 p259 q259
          cases e259
          replace p259 := eq_true p259
          replace q259 := eq_true q259
          have p260 : 0 ≤ (x5_1 : Int) := of_decide_eq_true (by first | (with_reducible assumption) | assumption)
          have q260 : x5_1 < (l0.length : Int) := of_decide_eq_true (by first | (with_reducible assumption) | assumption)
          obtain ⟨ad260, e260, hx260_0⟩ := Kd.at_int HR0.out x5_1 p260 q260
          obtain rfl : ad258 = ad260 := (by injection e260)
          replace p260 := eq_true p260
          replace q260 := eq_true q260
          have p261 : 0 ≤ (x5_1 : Int) := of_decide_eq_true (by first | (with_reducible assumption) | assumption)
          have q261 : x5_1 < (l1.length : Int) := of_decide_eq_true (by first | (with_reducible assumption) | assumption)
          obtain ⟨ad261, e261, hx261_0⟩ := Kd.at_int HR1.out x5_1 p261 q261
          obtain rfl : ad259 = ad261 := (by injection e261)
          replace p261 := eq_true p261
          replace q261 := eq_true q261
          go_wp2
          repeat (go_quiet (fail); try go_wp2)
          go_ret
          exact ⟨by first | rfl | (simp; done) | (simp [*]; done), by repeat (first | exact Drawn0.refl _ | apply Drawn0.step)⟩
         ·rw [if_neg c9] at H
          have c9b0 : decide ((rd l0 x5_1) < (rd l1 x5_1)) = false := decide_eq_false c9
          clear c9
          obtain rfl := Option.some.inj H
          have p258 : 0 ≤ (x5_1 : Int) := of_decide_eq_true (by first | (with_reducible assumption) | assumption)
          have q258 : x5_1 < (l0.length : Int) := of_decide_eq_true (by first | (with_reducible assumption) | assumption)
          obtain ⟨ad258, e258, hx258_0⟩ := Kd.at_int HR0.out x5_1 p258 q258
          cases e258
          replace p258 := eq_true p258
          replace q258 := eq_true q258
          have p259 : 0 ≤ (x5_1 : Int) := of_decide_eq_true (by first | (with_reducible assumption) | assumption)
          have q259 : x5_1 < (l1.length : Int) := of_decide_eq_true (by first | (with_reducible assumption) | assumption)
          obtain ⟨ad259, e259, hx259_0⟩ := Kd.at_int HR1.out x5_1 p259 q259
          cases e259
          replace p259 := eq_true p259
          replace q259 := eq_true q259
          have p260 : 0 ≤ (x5_1 : Int) := of_decide_eq_true (by first | (with_reducible assumption) | assumption)
          have q260 : x5_1 < (l0.length : Int) := of_decide_eq_true (by first | (with_reducible assumption) | assumption)
          obtain ⟨ad260, e260, hx260_0⟩ := Kd.at_int HR0.out x5_1 p260 q260
          obtain rfl : ad258 = ad260 := (by injection e260)
          replace p260 := eq_true p260
          replace q260 := eq_true q260
          have p261 : 0 ≤ (x5_1 : Int) := of_decide_eq_true (by first | (with_reducible assumption) | assumption)
          have q261 : x5_1 < (l1.length : Int) := of_decide_eq_true (by first | (with_reducible assumption) | assumption)
          obtain ⟨ad261, e261, hx261_0⟩ := Kd.at_int HR1.out x5_1 p261 q261
          obtain rfl : ad259 = ad261 := (by injection e261)
          replace p261 := eq_true p261
          replace q261 := eq_true q261
          go_wp2
          repeat (go_quiet (fail); try go_wp2)
          go_ret
          exact ⟨by first | rfl | (simp; done) | (simp [*]; done), by repeat (first | exact Drawn0.refl _ | apply Drawn0.step)⟩
       ·rw [if_neg c7] at H
        exact absurd H (by simp)
      ·rw [if_neg c6] at H
       exact absurd H (by simp)
     ·rw [if_neg c5] at H
      exact absurd H (by simp)
    ·rw [if_neg c4] at H
     have c4b0 : decide (0 ≤ x5_1) = false := decide_eq_false c4
     clear c4
     obtain rfl := Option.some.inj H
     go_wp2
     repeat (go_quiet (fail); try go_wp2)
     go_ret
     exact ⟨by first | rfl | (simp; done) | (simp [*]; done), by repeat (first | exact Drawn0.refl _ | apply Drawn0.step)⟩
 ·rw [if_neg c3] at H
  have c3b0 : ((l0.length : Int) == (l1.length : Int)) = false := beq_eq_false_iff_ne.mpr c3
  have c3b1 : ((l0.length : Int) != (l1.length : Int)) = true := bne_iff_ne.mpr c3
  have c3b2 : (l0.length == l1.length) = false := by first | simpa using c3 | (simp at c3 ⊢; omega)
  by_cases c10 : (l0.length : Int) < (l1.length : Int)
  ·rw [if_pos c10] at H
   have c10b0 : decide ((l0.length : Int) < (l1.length : Int)) = true := decide_eq_true c10
   have c10b1 : decide (l0.length < l1.length) = true := decide_eq_true (Int.ofNat_lt.mp c10)
   clear c10
   obtain rfl := Option.some.inj H
   go_enter Tryz.func48, Tryz.ntmps48
   go_wp2
   repeat (go_quiet (fail); try go_wp2)
   go_ret
   exact ⟨by first | rfl | (simp; done) | (simp [*]; done), by repeat (first | exact Drawn0.refl _ | apply Drawn0.step)⟩
  ·rw [if_neg c10] at H
   have c10b0 : decide ((l0.length : Int) < (l1.length : Int)) = false := decide_eq_false c10
   have c10b1 : decide (l0.length < l1.length) = false := decide_eq_false (fun h => c10 (Int.ofNat_lt.mpr h))
   clear c10
   obtain rfl := Option.some.inj H
   go_enter Tryz.func48, Tryz.ntmps48
   go_wp2
   repeat (go_quiet (fail); try go_wp2)
   go_ret
   exact ⟨by first | rfl | (simp; done) | (simp [*]; done), by repeat (first | exact Drawn0.refl _ | apply Drawn0.step)⟩
end Go.Proofs.YtilmldfbmmcchaaGreatDoor.PFnDecPowInt
