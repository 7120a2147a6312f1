/- Powers of decimals with a negative exponent, by division. Powers of decimals with a negative exponent: the exact road. Powers of decimals with a whole exponent. Powers of decimals with a whole exponent of 32 bits. The door of powers: decimals from data and back, and the power itself. Conditions: each theorem bears its own. -/
import Derived.Test.YtilmldfbmmcchaaGreatDoorZ23
set_option linter.unusedVariables false
set_option linter.unusedSimpArgs false
namespace Go.Proofs.YtilmldfbmmcchaaGreatDoor
open Go.RowKit
theorem pw_up_shop7 (a b c : Nat) (h1 : 0 < a) (h2 : b ≤ c) : a ^ b ≤ a ^ c := Nat.pow_le_pow_right h1 h2
theorem pw_pos_shop7 (a b : Nat) (h1 : 0 < a) : 0 < a ^ b := Nat.pow_pos h1
theorem pw_le_shop7 (a b c d : Nat) (h1 : a < c) (h2 : b ≤ d) (h3 : 0 < d) : a * b < c * d := Nat.mul_lt_mul_of_lt_of_le h1 h2 h3
theorem World.size_alloc' (w : World) (o : Obj) : (w.alloc o).heap.size = w.heap.size + 1 := by simp
theorem cmpI_beq (a b : Nat) : (cmpI a b == 0) = decide (a = b) := by
 rcases Nat.lt_trichotomy a b with h | h | h
 ·rw [cmpI_lt h, decide_eq_false (by omega)]; rfl
 ·rw [cmpI_eq h, decide_eq_true h]; rfl
 ·rw [cmpI_gt h, decide_eq_false (by omega)]; rfl
theorem lt_made (w : World) (o : Obj) : w.heap.size < (w.alloc o).heap.size := by simp
theorem box_made {w w3 : World} {o : Obj} (f : Fr NoS (w.alloc o).drew w3) : w3.heap[w.heap.size]? = some o := (f.block _ (lt_made w o) (fun x => x)).trans (heap_alloc_new w o)
theorem box_made' {w w3 : World} {o : Obj} (f : Fr NoS (w.alloc o) w3) : w3.heap[w.heap.size]? = some o := (f.block _ (lt_made w o) (fun x => x)).trans (heap_alloc_new w o)
theorem box_set {u w5 : World} {b pq : Nat} {a0 a1 : Value} {t : TypeId} {Q : Int} (F5 : Fr NoS u w5) (hq5 : NewZ u w5 pq Q) (hb5 : w5.heap[b]? = some (.cells #[a0, a1] t (0, 0))) (ht : t ≠ TW) (hge : u.heap.size ≤ b) (hne : pq ≠ b) (x y : Value) :
  Fr NoS u ((w5.setCell ⟨b, 0, none⟩ x).setCell ⟨b, 1, none⟩ y) ∧ NewZ u ((w5.setCell ⟨b, 0, none⟩ x).setCell ⟨b, 1, none⟩ y) pq Q ∧ ((w5.setCell ⟨b, 0, none⟩ x).setCell ⟨b, 1, none⟩ y).heap[b]? = some (.cells #[x, y] t (0, 0)) := by
 have fB : Fr (· = b) w5 ((w5.setCell ⟨b, 0, none⟩ x).setCell ⟨b, 1, none⟩ y) := (Fr.set _ _ _ _).trans' (Fr.set _ _ _ _)
 have h1 : (w5.setCell ⟨b, 0, none⟩ x).heap[b]? = some (.cells #[x, a1] t (0, 0)) := by rw [heap_setCell_same w5 b 0 _ _ _ hb5]; rfl
 exact ⟨F5.trans fB (fun i hi e => by omega), hq5.beside fB hb5 ht hge hne, by rw [heap_setCell_same _ b 1 _ _ _ h1]; rfl⟩
theorem Fr.undrew {S : Nat → Prop} {a w : World} (h : Fr S a w) : Fr S a.drew w := ⟨h.os, h.tape, h.output, h.size, h.block⟩
def NegEx (X E q s : Int) : Prop :=
 (q ≠ 0 ∧ q = dround (10 ^ (16 - E).toNat) (X * 10 ^ (E - 16).toNat) ∧ s = -16) ∨
 (dround (10 ^ (16 - E).toNat) (X * 10 ^ (E - 16).toNat) = 0 ∧ ∃ (nd : Nat) (P : Int), IsDig X nd ∧ P = 15 + nd + E - (if X.natAbs = 10 ^ (nd - 1) then 1 else 0) ∧ q = dround (10 ^ (P - E).toNat) (X * 10 ^ (E - P).toNat) ∧ s = -P)
set_option maxRecDepth 100000 in
set_option maxHeartbeats 4000000 in
theorem sh_powNegIntExact (px pn : Nat) (e z : Int) (n : Nat) (w : World) (hx : RI w px z) (hn : RI w pn (n : Int)) (hn1 : 1 ≤ n) (hn2 : n ≤ 20) (he : -10 ≤ e ∧ e ≤ 10) (hz0 : z ≠ 0) (hs : Sm z) (hsm : z.natAbs ^ (n / 2) < BB ^ 11) (hX : (z ^ n).natAbs < 10 ^ 401) (hG : Glob w) :
  Calls Tryz.prog 84 #[DV px e, .pointer (some ⟨pn, 0, none⟩), .int .i32 16] w fun en w' => ∃ p q s, en = .returned (.tuple #[DV p s, .nilIface]) ∧ NewZ w w' p q ∧ NegEx (z ^ n) (n * e) q s := by
 obtain ⟨m, hm⟩ : ∃ m : Int, (n : Int) * e = m := ⟨_, rfl⟩
 have hmb : -200 ≤ m ∧ m ≤ 200 := by
  rw [← hm]
  have h1 : (n : Int) * e ≤ 20 * 10 := by
   rcases Int.le_total 0 e with h | h
   ·exact Int.mul_le_mul (by omega) he.2 h (by omega)
   ·exact Int.le_trans (Int.mul_nonpos_of_nonneg_of_nonpos (by omega) h) (by omega)
  have h2 : (n : Int) * (-e) ≤ 20 * 10 := by
   rcases Int.le_total 0 (-e) with h | h
   ·exact Int.mul_le_mul (by omega) (by omega) h (by omega)
   ·exact Int.le_trans (Int.mul_nonpos_of_nonneg_of_nonpos (by omega) h) (by omega)
  rw [Int.mul_neg] at h2
  omega
 obtain ⟨X, hXv⟩ : ∃ X : Int, z ^ n = X := ⟨_, rfl⟩
 have hX0 : X ≠ 0 := by rw [← hXv]; exact Int.pow_ne_zero hz0
 rw [hXv] at hX
 have hXs : Sm X := Nat.lt_trans hX (by decide +kernel)
 have hXb : X.natAbs < 2 ^ 1390 := Nat.lt_trans hX (by decide +kernel)
 have hXB : ∀ k : Nat, k ≤ 340 → Sm (X * 10 ^ k) := by
  intro k hk
  have h1 : (X * 10 ^ k).natAbs < 10 ^ 401 * 10 ^ 340 := by
   have h0 := pw_le_shop7 X.natAbs (10 ^ k) (10 ^ 401) (10 ^ 340) hX (pw_up_shop7 10 k 340 (by decide) hk) (pw_pos_shop7 10 340 (by decide))
   rw [Int.natAbs_mul, Int.natAbs_pow]
   exact h0
  exact Nat.lt_trans h1 (by decide +kernel)
 have PE := sh_powExact px pn e z n
 rw [hm, hXv] at PE ⊢
 have HX := Lib.hid hX
 have HXb := Lib.hid hXb
 clear hX hXb
 obtain ⟨u0, hu0⟩ : ∃ u0 : World, Hid (u0 = (w.alloc (.cells #[.pointer (some ⟨px, 0, none⟩), .int .i32 e] 48 (0, 0))).alloc (.cells #[.pointer none, .int .i32 0] 48 (0, 0))) := ⟨_, Lib.hid rfl⟩
 have hA : Fr NoS w u0 := by rw [hu0.out]; exact ((Fr.refl NoS w).alloc _).alloc _
 have hu0s : u0.heap.size = w.heap.size + 2 := by rw [hu0.out]; simp
 have B3 : u0.heap[w.heap.size]? = some (.cells #[.pointer (some ⟨px, 0, none⟩), .int .i32 e] 48 (0, 0)) := by rw [hu0.out, old1 (by simp), new1 (by simp)]
 have B6 : u0.heap[w.heap.size + 1]? = some (.cells #[.pointer none, .int .i32 0] 48 (0, 0)) := by rw [hu0.out, new1 (by simp)]
 obtain ⟨c30, c31, _, _⟩ := cells2 B3
 rw [hu0.out] at c30 c31
 have hPE := PE u0 (hx.fr hA) (hn.fr hA) hn1 (by omega) (by omega) hs hsm (hG.fr hA)
 rw [hu0.out] at hPE
 clear PE
 go_enter Tryz.func84, Tryz.ntmps84
 go_wp2_with fail
 refine hPE.mono ?_
 rintro en w1 ⟨p, rfl, hN⟩
 rw [← hu0.out] at hN
 go_wp2_with fail
 obtain ⟨Q1, hQ1⟩ : ∃ Q : Int, dround (10 ^ (16 - m).toNat) (X * 10 ^ (m - 16).toNat) = Q := ⟨_, rfl⟩
 obtain ⟨u2, hu2⟩ : ∃ u2 : World, Hid (u2 = w1.alloc (.cells #[.pointer (some ⟨p, 0, none⟩), .int .i32 m] 48 (0, 0))) := ⟨_, Lib.hid rfl⟩
 rw [← hu2.out]
 have hA2 : Fr NoS w1 u2.drew := by rw [hu2.out]; exact ((Fr.refl NoS w1).alloc _).drew
 have K8 : u2.drew.heap[w1.heap.size]? = some (.cells #[.pointer (some ⟨p, 0, none⟩), .int .i32 m] 48 (0, 0)) := by rw [hu2.out]; exact heap_alloc_new w1 _
 have hu2s : u2.heap.size = w1.heap.size + 1 := by rw [hu2.out]; simp
 have F2 : Fr NoS u0 u2.drew := hN.fr.trans' hA2
 have hu2d : u2.drew.heap.size = w1.heap.size + 1 := hu2s
 have K6 := F2.kp B6
 have K6d := Lib.hid K6
 have hX2 : RI u2.drew p X := hN.rd.fr hA2
 have hG2 : Glob u2.drew := hG.fr (hA.trans' F2)
 obtain ⟨k80, k81, kf0, kf1⟩ := cells2 (show u2.heap[w1.heap.size]? = some (.cells #[.pointer (some ⟨p, 0, none⟩), .int .i32 m] 48 (0, 0)) from K8)
 have nn0 := World.new_ne u2 ⟨w1.heap.size, 0, none⟩ k80
 have n61 : w.heap.size + 1 ≠ u2.heap.size := by have := F2.size; omega
 have n81 : w1.heap.size ≠ u2.heap.size := by omega
 have n81' : u2.heap.size ≠ w1.heap.size := by omega
 have hu2l : w1.heap.size < u2.drew.heap.size := by rw [hu2d]; omega
 clear c30 c31 B3 B6 hu2s hu2d
 go_region_held3 (fun w' => w'.cell? ⟨w1.heap.size, 0, none⟩ = some (.pointer (some ⟨p, 0, none⟩)) ∧ w'.cell? ⟨w1.heap.size, 1, none⟩ = some (.int .i32 m)) (go_keep) (first | (go_at_call 106; (with_reducible refine (sh_New1 _).mono ?_); rintro e w3 ⟨p1, rfl, hN3⟩; have F3 : Fr NoS u2.drew w3 := (by first | exact hN3.fr | exact ((((Fr.refl NoS u2).alloc _).drew).undrew).trans' hN3.fr); (try (have hb : w3.heap[u2.heap.size]? = some (.cells #[.pointer none, .int .i32 0] 48 (0, 0)) := box_made hN3.fr; have hbl : u2.heap.size < w3.heap.size := (zLt hb))); have DR := (fun W (f : Fr NoS w3 W) => sh_DivRound p1 p m 16 X W (hN3.rd.fr f) ((hX2.fr F3).fr f) hX0 hXs (by omega) (by omega) (by omega) (hXB _ (by omega)) ((hG2.fr F3).fr f)); rw [hQ1] at DR; have K8c := F3.kp K8; clear k80 k81 kf0 kf1; obtain ⟨k80, k81, kf0, kf1⟩ := cells2 K8c; have n82 : w1.heap.size ≠ w3.heap.size := (by have := F3.size; omega); have n82' : w3.heap.size ≠ w1.heap.size := (by omega); have n62 : w.heap.size + 1 ≠ w3.heap.size := (by have := F3.size; have := F2.size; omega); clear hN3) | (go_at_call 107; (first | (with_reducible refine (DR w3 (Fr.refl NoS w3)).mono ?_) | (with_reducible refine (DR _ ((Fr.refl NoS w3).alloc _)).mono ?_)); rintro e w5 ⟨pq, rfl, hN5⟩; have F5 : Fr NoS u2.drew w5 := (by first | exact F3.trans' hN5.fr | exact (F3.trans' ((Fr.refl NoS w3).alloc _)).trans' hN5.fr); have hq5 : NewZ u2.drew w5 pq Q1 := (by first | exact hN5.before F3 | exact hN5.before (F3.trans' ((Fr.refl NoS w3).alloc _))); (try (have hb5 : w5.heap[u2.heap.size]? = some (.cells #[.pointer none, .int .i32 0] 48 (0, 0)) := (hN5.fr.block _ (zLt hb) (fun x => x)).trans hb; have hne5 : pq ≠ u2.heap.size := (by have := hN5.old; omega); have hge5 : u2.drew.heap.size ≤ u2.heap.size := Nat.le_refl _; obtain ⟨b50, b51, bf0, bf1⟩ := cells2 hb5)); (try (have hb5 : w5.heap[w3.heap.size]? = some (.cells #[.pointer none, .int .i32 0] 48 (0, 0)) := box_made' hN5.fr; have hne5 : pq ≠ w3.heap.size := (by have h := hN5.old; rw [World.size_alloc'] at h; omega); have hge5 : u2.drew.heap.size ≤ w3.heap.size := F3.size; obtain ⟨b50, b51, bf0, bf1⟩ := cells2 hb5)); have K8d := F5.kp K8; clear k80 k81 kf0 kf1; obtain ⟨k80, k81, kf0, kf1⟩ := cells2 K8d; have n83 : w1.heap.size ≠ w5.heap.size := (by have := F5.size; omega); have n83' : w5.heap.size ≠ w1.heap.size := (by omega); clear hN5))
 all_goals go_wp2_with fail
 all_goals
  first
  | (have BS := And.intro hge5 (box_set F5 hq5 hb5 (by decide) hge5 hne5 (.pointer (some ⟨pq, 0, none⟩)) (.int .i32 (-16))); clear b50 b51 bf0 bf1)
  | (have BS : u2.drew.heap.size ≤ w5.heap.size ∧ Fr NoS u2.drew (w5.alloc (.cells #[.pointer (some ⟨pq, 0, none⟩), .int .i32 (-16)] 48 (0, 0))) ∧ NewZ u2.drew (w5.alloc (.cells #[.pointer (some ⟨pq, 0, none⟩), .int .i32 (-16)] 48 (0, 0))) pq Q1 ∧ (w5.alloc (.cells #[.pointer (some ⟨pq, 0, none⟩), .int .i32 (-16)] 48 (0, 0))).heap[w5.heap.size]? = some (.cells #[.pointer (some ⟨pq, 0, none⟩), .int .i32 (-16)] 48 (0, 0)) := ⟨F5.size, F5.alloc _, hq5.after ((Fr.refl NoS w5).alloc _), heap_alloc_new w5 _⟩)
  obtain ⟨hgB, FZ, hqZ, hbZ⟩ := BS
  have IZ := sh_IsZero pq (-16) Q1 _ hqZ.rd
  (with_reducible refine IZ.mono ?_)
  rintro en w6 ⟨rfl, hf6⟩
  have K8z := FZ.kp K8
  have K6z := FZ.kp K6
  have hb6 := hf6.kp hbZ
  have K86 := hf6.kp K8z
  have K66 := hf6.kp K6z
  have hq6 := hqZ.after hf6
  have F6 := FZ.trans' hf6
  clear K8z K6z hbZ hqZ FZ hf6 IZ
  obtain ⟨y0, y1, _, _⟩ := cells2 hb6
  obtain ⟨z0, z1, zf0, zf1⟩ := cells2 K66
  clear k80 k81 kf0 kf1
  by_cases hq0 : Q1 = 0
  ·rw [decide_eq_true hq0]
   have ND := sh_NumDigits p m X w6 (hX2.fr F6) hX0 HXb.out (hG2.fr F6)
   obtain ⟨k80, k81, _, _⟩ := cells2 K86
   go_wp2_with fail
   refine ND.mono ?_
   rintro en w7 ⟨nd, rfl, hd, hf7⟩
   have hd1 := hd.1
   have hd401 : nd ≤ 401 := by
    refine Nat.le_of_not_lt fun hlt => ?_
    have h1 : (10 : Nat) ^ 401 ≤ 10 ^ (nd - 1) := pw_up_shop7 10 401 (nd - 1) (by decide) (by omega)
    exact absurd (Nat.lt_of_le_of_lt h1 (Nat.lt_of_le_of_lt hd.2.2 HX.out)) (Nat.lt_irrefl _)
   have HD := Lib.hid hd
   clear hd ND
   have w1d : IntKind.i32.wrap (nd : Int) = nd := IntWalk.i32_in _ (by omega)
   have w2d : IntKind.i32.wrap (15 + (nd : Int)) = 15 + nd := IntWalk.i32_in _ (by omega)
   have w3d : IntKind.i32.wrap (15 + (nd : Int) + m) = 15 + nd + m := IntWalk.i32_in _ (by omega)
   have K87 := hf7.kp K86
   clear k80 k81
   obtain ⟨k80, k81, _, _⟩ := cells2 K87
   have KD0 : w7.drew.cell? ⟨w1.heap.size, 1, none⟩ = some (.int .i32 m) := k81
   go_wp2_with fail
   go_region_held3 (fun w' => w'.cell? ⟨w1.heap.size, 1, none⟩ = some (.int .i32 m)) (go_keep) (first | (go_at_call 108; (with_reducible refine (sh_powMinSig _).mono ?_); rintro e w8 ⟨rfl, rfl⟩))
   all_goals go_wp2_with fail
   have F7 := F6.trans' hf7
   have F7d : Fr NoS u2.drew w7.drew := F7.drew
   have eK : (nd : Int) - 1 = ((nd - 1 : Nat) : Int) := by omega
   (with_reducible refine (sh_getValue p m _ X (hX2.fr F7d)).mono ?_)
   rintro en w9 ⟨rfl, hf9⟩
   have F9 := F7d.trans' hf9
   go_wp2_with fail
   refine (sh_pow10 (nd - 1) w9 (by omega) (hG2.fr F9)).mono ?_
   rintro en w10 ⟨pt, rfl, hNt⟩
   have F10 := F9.trans' hNt.fr
   go_wp2_with fail
   refine (z_CmpAbs p pt X (10 ^ (nd - 1)) w10 (hX2.fr F10) hNt.rd).mono ?_
   rintro en w11 ⟨rfl, hf11⟩
   rw [Int.natAbs_pow, show (10 : Int).natAbs = 10 from rfl]
   have F11 := F10.trans' hf11
   have f611 : Fr NoS w6 w11 := ((hf7.drew.trans' hf9).trans' hNt.fr).trans' hf11
   have K811 := f611.kp K86
   have K611 := f611.kp K66
   have hb11 := f611.kp hb6
   clear k80 k81 KD0 y0 y1 z0 z1 zf0 zf1 K8 K6 K86 K66 hb6 K87
   obtain ⟨P, hPv⟩ : ∃ P : Int, P = 15 + nd + m - (if X.natAbs = 10 ^ (nd - 1) then 1 else 0) := ⟨_, rfl⟩
   have hcb := cmpI_beq X.natAbs (10 ^ (nd - 1))
   obtain ⟨cc, hcc⟩ : ∃ cc : Int, cmpI X.natAbs (10 ^ (nd - 1)) = cc := ⟨_, rfl⟩
   rw [hcc] at hcb ⊢
   by_cases hp : X.natAbs = 10 ^ (nd - 1)
   ·rw [if_pos hp] at hPv
    rw [decide_eq_true hp] at hcb
    have wP : IntKind.i32.wrap (15 + (nd : Int) + m - 1) = P := by rw [hPv]; exact IntWalk.i32_in _ (by omega)
    have HPV := Lib.hid hPv
    clear hPv
    go_wp2_with fail
    rw [show (16 : Int) - 1 + nd + m - 1 = P by rw [HPV.out]; omega]
    have IFP : P = 15 + nd + m - (if X.natAbs = 10 ^ (nd - 1) then 1 else 0) := (by rw [if_pos hp]; exact HPV.out)
    obtain ⟨Q2, hQ2⟩ : ∃ Q : Int, dround (10 ^ (P - m).toNat) (X * 10 ^ (m - P).toNat) = Q := ⟨_, rfl⟩
    have NE : NegEx X m Q2 (-P) := .inr ⟨hQ1.trans hq0, nd, P, HD.out, IFP, hQ2.symm, rfl⟩
    have HNE := Lib.hid NE
    clear NE IFP
    have hPb : 14 ≤ P - m ∧ P - m ≤ 416 := (by have := HPV.out; omega)
    have l6 : w.heap.size + 1 < u2.drew.heap.size := (by have := F2.size; omega)
    have hxl : w1.heap.size < w11.heap.size := (zLt K811)
    have hbl : _ < w11.heap.size := (zLt hb11)
    have hXL : RI w11 p X := hX2.fr F11
    have hGL : Glob w11 := hG2.fr F11
    obtain ⟨k80, k81, _, _⟩ := cells2 K811
    go_region_held3 (fun w' => w'.cell? ⟨w1.heap.size, 0, none⟩ = some (.pointer (some ⟨p, 0, none⟩)) ∧ w'.cell? ⟨w1.heap.size, 1, none⟩ = some (.int .i32 m)) (go_keep) (first | (go_at_call 106; (with_reducible refine (sh_New1 _).mono ?_); rintro e w12 ⟨p2, rfl, hN12⟩; have F12 : Fr NoS w11 w12 := ((Fr.refl NoS w11).drew).trans' hN12.fr; have DR := sh_DivRound p2 p m P X w12 hN12.rd (hXL.fr F12) hX0 hXs (by omega) (by omega) (by omega) (hXB _ (by omega)) (hGL.fr F12); rw [hQ2] at DR; have K8c := (F12.block _ hxl (fun x => x)).trans K811; clear k80 k81; obtain ⟨k80, k81, _, _⟩ := cells2 K8c; clear hN12) | (go_at_call 107; (with_reducible refine DR.mono ?_); rintro e w14 ⟨pq2, rfl, hN14⟩; have F14 : Fr NoS w11 w14 := F12.trans' hN14.fr; have hqo : w11.heap.size ≤ pq2 := (by have := hN14.old; have := F12.size; omega); have hq14 : NewZ u2.drew w14 pq2 Q2 := hN14.before (F11.trans' F12); have hb14 := (F14.block _ hbl (fun x => x)).trans hb11; have K614 := F14.kp K611; have BT := box_set (F11.trans' F14) hq14 hb14 (by decide) hgB (by omega) (.pointer (some ⟨pq2, 0, none⟩)) (.int .i32 (-P)); clear k80 k81 hN14; have K814 := (F14.block _ hxl (fun x => x)).trans K811; obtain ⟨x80, x81, _, _⟩ := cells2 K814; have nG := Nat.ne_of_lt (Nat.lt_of_lt_of_le hu2l hgB); have nG' := nG.symm; have n6 := Nat.ne_of_lt (Nat.lt_of_lt_of_le l6 hgB); have n6' := n6.symm; obtain ⟨k80, k81, kf0, kf1⟩ := cells2 hb14; obtain ⟨z0, z1, zf0, zf1⟩ := cells2 K614))
    all_goals
     obtain ⟨FT, hq15, hb15⟩ := BT
     have fin := (hq15.before (hA.trans' F2)).beside (((Fr.refl (fun k => k = w.heap.size + 1) _).setCell ⟨w.heap.size + 1, 0, none⟩ (.pointer (some ⟨pq2, 0, none⟩)) (.inr rfl)).setCell ⟨w.heap.size + 1, 1, none⟩ (.int .i32 (-P)) (.inr rfl)) ((FT.block _ l6 (fun x => x)).trans K6d.out) (by decide) (by omega) (by have := hq15.old; omega)
     have FIN := Lib.hid fin
     clear fin hq15 hb15 FT hb14 K614 K814 K811 K611 hb11 hq14 K8c
     go_wp2
     exact bodyPost_ret (v := .tuple #[DV pq2 (-P), .nilIface]) (by simp [results, Tryz.results84, go_sem, z0, z1]) rfl ⟨_, _, _, rfl, FIN.out, HNE.out⟩
   ·rw [if_neg hp, Int.sub_zero] at hPv
    rw [decide_eq_false hp] at hcb
    have wQ : IntKind.i32.wrap (IntKind.i32.wrap (IntKind.i32.wrap (IntKind.i32.wrap 16 - 1) + (nd : Int)) + m) = P := by
     rw [IntWalk.i32_in 16 (by omega), show (16 : Int) - 1 = 15 from rfl, IntWalk.i32_in 15 (by omega), w2d, w3d, hPv]
    have HPV := Lib.hid hPv
    clear hPv
    go_wp2_with fail
    try rw [wQ]
    have IFP : P = 15 + nd + m - (if X.natAbs = 10 ^ (nd - 1) then 1 else 0) := (by rw [if_neg hp, Int.sub_zero]; exact HPV.out)
    obtain ⟨Q2, hQ2⟩ : ∃ Q : Int, dround (10 ^ (P - m).toNat) (X * 10 ^ (m - P).toNat) = Q := ⟨_, rfl⟩
    have NE : NegEx X m Q2 (-P) := .inr ⟨hQ1.trans hq0, nd, P, HD.out, IFP, hQ2.symm, rfl⟩
    have HNE := Lib.hid NE
    clear NE IFP
    have hPb : 14 ≤ P - m ∧ P - m ≤ 416 := (by have := HPV.out; omega)
    have l6 : w.heap.size + 1 < u2.drew.heap.size := (by have := F2.size; omega)
    have hxl : w1.heap.size < w11.heap.size := (zLt K811)
    have hbl : _ < w11.heap.size := (zLt hb11)
    have hXL : RI w11 p X := hX2.fr F11
    have hGL : Glob w11 := hG2.fr F11
    obtain ⟨k80, k81, _, _⟩ := cells2 K811
    go_region_held3 (fun w' => w'.cell? ⟨w1.heap.size, 0, none⟩ = some (.pointer (some ⟨p, 0, none⟩)) ∧ w'.cell? ⟨w1.heap.size, 1, none⟩ = some (.int .i32 m)) (go_keep) (first | (go_at_call 106; (with_reducible refine (sh_New1 _).mono ?_); rintro e w12 ⟨p2, rfl, hN12⟩; have F12 : Fr NoS w11 w12 := ((Fr.refl NoS w11).drew).trans' hN12.fr; have DR := sh_DivRound p2 p m P X w12 hN12.rd (hXL.fr F12) hX0 hXs (by omega) (by omega) (by omega) (hXB _ (by omega)) (hGL.fr F12); rw [hQ2] at DR; have K8c := (F12.block _ hxl (fun x => x)).trans K811; clear k80 k81; obtain ⟨k80, k81, _, _⟩ := cells2 K8c; clear hN12) | (go_at_call 107; (with_reducible refine DR.mono ?_); rintro e w14 ⟨pq2, rfl, hN14⟩; have F14 : Fr NoS w11 w14 := F12.trans' hN14.fr; have hqo : w11.heap.size ≤ pq2 := (by have := hN14.old; have := F12.size; omega); have hq14 : NewZ u2.drew w14 pq2 Q2 := hN14.before (F11.trans' F12); have hb14 := (F14.block _ hbl (fun x => x)).trans hb11; have K614 := F14.kp K611; have BT := box_set (F11.trans' F14) hq14 hb14 (by decide) hgB (by omega) (.pointer (some ⟨pq2, 0, none⟩)) (.int .i32 (-P)); clear k80 k81 hN14; have K814 := (F14.block _ hxl (fun x => x)).trans K811; obtain ⟨x80, x81, _, _⟩ := cells2 K814; have nG := Nat.ne_of_lt (Nat.lt_of_lt_of_le hu2l hgB); have nG' := nG.symm; have n6 := Nat.ne_of_lt (Nat.lt_of_lt_of_le l6 hgB); have n6' := n6.symm; obtain ⟨k80, k81, kf0, kf1⟩ := cells2 hb14; obtain ⟨z0, z1, zf0, zf1⟩ := cells2 K614))
    all_goals
     obtain ⟨FT, hq15, hb15⟩ := BT
     have fin := (hq15.before (hA.trans' F2)).beside (((Fr.refl (fun k => k = w.heap.size + 1) _).setCell ⟨w.heap.size + 1, 0, none⟩ (.pointer (some ⟨pq2, 0, none⟩)) (.inr rfl)).setCell ⟨w.heap.size + 1, 1, none⟩ (.int .i32 (-P)) (.inr rfl)) ((FT.block _ l6 (fun x => x)).trans K6d.out) (by decide) (by omega) (by have := hq15.old; omega)
     have FIN := Lib.hid fin
     clear fin hq15 hb15 FT hb14 K614 K814 K811 K611 hb11 hq14 K8c
     go_wp2
     exact bodyPost_ret (v := .tuple #[DV pq2 (-P), .nilIface]) (by simp [results, Tryz.results84, go_sem, z0, z1]) rfl ⟨_, _, _, rfl, FIN.out, HNE.out⟩
  ·rw [decide_eq_false hq0]
   have fin := (hq6.before (hA.trans' F2)).beside (((Fr.refl (fun k => k = w.heap.size + 1) _).setCell ⟨w.heap.size + 1, 0, none⟩ (.pointer (some ⟨pq, 0, none⟩)) (.inr rfl)).setCell ⟨w.heap.size + 1, 1, none⟩ (.int .i32 (-16)) (.inr rfl)) K66 (by decide) (by omega) (by have := hq6.old; have := F2.size; omega)
   have FIN := Lib.hid fin
   have NE : NegEx X m Q1 (-16) := .inl ⟨hq0, hQ1.symm, rfl⟩
   clear fin hq6 K66 hq5 hb6 K86
   go_wp2
   exact bodyPost_ret (v := .tuple #[DV pq (-16), .nilIface]) (by simp [results, Tryz.results84, go_sem, z0, z1]) rfl ⟨_, _, _, rfl, FIN.out, NE⟩
def NegPost (z e : Int) (n : Nat) (w w' : World) (en : Ending) : Prop := ∃ (p : Nat) (q s : Int) (N : Nat), en = .returned (.tuple #[DV p s, .nilIface]) ∧ NewZ w w' p q ∧ NegEx (z ^ N) (N * e) q s ∧ (N = n ∨ ∃ k : Nat, e = -(k : Int) ∧ z.natAbs = 10 ^ k ∧ N = 2 - n % 2)
theorem pow_lt_of (z : Int) (n : Nat) (hb : z.natAbs < 10 ^ 20) (hn : n ≤ 20) : (z ^ n).natAbs < 10 ^ 401 := by
 rw [Int.natAbs_pow]
 have h1 : z.natAbs ^ n ≤ (10 ^ 20) ^ n := Nat.pow_le_pow_left (Nat.le_of_lt hb) n
 have h2 : (10 ^ 20 : Nat) ^ n ≤ (10 ^ 20) ^ 20 := Nat.pow_le_pow_right (by decide) hn
 have h3 : ((10 : Nat) ^ 20) ^ 20 < 10 ^ 401 := by decide +kernel
 exact Nat.lt_of_le_of_lt (Nat.le_trans h1 h2) h3
theorem pow_lt_of2 (z : Int) (n : Nat) (hb : z.natAbs < 10 ^ 20) (hn : n ≤ 20) : z.natAbs ^ (n / 2) < BB ^ 11 := by
 have h1 : z.natAbs ^ (n / 2) ≤ (10 ^ 20) ^ (n / 2) := Nat.pow_le_pow_left (Nat.le_of_lt hb) _
 have h2 : (10 ^ 20 : Nat) ^ (n / 2) ≤ (10 ^ 20) ^ 10 := Nat.pow_le_pow_right (by decide) (by omega)
 have h3 : ((10 : Nat) ^ 20) ^ 10 < BB ^ 11 := by decide +kernel
 exact Nat.lt_of_le_of_lt (Nat.le_trans h1 h2) h3
theorem sm_of20 (z : Int) (hb : z.natAbs < 10 ^ 20) : Sm z := Nat.lt_trans hb (by decide +kernel)
theorem bl_of20 (z : Int) (L : Nat) (hb : z.natAbs < 10 ^ 20) (h : z ≠ 0 → 2 ^ (L - 1) ≤ z.natAbs ∧ 0 < L) (hz : z ≠ 0) : L ≤ 67 := by
 refine Nat.le_of_not_lt fun hlt => ?_
 have h1 : (2 : Nat) ^ 67 ≤ 2 ^ (L - 1) := Nat.pow_le_pow_right (by decide) (by omega)
 have h2 : (10 : Nat) ^ 20 < 2 ^ 67 := by decide +kernel
 have := (h hz).1
 omega
set_option maxRecDepth 100000 in
set_option maxHeartbeats 4000000 in
theorem sh_powNegInt (px pv : Nat) (e z : Int) (n : Nat) (w : World) (hx : RI w px z) (hn : RI w pv (n : Int)) (hn1 : 1 ≤ n) (hn2 : n ≤ 20) (he : -10 ≤ e ∧ e ≤ 10) (hz0 : z ≠ 0) (hb : z.natAbs < 10 ^ 20) (hG : Glob w) :
  Calls Tryz.prog 71 #[DV px e, .pointer (some ⟨pv, 0, none⟩), .int .i32 16] w fun en w' => NegPost z e n w w' en := by
 have hs := sm_of20 z hb
 have HB := Lib.hid hb
 clear hb
 obtain ⟨u0, hu0⟩ : ∃ u0 : World, Hid (u0 = (w.alloc (.cells #[.pointer (some ⟨px, 0, none⟩), .int .i32 e] 48 (0, 0))).alloc (.cells #[.pointer none, .int .i32 0] 48 (0, 0))) := ⟨_, Lib.hid rfl⟩
 have hA : Fr NoS w u0 := by rw [hu0.out]; exact ((Fr.refl NoS w).alloc _).alloc _
 have hu0s : u0.heap.size = w.heap.size + 2 := by rw [hu0.out]; simp
 have B3 : u0.heap[w.heap.size]? = some (.cells #[.pointer (some ⟨px, 0, none⟩), .int .i32 e] 48 (0, 0)) := by rw [hu0.out, old1 (by simp), new1 (by simp)]
 have B6 : u0.heap[w.heap.size + 1]? = some (.cells #[.pointer none, .int .i32 0] 48 (0, 0)) := by rw [hu0.out, new1 (by simp)]
 obtain ⟨c30, c31, _, _⟩ := cells2 B3
 have B3' := B3
 rw [hu0.out] at c30 c31
 have AO := sh_absIsOne px e z u0 (hx.fr hA) hz0 (Nat.lt_trans HB.out (by decide +kernel)) (by omega) (hG.fr hA)
 rw [hu0.out] at AO
 go_enter Tryz.func71, Tryz.ntmps71
 go_wp2_with fail
 refine AO.mono ?_
 rintro en w1 ⟨b, rfl, hone, hf1⟩
 rw [← hu0.out] at hf1
 have HO := Lib.hid hone
 clear hone AO c30 c31
 have D3 := hf1.kp B3
 have D6 := hf1.kp B6
 obtain ⟨c30, c31, _, _⟩ := cells2 D3
 have hF1 := hA.trans' hf1
 cases b
 case' true =>
  have BT := z_Bit0 pv (n : Int) w1 (hn.fr hF1)
  rw [Int.natAbs_natCast] at BT
  obtain ⟨N, hN⟩ : ∃ N : Nat, Hid (N = 2 - n % 2) := ⟨_, Lib.hid rfl⟩
  obtain ⟨r, hr⟩ : ∃ r : Nat, n % 2 = r := ⟨_, rfl⟩
  have hr2 : r < 2 := by omega
  have eN : Hid ((2 : Int) - r = (N : Int)) := by rw [hN.out, hr]; show _ = _; omega
  have w1r : IntKind.i64.wrap ((r : Nat) : Int) = r := IntWalk.i64_in _ (by omega)
  have w2r : IntKind.i64.wrap (2 - (r : Int)) = 2 - r := IntWalk.i64_in _ (by omega)
  rw [hr] at BT
  have hor : Hid (N = n ∨ ∃ k : Nat, e = -(k : Int) ∧ z.natAbs = 10 ^ k ∧ N = 2 - n % 2) := by
   obtain ⟨k, h1, h2⟩ := HO.out rfl
   exact .inr ⟨k, h1, h2, hN.out⟩
  have hNb : 1 ≤ N ∧ N ≤ 20 := by have := hN.out; omega
  clear hr
  go_wp2_with fail
  refine BT.mono ?_
  rintro en w2 ⟨rfl, rfl⟩
  go_wp2_with fail
  refine (big_NewInt (2 - (r : Int)) w1 (by omega) (by omega)).mono ?_
  rintro en wv ⟨pv, rfl, hNz⟩
  rw [eN.out] at hNz
  go_wp2_with fail
  have hfv : Fr NoS u0 wv := hf1.trans' hNz.fr
  have Rn : RI wv pv (N : Int) := hNz.rd
  clear hNz BT w1r w2r eN hf1 hF1 hN
 case' false =>
  obtain ⟨N, hN⟩ : ∃ N : Nat, Hid (N = n) := ⟨_, Lib.hid rfl⟩
  have hor : Hid (N = n ∨ ∃ k : Nat, e = -(k : Int) ∧ z.natAbs = 10 ^ k ∧ N = 2 - n % 2) := .inl hN.out
  have hNb : 1 ≤ N ∧ N ≤ 20 := by have := hN.out; omega
  obtain ⟨wv, rfl⟩ : ∃ wv : World, wv = w1 := ⟨_, rfl⟩
  have hfv : Fr NoS u0 wv := hf1
  have Rn : RI wv pv (N : Int) := by rw [hN.out]; exact hn.fr hF1
  clear hf1 hF1 hN
 all_goals
  have b1 : decide (-9223372036854775808 ≤ (N : Int)) = true := decide_eq_true (by omega)
  have b2 : decide ((N : Int) < 9223372036854775808) = true := decide_eq_true (by omega)
  have b3 : decide ((N : Int) ≤ 3000) = true := decide_eq_true (by omega)
  have b3' : decide (N ≤ 3000) = true := decide_eq_true (by omega)
  have hxv : RI wv px z := (hx.fr hA).fr hfv
  have hGv : Glob wv := (hG.fr hA).fr hfv
  clear D3 D6 c30 c31
  have D3 := hfv.kp B3
  have D6 := hfv.kp B6
  obtain ⟨c30, c31, _, _⟩ := cells2 D3
  go_wp2_with fail
  refine (z_IsInt64 pv N wv Rn).mono ?_
  rintro en w2 ⟨rfl, rfl⟩
  rw [b1, b2, Bool.and_self]
  go_wp2_with fail
  refine (z_Int64 pv N wv Rn (by omega) (by omega)).mono ?_
  rintro en w2 ⟨rfl, rfl⟩
  go_wp2_with fail
  have s3 : w.heap.size ≠ wv.heap.size := by have := hfv.size; omega
  have s3' : wv.heap.size ≠ w.heap.size := s3.symm
  clear c30 c31
  have D3d : wv.drew.heap[w.heap.size]? = some (.cells #[.pointer (some ⟨px, 0, none⟩), .int .i32 e] 48 (0, 0)) := D3
  obtain ⟨c30, c31, _, _⟩ := cells2 D3d
  obtain ⟨E, hE⟩ : ∃ E : Nat, Hid (E = e.natAbs) := ⟨_, Lib.hid rfl⟩
  have hE10 : E ≤ 10 := by rw [hE.out]; omega
  have AB := fun w => sh_abs64 e w (by omega) (by omega)
  rw [← hE.out] at AB
  have w64e : IntKind.i64.wrap e = e := IntWalk.i64_in _ (by omega)
  have hxd : RI wv.drew px z := hxv.fr (Fr.refl NoS wv).drew
  have Rd0 : RI wv.drew pv (N : Int) := Rn.fr (Fr.refl NoS wv).drew
  go_region_held3 (fun w' => w'.cell? ⟨w.heap.size, 0, none⟩ = some (.pointer (some ⟨px, 0, none⟩)) ∧ w'.cell? ⟨w.heap.size, 1, none⟩ = some (.int .i32 e)) (go_keep) (first | (go_at_call 76; ((with_reducible refine (z_Int64 pv N _ (by first | exact Rd0 | exact Rd0.fr F5) (by omega) (by omega)).mono ?_); rintro en w4 ⟨rfl, rfl⟩)) | (go_at_call 59; ((with_reducible refine (sh_getValue px e _ z hxd).mono ?_); rintro en w5 ⟨rfl, F5⟩; have D35 := F5.kp D3d; clear c30 c31; obtain ⟨c30, c31, _, _⟩ := cells2 D35)) | (go_at_call 81; ((with_reducible refine (z_BitLen px z _ (hxd.fr F5)).mono ?_); rintro en w6 ⟨L, rfl, hL1, hL2, rfl⟩; have hL := bl_of20 z L HB.out hL2 hz0; clear hL1 hL2; obtain ⟨S, hS⟩ : ∃ S : Nat, Hid (S = L + E) := ⟨_, Lib.hid rfl⟩; have hSb : S ≤ 77 := (by have := hS.out; omega); obtain ⟨C, hC⟩ : ∃ C : Nat, Hid (C = N * S) := ⟨_, Lib.hid rfl⟩; have hCb : C ≤ 3000 := (by rw [hC.out]; exact Nat.le_trans (Nat.mul_le_mul hNb.2 hSb) (by decide)); have wS : IntKind.i64.wrap ((L : Int) + (E : Int)) = (S : Int) := (by rw [IntWalk.i64_in _ (by omega)]; have := hS.out; omega); have wC : IntKind.i64.wrap ((N : Int) * (S : Int)) = (C : Int) := (by rw [← Int.natCast_mul, ← hC.out]; exact IntWalk.i64_in _ (by omega)))) | (go_at_call 82; ((with_reducible refine (AB _).mono ?_); rintro en w7 ⟨rfl, rfl⟩)))
  all_goals
   have d1 : decide (C ≤ 3000) = true := decide_eq_true hCb
   have d2 : decide ((C : Int) ≤ 3000) = true := decide_eq_true (by omega)
   have F5v : Fr NoS wv w5 := (Fr.refl NoS wv).drew.trans' F5
   have R5 : RI w5 pv (N : Int) := Rn.fr F5v
   have X5 : RI w5 px z := hxv.fr F5v
   have G5 : Glob w5 := hGv.fr F5v
   have PX := sh_powNegIntExact px pv e z N w5 X5 R5 hNb.1 hNb.2 (by omega) hz0 hs (pow_lt_of2 z N HB.out hNb.2) (pow_lt_of z N HB.out hNb.2) G5
   have PR := sh_powInRange C hCb
   have D65 := F5v.kp D6
   clear wS wC w64e AB
   go_wp2_with fail
   refine (PR _).mono ?_
   rintro en w8 ⟨rfl, rfl⟩
   go_wp2_with fail
   refine PX.mono ?_
   rintro en w9 ⟨p, q, s, rfl, hN9, hNE⟩
   have D69 := (hN9.fr.block _ (zLt D65) (fun x => x)).trans D65
   obtain ⟨k60, k61, kf0, kf1⟩ := cells2 D69
   have fin := (hN9.before ((hA.trans' hfv).trans' F5v)).beside (((Fr.refl (fun k => k = w.heap.size + 1) _).setCell ⟨w.heap.size + 1, 0, none⟩ (.pointer (some ⟨p, 0, none⟩)) (.inr rfl)).setCell ⟨w.heap.size + 1, 1, none⟩ (.int .i32 s) (.inr rfl)) D69 (by decide) (by omega) (by have := hN9.old; have := F5v.size; have := hfv.size; omega)
   have FIN := Lib.hid fin
   have HNE := Lib.hid hNE
   clear fin hNE hN9 D69 D65 c30 c31 D35 D3 D6 B3 B6 D3d B3' PX
   go_wp2
   exact bodyPost_ret (v := .tuple #[DV p s, .nilIface]) (by simp [results, Tryz.results71, go_sem, k60, k61]) rfl ⟨p, q, s, N, rfl, FIN.out, HNE.out, hor.out⟩
def IsErr (v : Value) : Prop := ∃ t a, v = .iface t a
def PowIs (z e n q s : Int) : Prop :=
 (0 ≤ n ∧ q = z ^ n.toNat ∧ s = n * e) ∨ (n < 0 ∧ ∃ N : Nat, NegEx (z ^ N) (N * e) q s ∧ (N = n.natAbs ∨ ∃ k : Nat, e = -(k : Int) ∧ z.natAbs = 10 ^ k ∧ N = 2 - n.natAbs % 2))
def PowPost (z e n : Int) (w w' : World) (en : Ending) : Prop :=
 (z = 0 ∧ n ≤ 0 ∧ (∃ er, en = .returned (.tuple #[.agg #[.pointer none, .int .i32 0], er]) ∧ IsErr er) ∧ Fr NoS w w') ∨
 (¬ (z = 0 ∧ n ≤ 0) ∧ ∃ (p : Nat) (q s : Int), en = .returned (.tuple #[DV p s, .nilIface]) ∧ NewZ w w' p q ∧ PowIs z e n q s)
set_option maxHeartbeats 1000000 in
theorem errNew (s : ByteArray) (w : World) : Calls Tryz.prog 69 #[.string s] w fun en w' => ∃ t a, en = .returned (.iface t a) ∧ Fr NoS w w' := by
 go_enter Tryz.func69, Tryz.ntmps69
 go_wp2
 go_ret
 exact ⟨_, _, rfl, (Fr.refl _ _).alloc _⟩
theorem box_ret {w u w1 : World} {b pq : Nat} {a0 a1 : Value} {Q : Int} (hA : Fr NoS w u) (hN : NewZ u w1 pq Q) (B : u.heap[b]? = some (.cells #[a0, a1] 48 (0, 0))) (hb : w.heap.size ≤ b) (x y : Value) :
  w1.heap[b]? = some (.cells #[a0, a1] 48 (0, 0)) ∧ NewZ w ((w1.setCell ⟨b, 0, none⟩ x).setCell ⟨b, 1, none⟩ y) pq Q := by
 have hbl := (zLt B)
 have D := (hN.fr.block _ hbl (fun x => x)).trans B
 have := hN.old
 exact ⟨D, (hN.before hA).beside (((Fr.refl (fun k => k = b) _).setCell ⟨b, 0, none⟩ x (.inr rfl)).setCell ⟨b, 1, none⟩ y (.inr rfl)) D (by decide) hb (by omega)⟩
set_option maxRecDepth 100000 in
set_option maxHeartbeats 4000000 in
theorem sh_powBig_pos (px pn : Nat) (e z n : Int) (w : World) (hx : RI w px z) (hn : RI w pn n) (hnb : -20 ≤ n ∧ n ≤ 20) (he : -10 ≤ e ∧ e ≤ 10) (hb : z.natAbs < 10 ^ 20) (hG : Glob w) (hn1 : 0 < n) :
  Calls Tryz.prog 56 #[DV px e, .pointer (some ⟨pn, 0, none⟩), .int .i32 16] w fun en w' => PowPost z e n w w' en := by
 have hs := sm_of20 z hb
 have HB := Lib.hid hb
 clear hb
 obtain ⟨u0, hu0⟩ : ∃ u0 : World, Hid (u0 = (w.alloc (.cells #[.pointer (some ⟨px, 0, none⟩), .int .i32 e] 48 (0, 0))).alloc (.cells #[.pointer none, .int .i32 0] 48 (0, 0))) := ⟨_, Lib.hid rfl⟩
 have hA : Fr NoS w u0 := by rw [hu0.out]; exact ((Fr.refl NoS w).alloc _).alloc _
 have hu0s : u0.heap.size = w.heap.size + 2 := by rw [hu0.out]; simp
 have B3 : u0.heap[w.heap.size]? = some (.cells #[.pointer (some ⟨px, 0, none⟩), .int .i32 e] 48 (0, 0)) := by rw [hu0.out, old1 (by simp), new1 (by simp)]
 have B6 : u0.heap[w.heap.size + 1]? = some (.cells #[.pointer none, .int .i32 0] 48 (0, 0)) := by rw [hu0.out, new1 (by simp)]
 obtain ⟨c30, c31, _, _⟩ := cells2 B3
 rw [hu0.out] at c30 c31
 have hx0 := hx.fr hA
 have hn0 := hn.fr hA
 have hG0 := hG.fr hA
 have SG := fun W (f : Fr NoS u0 W) => z_Sign pn n W (hn0.fr f)
 have IZ := fun W (f : Fr NoS u0 W) => sh_IsZero px e z W (hx0.fr f)
 have SG0 := SG u0 (Fr.refl _ _)
 rw [hu0.out] at SG0
 rw [Int.sign_eq_one_of_pos hn1] at SG0
 obtain ⟨N, rfl⟩ : ∃ N : Nat, n = N := ⟨n.toNat, by omega⟩
 have PE := sh_powExact px pn e z N u0 hx0 hn0 (by omega) (by omega) (by omega) hs (pow_lt_of2 z N HB.out (by omega)) hG0
 rw [hu0.out] at PE
 go_enter Tryz.func56, Tryz.ntmps56
 go_wp2_with fail
 refine SG0.mono ?_
 rintro en w1 ⟨rfl, rfl⟩
 go_wp2_with fail
 refine PE.mono ?_
 rintro en w2 ⟨p, rfl, hN⟩
 rw [← hu0.out] at hN
 obtain ⟨D, fin⟩ := box_ret hA hN B6 (by omega) (.pointer (some ⟨p, 0, none⟩)) (.int .i32 (N * e))
 obtain ⟨k60, k61, kf0, kf1⟩ := cells2 D
 have FIN := Lib.hid fin
 have hpos : Hid (¬ (z = 0 ∧ (N : Int) ≤ 0) ∧ PowIs z e N (z ^ N) (N * e)) := ⟨fun h => by omega, .inl ⟨by omega, by rw [Int.toNat_natCast], rfl⟩⟩
 clear fin D c30 c31 B3 B6 hN
 obtain ⟨s, hs⟩ : ∃ s : Int, (N : Int) * e = s := ⟨_, rfl⟩
 rw [hs] at FIN hpos ⊢
 clear hs
 go_wp2
 exact bodyPost_ret (v := .tuple #[DV p s, .nilIface]) (by simp [results, Tryz.results56, go_sem, k60, k61]) rfl (.inr ⟨hpos.out.1, _, _, _, rfl, FIN.out, hpos.out.2⟩)
set_option maxRecDepth 100000 in
set_option maxHeartbeats 4000000 in
theorem sh_powBig_err (px pn : Nat) (e z n : Int) (w : World) (hx : RI w px z) (hn : RI w pn n) (hnb : -20 ≤ n ∧ n ≤ 20) (he : -10 ≤ e ∧ e ≤ 10) (hb : z.natAbs < 10 ^ 20) (hG : Glob w) (hn1 : n < 0) (hz : z = 0) :
  Calls Tryz.prog 56 #[DV px e, .pointer (some ⟨pn, 0, none⟩), .int .i32 16] w fun en w' => PowPost z e n w w' en := by
 have hs := sm_of20 z hb
 have HB := Lib.hid hb
 clear hb
 obtain ⟨u0, hu0⟩ : ∃ u0 : World, Hid (u0 = (w.alloc (.cells #[.pointer (some ⟨px, 0, none⟩), .int .i32 e] 48 (0, 0))).alloc (.cells #[.pointer none, .int .i32 0] 48 (0, 0))) := ⟨_, Lib.hid rfl⟩
 have hA : Fr NoS w u0 := by rw [hu0.out]; exact ((Fr.refl NoS w).alloc _).alloc _
 have hu0s : u0.heap.size = w.heap.size + 2 := by rw [hu0.out]; simp
 have B3 : u0.heap[w.heap.size]? = some (.cells #[.pointer (some ⟨px, 0, none⟩), .int .i32 e] 48 (0, 0)) := by rw [hu0.out, old1 (by simp), new1 (by simp)]
 have B6 : u0.heap[w.heap.size + 1]? = some (.cells #[.pointer none, .int .i32 0] 48 (0, 0)) := by rw [hu0.out, new1 (by simp)]
 obtain ⟨c30, c31, _, _⟩ := cells2 B3
 rw [hu0.out] at c30 c31
 have hx0 := hx.fr hA
 have hn0 := hn.fr hA
 have hG0 := hG.fr hA
 have SG := fun W (f : Fr NoS u0 W) => z_Sign pn n W (hn0.fr f)
 have IZ := fun W (f : Fr NoS u0 W) => sh_IsZero px e z W (hx0.fr f)
 have SG0 := SG u0 (Fr.refl _ _)
 rw [hu0.out] at SG0
 rw [Int.sign_eq_neg_one_of_neg hn1] at SG0 SG
 rw [decide_eq_true hz] at IZ
 have IZ0 := IZ u0 (Fr.refl _ _)
 rw [hu0.out] at IZ0
 go_enter Tryz.func56, Tryz.ntmps56
 go_wp2_with fail
 refine SG0.mono ?_
 rintro en w1 ⟨rfl, rfl⟩
 go_wp2_with fail
 refine IZ0.mono ?_
 rintro en w1 ⟨rfl, F1⟩
 rw [← hu0.out] at F1
 have D31 := F1.kp B3
 clear c30 c31
 obtain ⟨c30, c31, _, _⟩ := cells2 D31
 go_wp2_with fail
 refine (SG w1 F1).mono ?_
 rintro en w2 ⟨rfl, rfl⟩
 go_wp2_with fail
 refine (SG w1 F1).mono ?_
 rintro en w2 ⟨rfl, rfl⟩
 go_wp2_with fail
 refine (IZ w1 F1).mono ?_
 rintro en w2 ⟨rfl, f12⟩
 have F2 := F1.trans' f12
 clear D31
 go_wp2_with fail
 refine (errNew _ _).mono ?_
 rintro en w9 ⟨t9, a9, rfl, hf9⟩
 have FK := F2.trans' hf9
 have D69 := FK.kp B6
 obtain ⟨k60, k61, kf0, kf1⟩ := cells2 D69
 have fin : Fr NoS w ((w9.setCell ⟨w.heap.size + 1, 0, none⟩ (.pointer none)).setCell ⟨w.heap.size + 1, 1, none⟩ (.int .i32 0)) := ((hA.trans' FK).setCell ⟨w.heap.size + 1, 0, none⟩ _ (.inl (Nat.le_succ _))).setCell ⟨w.heap.size + 1, 1, none⟩ _ (.inl (Nat.le_succ _))
 have FIN := Lib.hid fin
 clear fin D69 B3 B6 c30 c31
 go_wp2
 exact bodyPost_ret (v := .tuple #[.agg #[.pointer none, .int .i32 0], .iface t9 a9]) (by simp [results, Tryz.results56, go_sem, k60, k61]) rfl (.inl ⟨by omega, by omega, ⟨_, rfl, _, _, rfl⟩, FIN.out⟩)
set_option maxRecDepth 100000 in
set_option maxHeartbeats 4000000 in
theorem sh_powBig_err0 (px pn : Nat) (e z n : Int) (w : World) (hx : RI w px z) (hn : RI w pn n) (hnb : -20 ≤ n ∧ n ≤ 20) (he : -10 ≤ e ∧ e ≤ 10) (hb : z.natAbs < 10 ^ 20) (hG : Glob w) (hn1 : n = 0) (hz : z = 0) :
  Calls Tryz.prog 56 #[DV px e, .pointer (some ⟨pn, 0, none⟩), .int .i32 16] w fun en w' => PowPost z e n w w' en := by
 have hs := sm_of20 z hb
 have HB := Lib.hid hb
 clear hb
 obtain ⟨u0, hu0⟩ : ∃ u0 : World, Hid (u0 = (w.alloc (.cells #[.pointer (some ⟨px, 0, none⟩), .int .i32 e] 48 (0, 0))).alloc (.cells #[.pointer none, .int .i32 0] 48 (0, 0))) := ⟨_, Lib.hid rfl⟩
 have hA : Fr NoS w u0 := by rw [hu0.out]; exact ((Fr.refl NoS w).alloc _).alloc _
 have hu0s : u0.heap.size = w.heap.size + 2 := by rw [hu0.out]; simp
 have B3 : u0.heap[w.heap.size]? = some (.cells #[.pointer (some ⟨px, 0, none⟩), .int .i32 e] 48 (0, 0)) := by rw [hu0.out, old1 (by simp), new1 (by simp)]
 have B6 : u0.heap[w.heap.size + 1]? = some (.cells #[.pointer none, .int .i32 0] 48 (0, 0)) := by rw [hu0.out, new1 (by simp)]
 obtain ⟨c30, c31, _, _⟩ := cells2 B3
 rw [hu0.out] at c30 c31
 have hx0 := hx.fr hA
 have hn0 := hn.fr hA
 have hG0 := hG.fr hA
 have SG := fun W (f : Fr NoS u0 W) => z_Sign pn n W (hn0.fr f)
 have IZ := fun W (f : Fr NoS u0 W) => sh_IsZero px e z W (hx0.fr f)
 have SG0 := SG u0 (Fr.refl _ _)
 rw [hu0.out] at SG0
 rw [show n.sign = 0 from by rw [hn1]; rfl] at SG0 SG
 rw [decide_eq_true hz] at IZ
 have IZ0 := IZ u0 (Fr.refl _ _)
 rw [hu0.out] at IZ0
 go_enter Tryz.func56, Tryz.ntmps56
 go_wp2_with fail
 refine SG0.mono ?_
 rintro en w1 ⟨rfl, rfl⟩
 go_wp2_with fail
 refine IZ0.mono ?_
 rintro en w1 ⟨rfl, F1⟩
 rw [← hu0.out] at F1
 go_wp2_with fail
 refine (SG w1 F1).mono ?_
 rintro en w2 ⟨rfl, rfl⟩
 go_wp2_with fail
 refine (errNew _ _).mono ?_
 rintro en w9 ⟨t9, a9, rfl, hf9⟩
 have FK := F1.trans' hf9
 have D69 := FK.kp B6
 obtain ⟨k60, k61, kf0, kf1⟩ := cells2 D69
 have fin : Fr NoS w ((w9.setCell ⟨w.heap.size + 1, 0, none⟩ (.pointer none)).setCell ⟨w.heap.size + 1, 1, none⟩ (.int .i32 0)) := ((hA.trans' FK).setCell ⟨w.heap.size + 1, 0, none⟩ _ (.inl (Nat.le_succ _))).setCell ⟨w.heap.size + 1, 1, none⟩ _ (.inl (Nat.le_succ _))
 have FIN := Lib.hid fin
 clear fin D69 B3 B6 c30 c31
 go_wp2
 exact bodyPost_ret (v := .tuple #[.agg #[.pointer none, .int .i32 0], .iface t9 a9]) (by simp [results, Tryz.results56, go_sem, k60, k61]) rfl (.inl ⟨by omega, by omega, ⟨_, rfl, _, _, rfl⟩, FIN.out⟩)
set_option maxRecDepth 100000 in
set_option maxHeartbeats 4000000 in
theorem sh_powBig_one (px pn : Nat) (e z n : Int) (w : World) (hx : RI w px z) (hn : RI w pn n) (hnb : -20 ≤ n ∧ n ≤ 20) (he : -10 ≤ e ∧ e ≤ 10) (hb : z.natAbs < 10 ^ 20) (hG : Glob w) (hn1 : n = 0) (hz : z ≠ 0) :
  Calls Tryz.prog 56 #[DV px e, .pointer (some ⟨pn, 0, none⟩), .int .i32 16] w fun en w' => PowPost z e n w w' en := by
 have hs := sm_of20 z hb
 have HB := Lib.hid hb
 clear hb
 obtain ⟨u0, hu0⟩ : ∃ u0 : World, Hid (u0 = (w.alloc (.cells #[.pointer (some ⟨px, 0, none⟩), .int .i32 e] 48 (0, 0))).alloc (.cells #[.pointer none, .int .i32 0] 48 (0, 0))) := ⟨_, Lib.hid rfl⟩
 have hA : Fr NoS w u0 := by rw [hu0.out]; exact ((Fr.refl NoS w).alloc _).alloc _
 have hu0s : u0.heap.size = w.heap.size + 2 := by rw [hu0.out]; simp
 have B3 : u0.heap[w.heap.size]? = some (.cells #[.pointer (some ⟨px, 0, none⟩), .int .i32 e] 48 (0, 0)) := by rw [hu0.out, old1 (by simp), new1 (by simp)]
 have B6 : u0.heap[w.heap.size + 1]? = some (.cells #[.pointer none, .int .i32 0] 48 (0, 0)) := by rw [hu0.out, new1 (by simp)]
 obtain ⟨c30, c31, _, _⟩ := cells2 B3
 rw [hu0.out] at c30 c31
 have hx0 := hx.fr hA
 have hn0 := hn.fr hA
 have hG0 := hG.fr hA
 have SG := fun W (f : Fr NoS u0 W) => z_Sign pn n W (hn0.fr f)
 have IZ := fun W (f : Fr NoS u0 W) => sh_IsZero px e z W (hx0.fr f)
 have SG0 := SG u0 (Fr.refl _ _)
 rw [hu0.out] at SG0
 rw [show n.sign = 0 from by rw [hn1]; rfl] at SG0 SG
 rw [decide_eq_false hz] at IZ
 have IZ0 := IZ u0 (Fr.refl _ _)
 rw [hu0.out] at IZ0
 go_enter Tryz.func56, Tryz.ntmps56
 go_wp2_with fail
 refine SG0.mono ?_
 rintro en w1 ⟨rfl, rfl⟩
 go_wp2_with fail
 refine IZ0.mono ?_
 rintro en w1 ⟨rfl, F1⟩
 rw [← hu0.out] at F1
 go_wp2_with fail
 refine (SG w1 F1).mono ?_
 rintro en w2 ⟨rfl, rfl⟩
 go_wp2_with fail
 refine (sh_oneInt w1).mono ?_
 rintro en w2 ⟨p, rfl, hN⟩
 obtain ⟨D, fin⟩ := box_ret hA (hN.before F1) B6 (by omega) (.pointer (some ⟨p, 0, none⟩)) (.int .i32 0)
 obtain ⟨k60, k61, kf0, kf1⟩ := cells2 D
 have FIN := Lib.hid fin
 have hpos : Hid (¬ (z = 0 ∧ n ≤ 0) ∧ PowIs z e n 1 0) := ⟨fun h => hz h.1, .inl ⟨by omega, by rw [hn1]; exact (Int.pow_zero z).symm, by rw [hn1, Int.zero_mul]⟩⟩
 clear fin D c30 c31 B3 B6 hN
 go_wp2
 exact bodyPost_ret (v := .tuple #[DV p 0, .nilIface]) (by simp [results, Tryz.results56, go_sem, k60, k61]) rfl (.inr ⟨hpos.out.1, _, _, _, rfl, FIN.out, hpos.out.2⟩)
set_option maxRecDepth 100000 in
set_option maxHeartbeats 4000000 in
theorem sh_powBig_neg (px pn : Nat) (e z n : Int) (w : World) (hx : RI w px z) (hn : RI w pn n) (hnb : -20 ≤ n ∧ n ≤ 20) (he : -10 ≤ e ∧ e ≤ 10) (hb : z.natAbs < 10 ^ 20) (hG : Glob w) (hn1 : n < 0) (hz : z ≠ 0) :
  Calls Tryz.prog 56 #[DV px e, .pointer (some ⟨pn, 0, none⟩), .int .i32 16] w fun en w' => PowPost z e n w w' en := by
 have hs := sm_of20 z hb
 have HB := Lib.hid hb
 clear hb
 obtain ⟨u0, hu0⟩ : ∃ u0 : World, Hid (u0 = (w.alloc (.cells #[.pointer (some ⟨px, 0, none⟩), .int .i32 e] 48 (0, 0))).alloc (.cells #[.pointer none, .int .i32 0] 48 (0, 0))) := ⟨_, Lib.hid rfl⟩
 have hA : Fr NoS w u0 := by rw [hu0.out]; exact ((Fr.refl NoS w).alloc _).alloc _
 have hu0s : u0.heap.size = w.heap.size + 2 := by rw [hu0.out]; simp
 have B3 : u0.heap[w.heap.size]? = some (.cells #[.pointer (some ⟨px, 0, none⟩), .int .i32 e] 48 (0, 0)) := by rw [hu0.out, old1 (by simp), new1 (by simp)]
 have B6 : u0.heap[w.heap.size + 1]? = some (.cells #[.pointer none, .int .i32 0] 48 (0, 0)) := by rw [hu0.out, new1 (by simp)]
 obtain ⟨c30, c31, _, _⟩ := cells2 B3
 rw [hu0.out] at c30 c31
 have hx0 := hx.fr hA
 have hn0 := hn.fr hA
 have hG0 := hG.fr hA
 have SG := fun W (f : Fr NoS u0 W) => z_Sign pn n W (hn0.fr f)
 have IZ := fun W (f : Fr NoS u0 W) => sh_IsZero px e z W (hx0.fr f)
 have SG0 := SG u0 (Fr.refl _ _)
 rw [hu0.out] at SG0
 rw [Int.sign_eq_neg_one_of_neg hn1] at SG0 SG
 rw [decide_eq_false hz] at IZ
 have IZ0 := IZ u0 (Fr.refl _ _)
 rw [hu0.out] at IZ0
 go_enter Tryz.func56, Tryz.ntmps56
 go_wp2_with fail
 refine SG0.mono ?_
 rintro en w1 ⟨rfl, rfl⟩
 go_wp2_with fail
 refine IZ0.mono ?_
 rintro en w1 ⟨rfl, F1⟩
 rw [← hu0.out] at F1
 have D31 := F1.kp B3
 clear c30 c31
 obtain ⟨c30, c31, _, _⟩ := cells2 D31
 go_wp2_with fail
 refine (SG w1 F1).mono ?_
 rintro en w2 ⟨rfl, rfl⟩
 go_wp2_with fail
 refine (IZ w1 F1).mono ?_
 rintro en w2 ⟨rfl, f12⟩
 have F2 := F1.trans' f12
 clear D31
 have D32 := F2.kp B3
 clear c30 c31
 obtain ⟨c30, c31, _, _⟩ := cells2 D32
 go_wp2_with fail
 clear c30 c31
 have D3d : w2.drew.heap[w.heap.size]? = some (.cells #[.pointer (some ⟨px, 0, none⟩), .int .i32 e] 48 (0, 0)) := D32
 obtain ⟨e30, _, _, _⟩ := cells2 D32
 have nn0 := World.new_ne w2 ⟨w.heap.size, 0, none⟩ e30
 obtain ⟨c30, c31, _, _⟩ := cells2 D32
 have s2 := F2.size
 have n1 : w.heap.size ≠ w2.heap.size := by omega
 have n1' : w2.heap.size ≠ w.heap.size := by omega
 have fU : Fr NoS w2 (w2.alloc (.cells #[.bool false, .slice none 0 0] TI (0, 0))).drew := ((Fr.refl NoS w2).alloc _).drew
 have hz4 : Zr (w2.alloc (.cells #[.bool false, .slice none 0 0] TI (0, 0))).drew w2.heap.size := heap_alloc_new w2 _
 have hn2 := (hn0.fr F2)
 have NG := z_Neg w2.heap.size pn n _ hz4 (hn2.fr fU) (by have := hn2.lt; omega) (by show n.natAbs < BB ^ 39; exact Nat.lt_of_le_of_lt (show n.natAbs ≤ 20 by omega) (by decide +kernel))
 go_region_held3 (fun w' => w'.cell? ⟨w.heap.size, 0, none⟩ = some (.pointer (some ⟨px, 0, none⟩)) ∧ w'.cell? ⟨w.heap.size, 1, none⟩ = some (.int .i32 e)) (go_keep) (first | (go_at_call 55; (with_reducible refine NG.mono ?_); rintro en w5 ⟨rfl, hP5⟩; have hN5 : NewZ w2 w5 w2.heap.size (-n) := hP5.new fU (Nat.le_refl _); have F5 : Fr NoS u0 w5 := F2.trans' hN5.fr; have D35 := F5.kp B3; clear c30 c31; obtain ⟨c30, c31, _, _⟩ := cells2 D35; have R5 : RI w5 w2.heap.size ((n.natAbs : Nat) : Int) := (by have := hN5.rd; rwa [show -n = ((n.natAbs : Nat) : Int) by omega] at this); have PI := sh_powNegInt px w2.heap.size e z n.natAbs w5 (hx0.fr F5) R5 (by omega) (by omega) he hz HB.out (hG0.fr F5); clear hP5) | (go_at_call 71; (with_reducible refine PI.mono ?_); rintro en w6 hNP; obtain ⟨p, q, s, N, rfl, hN6, hNE, hor⟩ := hNP; have BR := box_ret (hA.trans' F5) hN6 ((F5.kp B6)) (Nat.le_succ _) (.pointer (some ⟨p, 0, none⟩)) (.int .i32 s); have HNE := Lib.hid hNE; have HOR := Lib.hid hor; clear hNE hor c30 c31; have D36 := (hN6.fr.block _ (zLt D35) (fun x => x)).trans D35; obtain ⟨c30, c31, _, _⟩ := cells2 D36; obtain ⟨k60, k61, kf0, kf1⟩ := cells2 BR.1))
 all_goals
  have FIN := Lib.hid BR.2
  have hpos : Hid (¬ (z = 0 ∧ n ≤ 0) ∧ PowIs z e n q s) := ⟨fun h => hz h.1, .inr ⟨hn1, N, HNE.out, HOR.out⟩⟩
  clear BR c30 c31 B3 B6 hN6 hN5 D36 D35 D3d D32 NG PI
  go_wp2
  exact bodyPost_ret (v := .tuple #[DV p s, .nilIface]) (by simp [results, Tryz.results56, go_sem, k60, k61]) rfl (.inr ⟨hpos.out.1, _, _, _, rfl, FIN.out, hpos.out.2⟩)
theorem sh_powBig (px pn : Nat) (e z n : Int) (w : World) (hx : RI w px z) (hn : RI w pn n) (hnb : -20 ≤ n ∧ n ≤ 20) (he : -10 ≤ e ∧ e ≤ 10) (hb : z.natAbs < 10 ^ 20) (hG : Glob w) :
  Calls Tryz.prog 56 #[DV px e, .pointer (some ⟨pn, 0, none⟩), .int .i32 16] w fun en w' => PowPost z e n w w' en := by
 rcases Int.lt_trichotomy n 0 with h | h | h
 ·by_cases hz : z = 0
  ·exact sh_powBig_err px pn e z n w hx hn hnb he hb hG h hz
  ·exact sh_powBig_neg px pn e z n w hx hn hnb he hb hG h hz
 ·by_cases hz : z = 0
  ·exact sh_powBig_err0 px pn e z n w hx hn hnb he hb hG h hz
  ·exact sh_powBig_one px pn e z n w hx hn hnb he hb hG h hz
 ·exact sh_powBig_pos px pn e z n w hx hn hnb he hb hG h
theorem PowPost.fr {z e n : Int} {w w' : World} {en : Ending} (h : PowPost z e n w w' en) : Fr NoS w w' := by
 rcases h with ⟨h1, h2, h3, h4⟩ | ⟨h1, p, q, s, h2, h3, h4⟩
 ·exact h4
 ·exact h3.fr
theorem PowPost.split {z e n : Int} {w u w1 : World} {en : Ending} {b : Nat} (h : PowPost z e n u w1 en) (hA : Fr NoS w u) (B : u.heap[b]? = some (.cells #[.pointer none, .int .i32 0] 48 (0, 0))) (hb : w.heap.size ≤ b) :
  ∃ (a : Value) (x : Option Addr) (y : Int), en = .returned (.tuple #[.agg #[.pointer x, .int .i32 y], a]) ∧ w1.heap[b]? = some (.cells #[.pointer none, .int .i32 0] 48 (0, 0)) ∧ PowPost z e n w ((w1.setCell ⟨b, 0, none⟩ (.pointer x)).setCell ⟨b, 1, none⟩ (.int .i32 y)) (.returned (.tuple #[.agg #[.pointer x, .int .i32 y], a])) := by
 rcases h with ⟨h1, h2, ⟨er, rfl, her⟩, h4⟩ | ⟨h1, p, q, s, rfl, h3, h4⟩
 ·exact ⟨er, none, 0, rfl, (h4.kp B), .inl ⟨h1, h2, ⟨er, rfl, her⟩, ((hA.trans' h4).setCell ⟨b, 0, none⟩ _ (.inl hb)).setCell ⟨b, 1, none⟩ _ (.inl hb)⟩⟩
 ·obtain ⟨D, hN⟩ := box_ret hA h3 B hb (.pointer (some ⟨p, 0, none⟩)) (.int .i32 s)
  exact ⟨.nilIface, _, _, rfl, D, .inr ⟨h1, p, q, s, rfl, hN, h4⟩⟩
set_option maxRecDepth 100000 in
set_option maxHeartbeats 1000000 in
theorem sh_PowBigInt (px pn : Nat) (e z n : Int) (w : World) (hx : RI w px z) (hn : RI w pn n) (hnb : -20 ≤ n ∧ n ≤ 20) (he : -10 ≤ e ∧ e ≤ 10) (hb : z.natAbs < 10 ^ 20) (hG : Glob w) :
  Calls Tryz.prog 35 #[DV px e, .pointer (some ⟨pn, 0, none⟩)] w fun en w' => PowPost z e n w w' en := by
 obtain ⟨u0, hu0⟩ : ∃ u0 : World, Hid (u0 = (w.alloc (.cells #[.pointer (some ⟨px, 0, none⟩), .int .i32 e] 48 (0, 0))).alloc (.cells #[.pointer none, .int .i32 0] 48 (0, 0))) := ⟨_, Lib.hid rfl⟩
 have hA : Fr NoS w u0 := by rw [hu0.out]; exact ((Fr.refl NoS w).alloc _).alloc _
 have B3 : u0.heap[w.heap.size]? = some (.cells #[.pointer (some ⟨px, 0, none⟩), .int .i32 e] 48 (0, 0)) := by rw [hu0.out, old1 (by simp), new1 (by simp)]
 have B6 : u0.heap[w.heap.size + 1]? = some (.cells #[.pointer none, .int .i32 0] 48 (0, 0)) := by rw [hu0.out, new1 (by simp)]
 obtain ⟨c30, c31, _, _⟩ := cells2 B3
 have hpr := (hG.fr hA).prec
 rw [hu0.out] at c30 c31 hpr
 have PB := sh_powBig px pn e z n u0 (hx.fr hA) (hn.fr hA) hnb he hb (hG.fr hA)
 rw [hu0.out] at PB
 go_enter Tryz.func35, Tryz.ntmps35
 go_wp2_with fail
 refine PB.mono ?_
 intro en w1 hP
 rw [← hu0.out] at hP
 obtain ⟨a, x, y, rfl, D, hR⟩ := hP.split hA B6 (Nat.le_succ _)
 have HR := Lib.hid hR
 obtain ⟨k60, k61, kf0, kf1⟩ := cells2 D
 clear hR hP PB c30 c31 B3 B6 D hpr
 go_wp2
 exact bodyPost_ret (v := .tuple #[.agg #[.pointer x, .int .i32 y], a]) (by simp [results, Tryz.results35, go_sem, k60, k61]) rfl HR.out
set_option maxRecDepth 100000 in
set_option maxHeartbeats 2000000 in
theorem sh_PowInt32 (px : Nat) (e z n : Int) (w : World) (hx : RI w px z) (hnb : -20 ≤ n ∧ n ≤ 20) (he : -10 ≤ e ∧ e ≤ 10) (hb : z.natAbs < 10 ^ 20) (hG : Glob w) :
  Calls Tryz.prog 19 #[DV px e, .int .i32 n] w fun en w' => PowPost z e n w w' en := by
 obtain ⟨u0, hu0⟩ : ∃ u0 : World, Hid (u0 = (w.alloc (.cells #[.pointer (some ⟨px, 0, none⟩), .int .i32 e] 48 (0, 0))).alloc (.cells #[.pointer none, .int .i32 0] 48 (0, 0))) := ⟨_, Lib.hid rfl⟩
 have hA : Fr NoS w u0 := by rw [hu0.out]; exact ((Fr.refl NoS w).alloc _).alloc _
 have B3 : u0.heap[w.heap.size]? = some (.cells #[.pointer (some ⟨px, 0, none⟩), .int .i32 e] 48 (0, 0)) := by rw [hu0.out, old1 (by simp), new1 (by simp)]
 have B6 : u0.heap[w.heap.size + 1]? = some (.cells #[.pointer none, .int .i32 0] 48 (0, 0)) := by rw [hu0.out, new1 (by simp)]
 have hux : RI u0 px z := hx.fr hA
 have huG : Glob u0 := hG.fr hA
 have w64 : IntKind.i64.wrap n = n := IntWalk.i64_in _ (by omega)
 obtain ⟨c30, c31, _, _⟩ := cells2 B3
 go_enter Tryz.func19, Tryz.ntmps19
 go_wp2_with fail
 rw [← hu0.out]
 go_region_held3 (fun w' => w'.cell? ⟨w.heap.size, 0, none⟩ = some (.pointer (some ⟨px, 0, none⟩)) ∧ w'.cell? ⟨w.heap.size, 1, none⟩ = some (.int .i32 e)) (go_keep) (first | (go_at_call 36; (with_reducible refine (big_NewInt n _ (by omega) (by omega)).mono ?_); rintro en w2 ⟨pn, rfl, hN2⟩; have F2 : Fr NoS u0 w2 := (Fr.refl NoS u0).drew.trans' hN2.fr; have D32 := F2.kp B3; have D62 := F2.kp B6; have PB := sh_PowBigInt px pn e z n w2 (hux.fr F2) hN2.rd hnb he hb (huG.fr F2); clear c30 c31 hN2; obtain ⟨c30, c31, _, _⟩ := cells2 D32) | (go_at_call 35; (with_reducible refine PB.mono ?_); intro en w3 hP; obtain ⟨a, x, y, rfl, D, hR⟩ := hP.split (hA.trans' F2) D62 (Nat.le_succ _); have HR := Lib.hid hR; have f23 : Fr NoS w2 w3 := hP.fr; have D33 := f23.kp D32; clear hR hP PB c30 c31; obtain ⟨c30, c31, _, _⟩ := cells2 D33; obtain ⟨k60, k61, kf0, kf1⟩ := cells2 D))
 all_goals
  clear B3 B6 D D33 D32 D62 c30 c31
  go_wp2
  exact bodyPost_ret (v := .tuple #[.agg #[.pointer x, .int .i32 y], a]) (by simp [results, Tryz.results19, go_sem, k60, k61]) rfl HR.out
abbrev DC (z e : Int) : Value := .agg #[.string (tz z), .int .i64 e]
abbrev TDec : TypeId := 23
abbrev TShop : TypeId := 48
set_option maxHeartbeats 1000000 in
theorem im_ZzMake (p : Nat) (e : Int) (w : World) :
  Calls Tryz.prog 34 #[.pointer (some ⟨p, 0, none⟩), .int .i32 e] w fun en w' => en = .returned (DV p e) ∧ Fr NoS w w' := by
 go_enter Tryz.func34, Tryz.ntmps34
 go_wp2
 exact bodyPost_ret (v := DV p e) (by simp [results, Tryz.results34, go_sem]) rfl ⟨rfl, (Fr.refl _ _).alloc _⟩
set_option maxHeartbeats 1000000 in
theorem im_ZzValue (p : Nat) (e z : Int) (w : World) (h : RI w p z) :
  Calls Tryz.prog 38 #[DV p e] w fun en w' => en = .returned (.pointer (some ⟨p, 0, none⟩)) ∧ Fr NoS w w' := by
 have hA : Fr NoS w (w.alloc (.cells #[.pointer (some ⟨p, 0, none⟩), .int .i32 e] TShop (0, 0))) := (Fr.refl NoS w).alloc _
 have G := sh_getValue p e (w.alloc (.cells #[.pointer (some ⟨p, 0, none⟩), .int .i32 e] TShop (0, 0))) z (h.fr hA)
 go_enter Tryz.func38, Tryz.ntmps38
 go_wp2_with fail
 refine G.mono ?_
 rintro en w1 ⟨rfl, hf1⟩
 go_wp2
 go_ret
 exact ⟨rfl, hA.trans' hf1⟩
set_option maxHeartbeats 1000000 in
theorem im_Exponent (p : Nat) (e : Int) (w : World) :
  Calls Tryz.prog 39 #[DV p e] w fun en w' => en = .returned (.int .i32 e) ∧ Fr NoS w w' := by
 have hA : Fr NoS w (w.alloc (.cells #[.pointer (some ⟨p, 0, none⟩), .int .i32 e] TShop (0, 0))) := (Fr.refl NoS w).alloc _
 go_enter Tryz.func39, Tryz.ntmps39
 go_wp2
 go_ret
 exact ⟨rfl, hA⟩
set_option maxHeartbeats 1000000 in
theorem im_places (e : Int) (w : World) (h1 : -400 ≤ e) (h2 : e ≤ 400) :
  Calls Tryz.prog 33 #[.int .i64 e] w fun en w' => en = .returned (.bool true) ∧ w = w' := by
 go_enter Tryz.func33, Tryz.ntmps33
 go_wp2
 go_ret
 exact ⟨rfl, rfl⟩
set_option maxHeartbeats 1000000 in
theorem im_little (s : ByteArray) (e : Int) (w : World) (hs : s.size ≤ 41) (h1 : -40 ≤ e) (h2 : e ≤ 40) :
  Calls Tryz.prog 18 #[.agg #[.string s, .int .i64 e]] w fun en w' => en = .returned (.bool true) ∧ Fr NoS w w' := by
 have hA : Fr NoS w (w.alloc (.cells #[.string s, .int .i64 e] TDec (0, 0))) := (Fr.refl NoS w).alloc _
 have d1 : decide ((s.size : Int) ≤ 41) = true := decide_eq_true (by omega)
 go_enter Tryz.func18, Tryz.ntmps18
 go_wp2
 go_ret
 exact ⟨rfl, hA⟩
set_option maxRecDepth 100000 in
set_option maxHeartbeats 2000000 in
theorem im_made (z e : Int) (w : World) (h400 : (lz z).length ≤ 400) (h1 : -400 ≤ e) (h2 : e ≤ 400) :
  Calls Tryz.prog 17 #[DC z e] w fun en w' => ∃ p, en = .returned (.tuple #[DV p e, .bool true]) ∧ RI w' p z ∧ Fr NoS w w' := by
 obtain ⟨u0, hu0⟩ : ∃ u0 : World, Hid (u0 = (w.alloc (.cells #[.string (tz z), .int .i64 e] TDec (0, 0))).alloc (.cells #[.pointer none, .int .i32 0] TShop (0, 0))) := ⟨_, Lib.hid rfl⟩
 have hA : Fr NoS w u0 := by rw [hu0.out]; exact ((Fr.refl NoS w).alloc _).alloc _
 have B1 : u0.heap[w.heap.size]? = some (.cells #[.string (tz z), .int .i64 e] TDec (0, 0)) := by rw [hu0.out, old1 (by simp), new1 (by simp)]
 have B2 : u0.heap[w.heap.size + 1]? = some (.cells #[.pointer none, .int .i32 0] TShop (0, 0)) := by rw [hu0.out, new1 (by simp)]
 obtain ⟨c10, c11, _, _⟩ := cells2 B1
 have W := im_whole z u0 h400
 rw [hu0.out] at c10 c11 W
 have w32 : IntKind.i32.wrap e = e := IntWalk.i32_in _ (by omega)
 go_enter Tryz.func17, Tryz.ntmps17
 go_wp2_with fail
 refine W.mono ?_
 rintro en w1 ⟨p, rfl, hR, hf1⟩
 rw [← hu0.out] at hf1
 have D1 := hf1.kp B1
 have D2 := hf1.kp B2
 clear c10 c11 W
 obtain ⟨c10, c11, _, _⟩ := cells2 D1
 go_wp2_with fail
 refine (im_places e w1 h1 h2).mono ?_
 rintro en w2 ⟨rfl, rfl⟩
 go_wp2_with fail
 refine (im_ZzMake p e w1).mono ?_
 rintro en w3 ⟨rfl, hf3⟩
 have D3 := hf3.kp D2
 obtain ⟨k0, k1, f0, f1⟩ := cells2 D3
 have hF := (hA.trans' hf1).trans' hf3
 have hsz := hA.size
 have hsz2 := hf1.size
 have hR3 := hR.fr hf3
 have fE : Fr (fun k => k = w.heap.size + 1) w3 ((w3.setCell ⟨w.heap.size + 1, 0, none⟩ (.pointer (some ⟨p, 0, none⟩))).setCell ⟨w.heap.size + 1, 1, none⟩ (.int .i32 e)) := (Fr.set _ _ _ _).trans' (Fr.set _ _ _ _)
 have fin : RI ((w3.setCell ⟨w.heap.size + 1, 0, none⟩ (.pointer (some ⟨p, 0, none⟩))).setCell ⟨w.heap.size + 1, 1, none⟩ (.int .i32 e)) p z := by
  obtain ⟨s, v, n, F, r1, r2⟩ := hR3
  refine ⟨s, v, n, F, r1.fr fE (fun e => ?_) (fun k hk e => ?_), r2⟩
  ·have := r1.blk; rw [e, D3] at this; injection this with this; injection this with _ this; exact absurd this (by decide)
  ·subst e
   rcases r1.rd with ⟨rfl, _⟩ | ⟨g, o, c, cs, rfl, _, _, _, hc, _⟩
   ·simp [Value.ownBlock] at hk
   ·simp only [Value.ownBlock, Option.some.injEq] at hk
    subst hk
    rw [D3] at hc; injection hc with hc; injection hc with _ hc; exact absurd hc (by decide)
 have hFE : Fr NoS w ((w3.setCell ⟨w.heap.size + 1, 0, none⟩ (.pointer (some ⟨p, 0, none⟩))).setCell ⟨w.heap.size + 1, 1, none⟩ (.int .i32 e)) := hF.trans fE (fun i hi e => by omega)
 have FIN := Lib.hid (And.intro fin hFE)
 clear fin hFE fE hR3 hR D1 D2 D3 c10 c11 B1 B2 hF hf1 hf3
 go_wp2
 exact bodyPost_ret (v := .tuple #[DV p e, .bool true]) (by simp [results, Tryz.results17, go_sem, k0, k1]) rfl ⟨p, rfl, FIN.out⟩
set_option maxRecDepth 100000 in
set_option maxHeartbeats 2000000 in
theorem im_dec (p : Nat) (e z : Int) (w : World) (h : RI w p z) (hs : Sm z) (h1 : -100000 ≤ e) (h2 : e ≤ 100000) :
  Calls Tryz.prog 20 #[DV p e] w fun en w' => en = .returned (DC z e) ∧ Fr NoS w w' := by
 obtain ⟨u0, hu0⟩ : ∃ u0 : World, Hid (u0 = (w.alloc (.cells #[.pointer (some ⟨p, 0, none⟩), .int .i32 e] TShop (0, 0))).alloc (.cells #[.string ⟨#[]⟩, .int .i64 0] TDec (0, 0))) := ⟨_, Lib.hid rfl⟩
 have hA : Fr NoS w u0 := by rw [hu0.out]; exact ((Fr.refl NoS w).alloc _).alloc _
 have B1 : u0.heap[w.heap.size]? = some (.cells #[.pointer (some ⟨p, 0, none⟩), .int .i32 e] TShop (0, 0)) := by rw [hu0.out, old1 (by simp), new1 (by simp)]
 have B2 : u0.heap[w.heap.size + 1]? = some (.cells #[.string ⟨#[]⟩, .int .i64 0] TDec (0, 0)) := by rw [hu0.out, new1 (by simp)]
 obtain ⟨c10, c11, _, _⟩ := cells2 B1
 have hu : RI u0 p z := h.fr hA
 have w64 : IntKind.i64.wrap e = e := IntWalk.i64_in _ (by omega)
 have n1 : w.heap.size ≠ w.heap.size + 1 := by omega
 obtain ⟨s, hsz⟩ : ∃ s, tz z = s := ⟨_, rfl⟩
 have DG := fun W (f : Fr NoS u0 W) => im_digits p z W (hu.fr f) hs
 show Calls _ _ _ _ fun en w' => en = .returned (.agg #[.string (tz z), .int .i64 e]) ∧ Fr NoS w w'
 rw [hsz] at DG ⊢
 clear hsz
 go_enter Tryz.func20, Tryz.ntmps20
 go_wp2_with fail
 rw [← hu0.out]
 go_region_held3 (fun w' => w'.cell? ⟨w.heap.size, 0, none⟩ = some (.pointer (some ⟨p, 0, none⟩)) ∧ w'.cell? ⟨w.heap.size, 1, none⟩ = some (.int .i32 e)) (go_keep) (first | (go_at_call 38; (with_reducible refine (im_ZzValue p e z _ (hu.fr (Fr.refl NoS u0).drew)).mono ?_); rintro en w1 ⟨rfl, f1⟩; have F1 : Fr NoS u0 w1 := (Fr.refl NoS u0).drew.trans' f1; have D1 := F1.kp B1; clear c10 c11 f1; obtain ⟨c10, c11, _, _⟩ := cells2 D1) | (go_at_call 37; (with_reducible refine (DG w1 F1).mono ?_); rintro en w2 ⟨rfl, f2⟩; have F2 : Fr NoS u0 w2 := F1.trans' f2; have D2 := F2.kp B1; clear c10 c11 f2; obtain ⟨c10, c11, _, _⟩ := cells2 D2) | (go_at_call 39; (with_reducible refine (im_Exponent p e _).mono ?_); rintro en w3 ⟨rfl, f3⟩; have F3 : Fr NoS u0 w3 := F2.trans' f3; have D3 := F3.kp B1; have E3 := F3.kp B2; clear c10 c11 f3; obtain ⟨c10, c11, _, _⟩ := cells2 D3; obtain ⟨k0, k1, kf0, kf1⟩ := cells2 E3))
 all_goals
  have hF : Fr NoS w ((w3.setCell ⟨w.heap.size + 1, 0, none⟩ (.string s)).setCell ⟨w.heap.size + 1, 1, none⟩ (.int .i64 e)) := ((hA.trans' F3).setCell ⟨w.heap.size + 1, 0, none⟩ _ (.inl (Nat.le_succ _))).setCell ⟨w.heap.size + 1, 1, none⟩ _ (.inl (Nat.le_succ _))
  have FIN := Lib.hid hF
  clear hF D3 E3 D1 D2 B1 B2 c10 c11 DG
  go_wp2
  exact bodyPost_ret (v := .agg #[.string s, .int .i64 e]) (by simp [results, Tryz.results20, go_sem, k0, k1]) rfl ⟨rfl, FIN.out⟩
end Go.Proofs.YtilmldfbmmcchaaGreatDoor
