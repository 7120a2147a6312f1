/- Natural numbers of nine digits a limb, as lists: read from the decimal text. A whole number read from its decimal text: impl.whole. The few floats that the decimal package meets here: the logarithm of 10 to the base 2, amounts. No conditions. How many digits a whole number has. Conditions: each theorem bears its own. -/
import Derived.Laws.Cover2
import Derived.Laws.FloatArith
import Derived.Test.YtilmldfbmmcchaaGreatDoorZ16
set_option linter.unusedVariables false
set_option linter.unusedSimpArgs false
namespace Go.Proofs.YtilmldfbmmcchaaGreatDoor.PFnDecPowInt
open Go.RowKit Go.Proofs.YtilmldfbmmcchaaGreatDoorW.PrintWords Go.Proofs.YtilmldfbmmcchaaGreatDoorW.PrintLast Go.Proofs.YtilmldfbmmcchaaGreatDoorW.PrintMore
theorem of_acc (n c : Nat) (hn : n < 100000000) (hc : c ≤ 9) : (((n : Int) * 10) % 4294967296 + (((48 + c : Nat) : Int) - 48) % 256) % 4294967296 = ((n * 10 + c : Nat) : Int) := by omega
theorem mx_nat (E : Nat) (hE : E ≤ 1000000) : mx 0 (wrap64 ((E : Int) - 9)) = ((E - 9 : Nat) : Int) := by
 rw [wrap64_small (by omega) (by omega)]
 unfold mx; split <;> omega
set_option maxRecDepth 10000 in
theorem of_in (s : ByteArray) (D n : Nat) (T : DText s D n) (hD : D ≤ 1000000) (E : Nat) (hE : E ≤ D) (out : List Int) (hol : out.length ≤ 1000000) (i0 : Nat) (res : List Int × Bool) (d : Nat) : ∀ (i a : Nat), i + d = E → i0 ≤ i → E ≤ i0 + 9 → a < 10 ^ (i - i0) → hd n D i = hd n D i0 * 10 ^ (i - i0) + a →
  (∀ a', a' < 10 ^ (E - i0) → hd n D E = hd n D i0 * 10 ^ (E - i0) + a' → Ev (fun k => spec_NatOf.l0 k s (out ++ [(a' : Int)]) (wrap64 ((E : Int) - 9))) res) →
  Ev (fun k => spec_NatOf.l1 k s out (E : Int) (a : Int) i) res := by
 induction d with
 | zero =>
  intro i a hi h0 h9 ha hv H
  obtain rfl : i = E := by omega
  refine Ev.step (fun k => ?_) (H a ha hv)
  rw [spec_NatOf.l1, if_neg (by omega), if_pos (by omega)]
 | succ d ih =>
  intro i a hi h0 h9
  have hiD : i < D := by omega
  have hs := T.size
  have ew := w64_one i (by omega)
  have b1 : (i : Int) < (E : Int) := by omega
  have b2 : (i : Int) < (s.size : Int) := by omega
  have hp : i + 1 - i0 = i - i0 + 1 := by omega
  have h18 : i - i0 ≤ 8 := by omega
  have c1 : i + 1 + d = E := by omega
  have c2 : i0 ≤ i + 1 := by omega
  clear hi h0 hE hD hol
  intro ha hv H
  have hst := hd_step (n := n) hiD
  have hb := T.byte i hiD
  obtain ⟨c, hc⟩ : ∃ c, n / 10 ^ (D - 1 - i) % 10 = c := ⟨_, rfl⟩
  have hc9 : c ≤ 9 := by rw [← hc]; exact Nat.le_of_lt_succ (Nat.mod_lt _ (by decide))
  rw [hc] at hst hb
  clear hc
  have ha8 : a < 100000000 := Nat.lt_of_lt_of_le ha (Nat.le_trans (Nat.pow_le_pow_right (by decide) h18) (by decide))
  have b3 : ¬ (((48 + c : Nat) : Int) < 48) := by clear hv hst ha ha8 H ih; omega
  have b4 : ¬ (((48 + c : Nat) : Int) > 57) := by clear hv hst ha ha8 H ih; omega
  have e := of_acc a c ha8 hc9
  have ha' : a * 10 + c < 10 ^ (i + 1 - i0) := by
   rw [hp, Nat.pow_succ]
   clear hv hst H ih
   generalize 10 ^ (i - i0) = q at ha ⊢
   omega
  have hv' : hd n D (i + 1) = hd n D i0 * 10 ^ (i + 1 - i0) + (a * 10 + c) := by
   rw [hst, hv, hp, Nat.pow_succ]
   generalize hd n D i0 = x
   generalize 10 ^ (i - i0) = q
   grind
  refine Ev.step (fun k => ?_) (ih (i + 1) (a * 10 + c) c1 c2 h9 ha' hv' H)
  rw [spec_NatOf.l1, if_pos b1, if_pos (Int.natCast_nonneg _), if_pos b2, hb, if_neg b3, if_neg b4, e, ew]
theorem ba_loop (s : ByteArray) (i : Nat) (r : List UInt8) : (ByteArray.toList.loop s i r).length = r.length + (s.size - i) := by
 induction h : s.size - i generalizing i r with
 | zero => unfold ByteArray.toList.loop; rw [if_neg (by omega)]; simp
 | succ n ih => unfold ByteArray.toList.loop; rw [if_pos (by omega), ih (i+1) _ (by omega)]; simp; omega
theorem ba_ne (s : ByteArray) (h : 0 < s.size) : (!s.toList.isEmpty) = true := by
 have := ba_loop s 0 []
 have h2 : s.toList.length = s.size := by unfold ByteArray.toList; rw [this]; simp
 cases e : s.toList with
 | nil => rw [e] at h2; simp at h2; omega
 | cons x l => rfl
theorem of_stop (s : ByteArray) (hs : (!s.toList.isEmpty) = true) (n : Nat) (out : List Int) (hO : Lm out) (hol : out.length ≤ 1000000) (hv : val out = (n : Int)) (e : Int) (he : e ≤ 0) : Ev (fun k => spec_NatOf.l0 k s out e) (limbs n, true) := by
 have T := trim_ev out.length out rfl hol hO
 rw [hv, Int.toNat_natCast] at T
 refine Ev.step (f := fun k => (spec_natTrim.f k out).bind fun t144 => some (t144, true)) (fun k => ?_) (Ev.bind T (Ev.now _))
 rw [spec_NatOf.l0, if_neg (by omega), hs]
theorem ten9 (k : Nat) : P9 k = ((10 ^ (9 * k) : Nat) : Int) := by
 rw [P9_cast, Nat.pow_mul]
theorem of_val {v p n e a h h0 q : Nat} (hv : v + p * h = n) (hh : h = h0 * q + a) : (v + p * a) + p * q * h0 = n := by
 rw [← hv, hh]; grind
set_option maxRecDepth 10000 in
theorem of_out (s : ByteArray) (D n : Nat) (T : DText s D n) (hD : D ≤ 100000) (hs : (!s.toList.isEmpty) = true) (E : Nat) : ∀ (out : List Int) (v : Nat), E ≤ D → Lm out → out.length ≤ D → D = E + 9 * out.length → val out = (v : Int) → v + 10 ^ (9 * out.length) * hd n D E = n →
  Ev (fun k => spec_NatOf.l0 k s out (E : Int)) (limbs n, true) := by
 induction E using Nat.strongRecOn with
 | _ E ih =>
  intro out v hE hO hol hlen hv
  have d1 : out.length ≤ 1000000 := by omega
  have d2 : E ≤ 1000000 := by omega
  have d3 : E - 9 + (E - (E - 9)) = E := by omega
  have d4 : E ≤ E - 9 + 9 := by omega
  have d5 : ∀ (h : 9 ≤ E), wrap64 ((E : Int) - 9) = ((E - 9 : Nat) : Int) := fun h => by rw [wrap64_small (by omega) (by omega)]; omega
  have d6 : ∀ (h : ¬ 9 ≤ E), wrap64 ((E : Int) - 9) = (E : Int) - 9 ∧ E - 9 = 0 ∧ (E : Int) - 9 ≤ 0 := fun h => ⟨wrap64_small (by omega) (by omega), by omega, by omega⟩
  have d7 : ∀ (h : 9 ≤ E), 9 * (out.length + 1) = 9 * out.length + (E - (E - 9)) ∧ E - 9 < E ∧ E - 9 ≤ D ∧ out.length + 1 ≤ D ∧ D = E - 9 + 9 * (out.length + 1) := fun h => ⟨by omega, by omega, by omega, by omega, by omega⟩
  have d8 : E - (E - 9) ≤ 9 := by omega
  have d9 : ¬ E = 0 → (E : Int) > 0 := fun h => by omega
  have d10 : out.length + 1 ≤ 1000000 := by omega
  have hDD : D ≤ 1000000 := by omega
  clear hol hlen
  intro hinv
  by_cases h0 : E = 0
  ·subst h0
   rw [hd_zero T.lt, Nat.mul_zero, Nat.add_zero] at hinv
   exact of_stop s hs n out hO d1 (by rw [hv, hinv]) _ (by simp)
  ·have IN := of_in s D n T hDD E hE out d1 (E - 9) (limbs n, true) (E - (E - 9)) (E - 9) 0 d3 (Nat.le_refl _) d4 (by rw [Nat.sub_self]; exact Nat.zero_lt_one) (by rw [Nat.sub_self, Nat.pow_zero, Nat.mul_one, Nat.add_zero]) (fun a ha hva => ?_)
   ·refine Ev.step (fun k => ?_) IN
    rw [spec_NatOf.l0, if_pos (d9 h0), mx_nat E d2]
    rfl
   ·have ha9 : a < 1000000000 := Nat.lt_of_lt_of_le ha (Nat.le_trans (Nat.pow_le_pow_right (by decide) d8) (by decide))
    have hO' : Lm (out ++ [(a : Int)]) := hO.append (Lm.cons (Int.natCast_nonneg _) (Int.ofNat_lt.2 ha9) Lm.nil)
    have hl' : (out ++ [(a : Int)]).length = out.length + 1 := by rw [List.length_append]; rfl
    have hv' : val (out ++ [(a : Int)]) = ((v + 10 ^ (9 * out.length) * a : Nat) : Int) := by
     rw [val_append, hv, ten9, Int.natCast_add, Int.natCast_mul]; simp [val]
    have hov := of_val (e := 0) hinv hva
    by_cases h9 : 9 ≤ E
    ·obtain ⟨k1, k2, k3, k4, k5⟩ := d7 h9
     rw [d5 h9]
     refine ih (E - 9) k2 _ _ k3 hO' (by rw [hl']; exact k4) (by rw [hl']; exact k5) hv' ?_
     rw [hl', k1, Nat.pow_add]
     exact hov
    ·obtain ⟨k1, k2, k3⟩ := d6 h9
     rw [k1]
     rw [k2, hd_zero T.lt, Nat.mul_zero, Nat.add_zero] at hov
     exact of_stop s hs n _ hO' (by rw [hl']; exact d10) (by rw [hv', hov]) _ k3
theorem ofN (s : ByteArray) (D n : Nat) (T : DText s D n) (hD : D ≤ 100000) : Ev (fun k => spec_NatOf.f k s) (limbs n, true) := by
 have hs := ba_ne s (by have := T.size; have := T.pos; omega)
 have h := of_out s D n T hD hs D [] 0 (Nat.le_refl _) Lm.nil (Nat.zero_le _) rfl rfl (by rw [hd_all]; simp)
 have hz := T.size
 refine Ev.congr (fun k => ?_) h
 rw [spec_NatOf.f, hz]
end Go.Proofs.YtilmldfbmmcchaaGreatDoor.PFnDecPowInt
namespace Go.Proofs.YtilmldfbmmcchaaGreatDoor
open Go.RowKit Go.Proofs.YtilmldfbmmcchaaGreatDoorW.PrintWords
theorem Row.rdW {w : World} {v : Value} {n : Nat} {F : Nat → Nat} (h : Row .u64 TW w v n F) (hn : n ≤ LL) (hF : ∀ j, j < n → F j < BB) : RdW w v n F := by
 rcases h with h | ⟨g, c, cs, rfl, h1, h2, hc, hs, hr⟩
 ·exact .inl h
 ·exact .inr ⟨g, 0, c, cs, rfl, h1, ⟨hn, h2⟩, Nat.zero_le _, hc, fun j hj => ⟨by rw [Nat.zero_add]; exact hr j hj, hF j hj⟩⟩
theorem limb_step {b S x y g A B P k : Nat} (h : A + b ^ k * y = S * B + x) (hP : P = y + g * S) : A + b ^ k * (P % b) + b ^ (k + 1) * (P / b) = S * (B + b ^ k * g) + x := by
 have := Nat.mod_add_div P b
 have e : b ^ k * (P % b) + b ^ (k + 1) * (P / b) = b ^ k * (P % b + b * (P / b)) := by rw [Nat.pow_succ]; grind
 rw [Nat.add_assoc, e, this, hP]
 grind
theorem pow9_lt {k : Nat} (h : 10 ^ k < 1000000000) : k < 9 := by
 refine Nat.lt_of_not_le fun hle => ?_
 have : (10 : Nat) ^ 9 ≤ 10 ^ k := Nat.pow_le_pow_right (by omega) hle
 omega
set_option maxRecDepth 100000 in
set_option maxHeartbeats 8000000 in
theorem im_whole (z : Int) (w : World) (h400 : (lz z).length ≤ 400) :
  Calls Tryz.prog 32 #[.string (tz z)] w fun e w' => ∃ p, e = .returned (.tuple #[.pointer (some ⟨p, 0, none⟩), .bool true]) ∧ RI w' p z ∧ Fr NoS w w' := by
 obtain ⟨s, hs⟩ : ∃ s, Hid (s = tz z) := ⟨_, Lib.hid rfl⟩
 rw [← hs.out]
 obtain ⟨n, hn⟩ : ∃ n, Hid (n = z.natAbs) := ⟨_, Lib.hid rfl⟩
 rcases Int.lt_trichotomy z 0 with hneg | hzero | hpos
 case' inl =>
  obtain ⟨b0, b1, T⟩ := dtext_neg z hneg
  rw [← hs.out] at b0 b1 T
  obtain ⟨t, ht⟩ : ∃ t, Hid (t = s.extract 1 s.size) := ⟨_, Lib.hid rfl⟩
  obtain ⟨D, hDD⟩ : ∃ D, Hid (D = (dg z.natAbs).length) := ⟨_, Lib.hid rfl⟩
  rw [← ht.out, ← hDD.out, ← hn.out] at T
  have hD : D ≤ 400 := by
   have : (lz z).length = (dg z.natAbs).length + 1 := by rw [lz, if_neg (by omega), if_pos hneg]; simp
   rw [hDD.out]; omega
  have hn0 : n ≠ 0 := by rw [hn.out]; omega
  have k0 : ∀ h : 0 < s.size, ((s[0]'h).toNat : Int) = 45 := fun h => (bt_at s 0 h).trans b0
  have s1 : decide (0 < s.size) = true := decide_eq_true (by omega)
  have s1' : decide ((0 : Int) < (s.size : Int)) = true := decide_eq_true (by omega)
  have s2 : (0 : Nat) < s.size := by omega
  have s3 : (1 : Int) ≤ (s.size : Int) := by omega
  have hte : s.extract 1 s.size = t := ht.out.symm
  obtain ⟨c0, hc0⟩ : ∃ c0, Hid (bt t 0 = c0) := ⟨_, Lib.hid rfl⟩
  have hc48 : (c0 == 48) = false := beq_eq_false_iff_ne.2 (by rw [← hc0.out]; exact T.first hn0)
  have hDp := T.pos
  have e1 : ((t.size : Int) == 0) = false := beq_eq_false_iff_ne.2 (by have := T.size; omega)
  have e2 : decide ((400 : Int) < (t.size : Int)) = false := decide_eq_false (by have := T.size; omega)
  have e2' : decide (400 < t.size) = false := decide_eq_false (by have := T.size; omega)
  have e3 : (0 : Nat) < t.size := by have := T.size; omega
  have kt : ∀ h : 0 < t.size, ((t[0]'h).toNat : Int) = c0 := fun h => (bt_at t 0 h).trans hc0.out
  have HT := Lib.hid T
  clear T b0 b1 hs ht
  go_enter Tryz.func32, Tryz.ntmps32
  go_wp2_with fail
 case' inr.inl =>
  have T := dtext_pos z (by omega)
  have hZ0 := Lib.hid hzero
  have hz00 : 0 ≤ z := by omega
  clear hzero
  rw [← hs.out] at T
  obtain ⟨t, ht⟩ : ∃ t, Hid (t = s) := ⟨_, Lib.hid rfl⟩
  obtain ⟨D, hDD⟩ : ∃ D, Hid (D = (lz z).length) := ⟨_, Lib.hid rfl⟩
  have hD1 : D = 1 := by rw [hDD.out, hZ0.out]; rfl
  rw [← hDD.out, ← hn.out, ← ht.out] at T
  rw [← ht.out]
  have hD : D ≤ 400 := by omega
  have hn0 : n = 0 := by rw [hn.out, hZ0.out]; rfl
  have b0 : bt t 0 = 48 := by
   have := T.byte 0 (by omega)
   rw [hn0, hD1] at this
   exact this
  have kt : ∀ h : 0 < t.size, ((t[0]'h).toNat : Int) = 48 := fun h => (bt_at t 0 h).trans b0
  have hsz : t.size = 1 := by have := T.size; omega
  have e1 : ((t.size : Int) == 0) = false := beq_eq_false_iff_ne.2 (by omega)
  have e2 : decide ((400 : Int) < (t.size : Int)) = false := decide_eq_false (by omega)
  have e2' : decide (400 < t.size) = false := decide_eq_false (by omega)
  have e4 : decide ((1 : Int) < (t.size : Int)) = false := decide_eq_false (by omega)
  have e4' : decide (1 < t.size) = false := decide_eq_false (by omega)
  have e3 : (0 : Nat) < t.size := by omega
  have s1 : decide (0 < t.size) = true := decide_eq_true (by omega)
  have s1' : decide ((0 : Int) < (t.size : Int)) = true := decide_eq_true (by omega)
  have HT := Lib.hid T
  have hDp := T.pos
  clear T hs ht hsz b0 hn0 hD1
  go_enter Tryz.func32, Tryz.ntmps32
  go_wp2_with fail
 case' inr.inr =>
  have T := dtext_pos z (by omega)
  rw [← hs.out] at T
  obtain ⟨t, ht⟩ : ∃ t, Hid (t = s) := ⟨_, Lib.hid rfl⟩
  obtain ⟨D, hDD⟩ : ∃ D, Hid (D = (lz z).length) := ⟨_, Lib.hid rfl⟩
  rw [← hDD.out, ← hn.out, ← ht.out] at T
  rw [← ht.out]
  have hD : D ≤ 400 := by rw [hDD.out]; omega
  have hn0 : n ≠ 0 := by rw [hn.out]; omega
  obtain ⟨c0, hc0⟩ : ∃ c0, Hid (bt t 0 = c0) := ⟨_, Lib.hid rfl⟩
  have hc48 : (c0 == 48) = false := beq_eq_false_iff_ne.2 (by rw [← hc0.out]; exact T.first hn0)
  have hDp := T.pos
  have hc45 : (c0 == 45) = false := beq_eq_false_iff_ne.2 (by
   have := T.byte 0 hDp
   rw [show ((0 : Nat) : Int) = 0 from rfl, hc0.out] at this; omega)
  have kt : ∀ h : 0 < t.size, ((t[0]'h).toNat : Int) = c0 := fun h => (bt_at t 0 h).trans hc0.out
  have e1 : ((t.size : Int) == 0) = false := beq_eq_false_iff_ne.2 (by have := T.size; omega)
  have e2 : decide ((400 : Int) < (t.size : Int)) = false := decide_eq_false (by have := T.size; omega)
  have e2' : decide (400 < t.size) = false := decide_eq_false (by have := T.size; omega)
  have e3 : (0 : Nat) < t.size := by have := T.size; omega
  have s1 : decide (0 < t.size) = true := decide_eq_true (by omega)
  have s1' : decide ((0 : Int) < (t.size : Int)) = true := decide_eq_true (by omega)
  have HT := Lib.hid T
  clear T hs ht
  go_enter Tryz.func32, Tryz.ntmps32
  go_wp2_with fail
 all_goals
  (try clear hte)
  (try clear k0 s2 s3)
  (try clear hc48 hc0)
  (try clear hc45)
  (try clear e4 e4')
  clear kt e1 e2 e2' s1 s1'
  (try clear e3)
  have hts := HT.out.size
  subst hts
  clear hDp hDD
  go_loopw [5, 6] (fun vl vi wr => ∃ (i m : Nat) (G : Nat → Nat), i ≤ t.size ∧ vi = .int .i64 i ∧ m ≤ i ∧ Row .u64 T64 wr vl m G ∧ Hid (∀ j, j < m → G j < HB) ∧ Hid (Vb HB G 0 m = hd n t.size i) ∧ Fr NoS w wr ∧ Hid (∀ k, vl.ownBlock = some k → w.heap.size ≤ k))
   (fun _ vi _ => t.size - (intOf vi).toNat)
  case atStart => exact ⟨0, 0, fun _ => 0, by omega, rfl, by omega, Row.nil _ _ _ _, fun j hj => by omega, by rw [hd_zero HT.out.lt]; rfl, Fr.refl _ _, fun k hk => by simp [Value.ownBlock] at hk⟩
  case round =>
   obtain ⟨i, m, G, hi, rfl, hmi, hR, hGl, hV, hfr, hol⟩ := hrel
   rcases Nat.lt_or_ge i t.size with hlt | hge
   ·have d1 : decide (i < t.size) = true := decide_eq_true hlt
    have d1' : decide ((i : Int) < (t.size : Int)) = true := decide_eq_true (by omega)
    go_wp2_with fail
    go_loop [6, 7, 8] (fun vi vx vs => ∃ (i' k x S : Nat), Hid (i' = i + k) ∧ k ≤ 9 ∧ i' ≤ t.size ∧ vi = .int .i64 i' ∧ vx = .int .u64 x ∧ vs = .int .u64 S ∧ Hid (S = 10 ^ k) ∧ (S : Int) ≤ 1000000000 ∧ x < S ∧ Hid (hd n t.size i' = hd n t.size i * S + x))
     (fun vi _ _ => t.size - (intOf vi).toNat)
    case atStart => exact ⟨i, 0, 0, 1, rfl, by omega, hi, rfl, rfl, rfl, rfl, by omega, by omega, by simp [Hid]⟩
    case round =>
     obtain ⟨i', k, x, S, hik, hk9, hi', rfl, rfl, rfl, hS, hSl, hxS, hx⟩ := hrel
     by_cases hgo : i' < t.size ∧ S < 1000000000
     ·obtain ⟨hg1, hg2⟩ := hgo
      have c1 : decide (i' < t.size) = true := decide_eq_true hg1
      have c1' : decide ((i' : Int) < (t.size : Int)) = true := decide_eq_true (by omega)
      have c2' : decide ((S : Int) < 1000000000) = true := decide_eq_true (by omega)
      obtain ⟨c, hc⟩ : ∃ c : Nat, Hid (c = n / 10 ^ (t.size - 1 - i') % 10) := ⟨_, Lib.hid rfl⟩
      have hc9 : c ≤ 9 := by rw [hc.out]; omega
      have kb : ∀ h : i' < t.size, ((t[i']'h).toNat : Int) = ((48 + c : Nat) : Int) := fun h => (bt_at t i' h).trans (by rw [hc.out]; exact HT.out.byte i' hg1)
      obtain ⟨cc, hcc⟩ : ∃ cc : Nat, Hid (cc = 48 + c) := ⟨_, Lib.hid rfl⟩
      rw [← hcc.out] at kb
      have hcb : 48 ≤ cc ∧ cc ≤ 57 := by have := hcc.out; omega
      have c3 : decide (cc < 48) = false := decide_eq_false (by omega)
      have c3' : decide ((cc : Int) < 48) = false := decide_eq_false (by omega)
      have c4 : decide (57 < cc) = false := decide_eq_false (by omega)
      have c4' : decide ((57 : Int) < (cc : Int)) = false := decide_eq_false (by omega)
      have hst := hd_step (n := n) hg1
      have hk8 : k < 9 := pow9_lt (by rw [← hS.out]; exact hg2)
      have hfin : Hid (hd n t.size (i' + 1) = hd n t.size i * (S * 10) + (x * 10 + (cc - 48))) := by
       show _ = _
       rw [hst, hx.out, ← hc.out, show cc - 48 = c by have := hcc.out; omega]
       grind
      have hS10 : Hid (S * 10 = 10 ^ (k + 1)) := by show _ = _; rw [hS.out, Nat.pow_succ]
      have hS8 : (S : Int) ≤ 100000000 := by
       have : S ≤ 10 ^ 8 := by rw [hS.out]; exact Nat.pow_le_pow_right (by omega) (by omega)
       rw [show (10 : Nat) ^ 8 = 100000000 from rfl] at this
       omega
      clear hst hg2
      go_wp2
      go_round
      case rel => exact ⟨i' + 1, k + 1, x * 10 + (cc - 48), S * 10, (by have := hik.out; show _ = _; omega), by omega, by omega, by go_num, int_eq (by omega), int_eq (by omega), hS10, by omega, by omega, hfin⟩
      case measure => simp [intOf]; omega
     ·have hpk : i < i' := by
       rcases Nat.eq_zero_or_pos k with h | h
       ·exfalso
        have h2 := hS.out
        have h3 := hik.out
        rw [h, Nat.pow_zero] at h2
        exact hgo ⟨by omega, by omega⟩
       ·have := hik.out; omega
      have hSp : 0 < S := by rw [hS.out]; exact Nat.pow_pos (by omega)
      have hxb : (x : Int) < 1000000000 := by omega
      have hcap := hR.shape'
      obtain ⟨A5, c5, rfl⟩ := hcap
      have HG : Hid (¬ (i' < t.size ∧ S < 1000000000)) := hgo
      have hV1 : Hid (hd n t.size i' = S * Vb HB G 0 m + x) := by show _ = _; rw [hx.out, hV.out, Nat.mul_comm S]
      clear hV hx
      have key : True := trivial
      by_cases hq : i' < t.size
      ·have hSn : decide ((S : Int) < 1000000000) = false := decide_eq_false (fun h => hgo ⟨hq, by omega⟩)
       have q1 : decide (i' < t.size) = true := decide_eq_true hq
       have q1' : decide ((i' : Int) < (t.size : Int)) = true := decide_eq_true (by omega)
       clear hgo hS
       have hgo2 : True := trivial
       go_wp2_with fail
       go_loopw [7, 81] (fun vx vj wr => ∃ (j y : Nat) (G' : Nat → Nat), j ≤ m ∧ vj = .int .i64 j ∧ vx = .int .u64 y ∧ y < S ∧ Row .u64 T64 wr (.slice A5 m c5) m G' ∧ Hid (∀ j, j < m → G' j < HB) ∧ Hid (Vb HB G' 0 j + HB ^ j * y = S * Vb HB G 0 j + x) ∧ Hid (∀ q, j ≤ q → q < m → G' q = G q) ∧ Fr NoS w wr)
        (fun _ vj _ => m - (intOf vj).toNat)
       case atStart => exact ⟨0, x, G, by omega, rfl, rfl, hxS, hR, hGl, by simp [Vb, Hid], fun _ _ _ => rfl, hfr⟩
       case round =>
        clear hR hGl hfr
        obtain ⟨j, y, G', hj, rfl, rfl, hyS, hR, hGl, hVj, hsame, hfr⟩ := hrel
        rcases Nat.lt_or_ge j m with hjm | hjm
        ·have j1 : decide (j < m) = true := decide_eq_true hjm
         have j1' : decide ((j : Int) < (m : Int)) = true := decide_eq_true (by omega)
         obtain ⟨g5, c5', e5⟩ := hR.form (by omega)
         cases e5
         have hg5 : w.heap.size ≤ g5 := hol.out g5 rfl
         have cx := hR.cell hjm
         rw [Nat.zero_add] at cx
         have fx := hR.free j
         obtain ⟨g, hg⟩ : ∃ g, Hid (g = G' j) := ⟨_, Lib.hid rfl⟩
         rw [← hg.out] at cx
         have hgl : g ≤ 4294967295 := by have := hGl.out j hjm; rw [HB_eq, ← hg.out] at this; omega
         obtain ⟨P, hP⟩ : ∃ P, Hid (P = g * S) := ⟨_, Lib.hid rfl⟩
         have hPm : (g : Int) * (S : Int) = (P : Int) := by rw [hP.out, Int.natCast_mul]
         have hPb : P ≤ 4294967295 * S := by rw [hP.out]; exact Nat.mul_le_mul_right _ hgl
         obtain ⟨Y, hY⟩ : ∃ Y, Hid (Y = y + P) := ⟨_, Lib.hid rfl⟩
         have hYi : (y : Int) + (P : Int) = (Y : Int) := by have := hY.out; omega
         have hYb : Y < 4294967296 * S := by have := hY.out; omega
         have hPi : (P : Int) < 4295000000000000000 := by omega
         have hYi2 : (Y : Int) < 4295000000000000000 := by omega
         have hYd : Y / 4294967296 < S := by omega
         have hHYd := Lib.hid hYd
         have hgl2 : (g : Int) ≤ 4294967295 := by omega
         have a1 := MulW.maskN Y (by omega)
         have hym : Hid (Y % 4294967296 < HB) := by show _ < _; rw [HB_eq]; omega
         have ha2 : Hid ((Y : Int) / 4294967296 = ((Y / 4294967296 : Nat) : Int)) := by show _ = _; omega
         clear hPb hYb hYd hgl hgo2
         go_wp2
         go_roundw
         case rel =>
          refine ⟨j + 1, Y / 4294967296, upd G' j (Y % 4294967296), by omega, by go_num, int_eq ha2.out, hHYd.out, ?_, fun q hq => ?_, ?_, fun q h1 h2 => ?_, hfr.setCell _ _ (.inl hg5)⟩
          ·have := hR.store j (Y % 4294967296)
           rwa [show ((Y % 4294967296 : Nat) : Int) = (Y : Int) % 4294967296 by omega] at this
          ·unfold upd; split
           ·exact hym.out
           ·exact hGl.out q hq
          ·have e1 := V_upd_succ HB G' 0 j (Y % 4294967296)
           rw [Nat.zero_add] at e1
           show _ = _
           rw [e1, V_succ HB G, Nat.zero_add, ← hsame.out j (Nat.le_refl _) hjm, ← hg.out]
           exact limb_step hVj.out (by rw [hY.out, hP.out])
          ·rw [upd_other _ _ _ _ (by omega)]; exact hsame.out q (by omega) h2
         case measure => simp [intOf]; omega
        ·obtain rfl : j = m := by omega
         have j1 : decide (j < j) = false := by simp
         have hfinV : Hid (Vb HB G' 0 j + HB ^ j * y = hd n t.size i') := by show _ = _; rw [hVj.out, hV1.out]
         have hyi : (y : Int) < 1000000000 := by omega
         clear hVj hV1 hsame hgo2
         rcases Nat.eq_zero_or_pos y with hy0 | hy0
         ·have y1 : decide ((0 : Int) < (y : Int)) = false := decide_eq_false (by omega)
          have y1' : decide (0 < y) = false := decide_eq_false (by omega)
          go_wp2
          go_roundw
          case rel =>
           exact ⟨i', j, G', hi', rfl, by omega, hR, hGl, by have := hfinV.out; rw [hy0, Nat.mul_zero, Nat.add_zero] at this; exact this, hfr, hol⟩
          case measure => simp [intOf]; omega
         ·have y1 : decide ((0 : Int) < (y : Int)) = true := decide_eq_true (by omega)
          have y1' : decide (0 < y) = true := decide_eq_true hy0
          have hRa : ∀ o, Row .u64 T64 (wr.alloc o) (.slice A5 j c5) j G' := fun o => hR.fr ((Fr.refl NoS wr).alloc o) (fun _ _ x => x)
          go_wp2_with (at_builtin; (refine wpList_pushs (K := .u64) (T := T64) rfl (.tmp 102) (.tmp 104) 91 rfl Tryz.underlying91 info64 rfl (by omega) (.slice A5 j c5) j [y] rfl (hRa _) wr.heap.size 1 1 rfl rfl (by omega) (by omega) (one_cell wr _ _ _ _ rfl) (by omega) ?_; intro g' c' w' hR' hf' hat'))
          have hsz := hfr.size
          go_roundw
          case rel =>
           refine ⟨i', j + 1, _, hi', rfl, by omega, hR', fun q hq => ?_, ?_, (hfr.trans' ((Fr.refl NoS wr).alloc _)).trans hf' (fun k hk e => ?_), fun k hk => ?_⟩
           ·show (if q < j then G' q else [y].getD (q - j) 0) < HB
            split
            ·exact hGl.out q ‹_›
            ·rw [show q - j = 0 by omega]; simp only [List.getD_cons_zero]; rw [HB_eq]; omega
           ·show _ = _
            rw [V_succ, Nat.zero_add, if_neg (Nat.lt_irrefl _), Nat.sub_self, V_congr (F := fun q => if q < j then G' q else [y].getD (q - j) 0) (G := G') (o' := 0) (fun q hq => by simp only [Nat.zero_add]; rw [if_pos hq])]
            exact hfinV.out
           ·have := hol.out k e; omega
           ·simp only [Value.ownBlock, Option.some.injEq] at hk
            subst hk
            rcases hat' with e | e
            ·exact hol.out _ e
            ·rw [World.size_alloc] at e; omega
          case measure => simp [intOf]; omega
      ·have q1 : decide (i' < t.size) = false := decide_eq_false hq
       have q1' : decide ((i' : Int) < (t.size : Int)) = false := decide_eq_false (by omega)
       clear hgo hS
       have hgo2 : True := trivial
       go_wp2_with fail
       go_loopw [7, 81] (fun vx vj wr => ∃ (j y : Nat) (G' : Nat → Nat), j ≤ m ∧ vj = .int .i64 j ∧ vx = .int .u64 y ∧ y < S ∧ Row .u64 T64 wr (.slice A5 m c5) m G' ∧ Hid (∀ j, j < m → G' j < HB) ∧ Hid (Vb HB G' 0 j + HB ^ j * y = S * Vb HB G 0 j + x) ∧ Hid (∀ q, j ≤ q → q < m → G' q = G q) ∧ Fr NoS w wr)
        (fun _ vj _ => m - (intOf vj).toNat)
       case atStart => exact ⟨0, x, G, by omega, rfl, rfl, hxS, hR, hGl, by simp [Vb, Hid], fun _ _ _ => rfl, hfr⟩
       case round =>
        clear hR hGl hfr
        obtain ⟨j, y, G', hj, rfl, rfl, hyS, hR, hGl, hVj, hsame, hfr⟩ := hrel
        rcases Nat.lt_or_ge j m with hjm | hjm
        ·have j1 : decide (j < m) = true := decide_eq_true hjm
         have j1' : decide ((j : Int) < (m : Int)) = true := decide_eq_true (by omega)
         obtain ⟨g5, c5', e5⟩ := hR.form (by omega)
         cases e5
         have hg5 : w.heap.size ≤ g5 := hol.out g5 rfl
         have cx := hR.cell hjm
         rw [Nat.zero_add] at cx
         have fx := hR.free j
         obtain ⟨g, hg⟩ : ∃ g, Hid (g = G' j) := ⟨_, Lib.hid rfl⟩
         rw [← hg.out] at cx
         have hgl : g ≤ 4294967295 := by have := hGl.out j hjm; rw [HB_eq, ← hg.out] at this; omega
         obtain ⟨P, hP⟩ : ∃ P, Hid (P = g * S) := ⟨_, Lib.hid rfl⟩
         have hPm : (g : Int) * (S : Int) = (P : Int) := by rw [hP.out, Int.natCast_mul]
         have hPb : P ≤ 4294967295 * S := by rw [hP.out]; exact Nat.mul_le_mul_right _ hgl
         obtain ⟨Y, hY⟩ : ∃ Y, Hid (Y = y + P) := ⟨_, Lib.hid rfl⟩
         have hYi : (y : Int) + (P : Int) = (Y : Int) := by have := hY.out; omega
         have hYb : Y < 4294967296 * S := by have := hY.out; omega
         have hPi : (P : Int) < 4295000000000000000 := by omega
         have hYi2 : (Y : Int) < 4295000000000000000 := by omega
         have hYd : Y / 4294967296 < S := by omega
         have hHYd := Lib.hid hYd
         have hgl2 : (g : Int) ≤ 4294967295 := by omega
         have a1 := MulW.maskN Y (by omega)
         have hym : Hid (Y % 4294967296 < HB) := by show _ < _; rw [HB_eq]; omega
         have ha2 : Hid ((Y : Int) / 4294967296 = ((Y / 4294967296 : Nat) : Int)) := by show _ = _; omega
         clear hPb hYb hYd hgl hgo2
         go_wp2
         go_roundw
         case rel =>
          refine ⟨j + 1, Y / 4294967296, upd G' j (Y % 4294967296), by omega, by go_num, int_eq ha2.out, hHYd.out, ?_, fun q hq => ?_, ?_, fun q h1 h2 => ?_, hfr.setCell _ _ (.inl hg5)⟩
          ·have := hR.store j (Y % 4294967296)
           rwa [show ((Y % 4294967296 : Nat) : Int) = (Y : Int) % 4294967296 by omega] at this
          ·unfold upd; split
           ·exact hym.out
           ·exact hGl.out q hq
          ·have e1 := V_upd_succ HB G' 0 j (Y % 4294967296)
           rw [Nat.zero_add] at e1
           show _ = _
           rw [e1, V_succ HB G, Nat.zero_add, ← hsame.out j (Nat.le_refl _) hjm, ← hg.out]
           exact limb_step hVj.out (by rw [hY.out, hP.out])
          ·rw [upd_other _ _ _ _ (by omega)]; exact hsame.out q (by omega) h2
         case measure => simp [intOf]; omega
        ·obtain rfl : j = m := by omega
         have j1 : decide (j < j) = false := by simp
         have hfinV : Hid (Vb HB G' 0 j + HB ^ j * y = hd n t.size i') := by show _ = _; rw [hVj.out, hV1.out]
         have hyi : (y : Int) < 1000000000 := by omega
         clear hVj hV1 hsame hgo2
         rcases Nat.eq_zero_or_pos y with hy0 | hy0
         ·have y1 : decide ((0 : Int) < (y : Int)) = false := decide_eq_false (by omega)
          have y1' : decide (0 < y) = false := decide_eq_false (by omega)
          go_wp2
          go_roundw
          case rel =>
           exact ⟨i', j, G', hi', rfl, by omega, hR, hGl, by have := hfinV.out; rw [hy0, Nat.mul_zero, Nat.add_zero] at this; exact this, hfr, hol⟩
          case measure => simp [intOf]; omega
         ·have y1 : decide ((0 : Int) < (y : Int)) = true := decide_eq_true (by omega)
          have y1' : decide (0 < y) = true := decide_eq_true hy0
          have hRa : ∀ o, Row .u64 T64 (wr.alloc o) (.slice A5 j c5) j G' := fun o => hR.fr ((Fr.refl NoS wr).alloc o) (fun _ _ x => x)
          go_wp2_with (at_builtin; (refine wpList_pushs (K := .u64) (T := T64) rfl (.tmp 102) (.tmp 104) 91 rfl Tryz.underlying91 info64 rfl (by omega) (.slice A5 j c5) j [y] rfl (hRa _) wr.heap.size 1 1 rfl rfl (by omega) (by omega) (one_cell wr _ _ _ _ rfl) (by omega) ?_; intro g' c' w' hR' hf' hat'))
          have hsz := hfr.size
          go_roundw
          case rel =>
           refine ⟨i', j + 1, _, hi', rfl, by omega, hR', fun q hq => ?_, ?_, (hfr.trans' ((Fr.refl NoS wr).alloc _)).trans hf' (fun k hk e => ?_), fun k hk => ?_⟩
           ·show (if q < j then G' q else [y].getD (q - j) 0) < HB
            split
            ·exact hGl.out q ‹_›
            ·rw [show q - j = 0 by omega]; simp only [List.getD_cons_zero]; rw [HB_eq]; omega
           ·show _ = _
            rw [V_succ, Nat.zero_add, if_neg (Nat.lt_irrefl _), Nat.sub_self, V_congr (F := fun q => if q < j then G' q else [y].getD (q - j) 0) (G := G') (o' := 0) (fun q hq => by simp only [Nat.zero_add]; rw [if_pos hq])]
            exact hfinV.out
           ·have := hol.out k e; omega
           ·simp only [Value.ownBlock, Option.some.injEq] at hk
            subst hk
            rcases hat' with e | e
            ·exact hol.out _ e
            ·rw [World.size_alloc] at e; omega
          case measure => simp [intOf]; omega
   ·have d1 : decide (i < t.size) = false := decide_eq_false (by omega)
    have d1' : decide ((i : Int) < (t.size : Int)) = false := decide_eq_false (by omega)
    obtain ⟨A5, c5, rfl⟩ := hR.shape'
    have hVn : Hid (Vb HB G 0 m = n) := by show _ = _; rw [hV.out, show i = t.size by omega, hd_all]
    have hm400 : m ≤ 400 := by omega
    clear hV
    go_wp2_with fail
    go_loopw [10, 108] (fun vw vj wr => ∃ (j q : Nat) (W : Nat → Nat), j ≤ m ∧ vj = .int .i64 j ∧ Row .u64 TW wr vw q W ∧ Hid (q = (j + 1) / 2) ∧ Hid (Vb BB W 0 q = Vb HB G 0 j) ∧ Hid (∀ k, k < q → W k < BB) ∧ Hid (j % 2 = 1 → W (q - 1) < HB) ∧ Row .u64 T64 wr (.slice A5 m c5) m G ∧ Fr NoS w wr ∧ Hid (∀ k, vw.ownBlock = some k → w.heap.size ≤ k))
     (fun _ vj _ => m - (intOf vj).toNat)
    case atStart => exact ⟨0, 0, fun _ => 0, by omega, rfl, Row.nil _ _ _ _, rfl, rfl, fun k hk => by omega, fun h => by omega, hR, hfr, fun k hk => by simp [Value.ownBlock] at hk⟩
    case round =>
     clear hR hfr
     obtain ⟨j, q, W, hj, rfl, hW, hq, hVW, hWl, hWt, hR, hfr, how⟩ := hrel
     rcases Nat.lt_or_ge j m with hjm | hjm
     ·have j1 : decide (j < m) = true := decide_eq_true hjm
      have j1' : decide ((j : Int) < (m : Int)) = true := decide_eq_true (by omega)
      obtain ⟨g5, c5', e5⟩ := hR.form (by omega)
      cases e5
      have cx := hR.cell hjm
      rw [Nat.zero_add] at cx
      obtain ⟨g, hg⟩ : ∃ g, Hid (g = G j) := ⟨_, Lib.hid rfl⟩
      rw [← hg.out] at cx
      have hgl : (g : Int) ≤ 4294967295 := by have := hGl.out j hjm; rw [HB_eq, ← hg.out] at this; omega
      have hql : q ≤ 400 := by have := hq.out; omega
      rcases Nat.mod_two_eq_zero_or_one j with hj2 | hj2
      ·have e2 : ((j : Int) % 2 == 0) = true := beq_iff_eq.2 (by omega)
       have HJ := Lib.hid hj2
       clear hj2
       have hRa : ∀ o, Row .u64 TW (wr.alloc o) u10 q W := fun o => hW.fr ((Fr.refl NoS wr).alloc o) (fun _ _ x => x)
       go_wp2_with (at_builtin; (refine wpList_pushs (K := .u64) (T := TW) rfl (.tmp 114) (.tmp 119) 93 rfl Tryz.underlying93 infoW rfl (by omega) u10 q [g] rfl (hRa _) wr.heap.size 1 1 rfl rfl (by omega) (by omega) (one_cell wr _ _ _ _ rfl) (by omega) ?_; intro g' c' w' hR' hf' hat'))
       have hsz := hfr.size
       go_roundw
       case rel =>
        have hjq : j = 2 * q := by have := hq.out; have := HJ.out; omega
        refine ⟨j + 1, q + 1, _, by omega, by go_num, hR', by show _ = _; omega, ?_, fun k hk => ?_, fun _ => ?_, ?_, (hfr.trans' ((Fr.refl NoS wr).alloc _)).trans hf' (fun k hk e => ?_), fun k hk => ?_⟩
        ·show _ = _
         rw [V_succ, V_succ, Nat.zero_add, if_neg (Nat.lt_irrefl _), Nat.sub_self, V_congr (F := fun k => if k < q then W k else [g].getD (k - q) 0) (G := W) (o' := 0) (fun k hk => by simp only [Nat.zero_add]; rw [if_pos hk]), hVW.out, Nat.zero_add, ← hg.out, hjq, HB_sq]
         rfl
        ·show (if k < q then W k else [g].getD (k - q) 0) < BB
         split
         ·exact hWl.out k ‹_›
         ·rw [show k - q = 0 by omega]; simp only [List.getD_cons_zero]; rw [BB_eq]; omega
        ·show (if q + 1 - 1 < q then W (q + 1 - 1) else [g].getD (q + 1 - 1 - q) 0) < HB
         rw [if_neg (by omega), show q + 1 - 1 - q = 0 by omega]; simp only [List.getD_cons_zero]; rw [HB_eq]; omega
        ·refine (hR.fr ((Fr.refl NoS wr).alloc _) (fun _ _ x => x)).fr hf' (fun k hk e => ?_)
         exact hW.ne_types hR (by decide) e hk
        ·have := how.out k e; omega
        ·simp only [Value.ownBlock, Option.some.injEq] at hk
         subst hk
         rcases hat' with e | e
         ·exact how.out _ e
         ·rw [World.size_alloc] at e; omega
       case measure => simp [intOf]; omega
      ·have e2 : ((j : Int) % 2 == 0) = false := beq_eq_false_iff_ne.2 (by omega)
       have HJ := Lib.hid hj2
       obtain ⟨k, hk⟩ : ∃ k, Hid (j = 2 * k + 1) := ⟨j / 2, by show _ = _; omega⟩
       have hqk : Hid (q = k + 1) := by show _ = _; have := hq.out; have := hk.out; omega
       have hkq : k < q := by have := hqk.out; omega
       obtain ⟨gw, cw, rfl⟩ := hW.form (by omega)
       have hgw := how.out gw rfl
       have cy := hW.cell hkq
       rw [Nat.zero_add] at cy
       have fy := hW.free k
       obtain ⟨y, hy⟩ : ∃ y, Hid (y = W k) := ⟨_, Lib.hid rfl⟩
       rw [← hy.out] at cy
       have hyl : (y : Int) ≤ 4294967295 := by
        have := hWt.out hj2
        rw [show q - 1 = k by have := hqk.out; omega, HB_eq, ← hy.out] at this; omega
       have e3 : (j : Int) / 2 = (k : Int) := by have := hk.out; omega
       have e3t : (j : Int).tdiv 2 = (k : Int) := by rw [Int.tdiv_eq_ediv_of_nonneg (by omega)]; exact e3
       obtain ⟨Z, hZ⟩ : ∃ Z, Hid (Z = y + g * 4294967296) := ⟨_, Lib.hid rfl⟩
       have orx : bits .or .u64 (y : Int) ((g : Int) * 4294967296) = (Z : Int) := by
        have h1 := u64_or_nat y (g * 4294967296) (by omega) (by omega)
        have h2 : y ||| g * 4294967296 = Z := by
         rw [hZ.out, Nat.or_comm, Nat.mul_comm, show (4294967296 : Nat) = 2 ^ 32 from rfl, ← Nat.two_pow_add_eq_or_of_lt (by omega) g]; omega
        rw [h2, Int.natCast_mul] at h1
        exact h1
       have hZl : Hid (Z < BB) := by show _ < _; rw [hZ.out, BB_eq]; omega
       have hgi : (g : Int) * 4294967296 < 18446744073709551616 := by omega
       have hne : Hid (∀ k, (Value.slice (some ⟨g5, 0, none⟩) m c5).ownBlock = some k → k ≠ gw) := fun k hk e => hR.ne_types hW (by decide) hk (by rw [e]; rfl)
       clear hj2
       go_wp2
       go_region
       go_wp2
       go_roundw
       case rel =>
        have h1 := hW.store k Z
        refine ⟨j + 1, q, upd W k Z, by omega, by go_num, h1.of_eq fun _ _ => rfl, by show _ = _; have := hqk.out; have := hk.out; omega, ?_, fun i hi => ?_, fun h => by have := hk.out; omega, (hR.fr (Fr.set wr gw k _) hne.out).of_eq fun _ _ => rfl, (hfr.setCell _ _ (.inl hgw)).drew, how⟩
        ·show _ = _
         have e1 := V_upd_succ BB W 0 k Z
         rw [Nat.zero_add] at e1
         have e4 := hVW.out
         rw [hqk.out, V_succ, Nat.zero_add, ← hy.out] at e4
         rw [hqk.out, e1, V_succ, Nat.zero_add, ← hg.out, ← e4, hZ.out, hk.out, Nat.pow_succ, HB_sq, HB_eq]
         grind
        ·unfold upd; split
         ·exact hZl.out
         ·exact hWl.out i hi
       case measure => simp [intOf]; omega
     ·obtain rfl : j = m := by omega
      have j1 : decide (j < j) = false := by simp
      obtain ⟨A10, c10, rfl⟩ := hW.shape'
      have hRW := hW.rdW (by rw [LL_eq]; have := hq.out; omega) hWl.out
      have fA : Fr NoS wr (wr.alloc (.cells #[.bool false, .slice none 0 0] TI (0, 0))) := (Fr.refl NoS wr).alloc _
      have hRn : Hid (Vb BB W 0 q = n) := by show _ = _; rw [hVW.out, hVn.out]
      have hsz := hfr.size
      go_wp2_with fail
      refine (big_SetBits wr.heap.size q (.slice A10 q c10) W (wr.alloc (.cells #[.bool false, .slice none 0 0] TI (0, 0))) (Zr.made wr) (hRW.fr fA (fun _ _ x => x))).mono ?_
      rintro en w2 ⟨rfl, hR2, hf2⟩
      rw [hRn.out] at hR2
      have hF2 : Fr NoS w w2 := (hfr.trans' fA).trans hf2 (fun k hk e => by omega)
      first
      | (have hfin : Hid (RI w2 wr.heap.size z) := (by have := hR2; rwa [show (n : Int) = z by have := hn.out; omega] at this); go_wp2; go_ret2; exact ⟨_, rfl, hfin.out, hF2⟩)
      | (go_wp2_with fail; refine (z_NegSelf wr.heap.size n w2 hR2).mono ?_; rintro en w3 ⟨rfl, hR3, hf3⟩; have hfin : Hid (RI w3 wr.heap.size z) := (by have := hR3; rwa [show -(n : Int) = z by have := hn.out; omega] at this); have hF3 : Fr NoS w w3 := hF2.trans hf3 (fun k hk e => by omega); go_wp2; go_ret2; exact ⟨_, rfl, hfin.out, hF3⟩)
end Go.Proofs.YtilmldfbmmcchaaGreatDoor
namespace Go.Proofs.YtilmldfbmmcchaaGreatDoor
open Go.RowKit
theorem run_fbits (x : Nat) (w : World) : (callFunc 146 #[.float .f64 x]).run Tryz.prog w = .ok (.value (.int .u64 (x : Int))) w := by
 rw [run_callFunc_extern Tryz.func146 (by kernel_rfl) (by kernel_rfl) (by kernel_rfl) (e := Extern.MathFloatBits.float64bits) (by kernel_rfl)]
 rfl
theorem run_frombits (x : Nat) (w : World) (hx : x < 18446744073709551616) : (callFunc 115 #[.int .u64 (x : Int)]).run Tryz.prog w = .ok (.value (.float .f64 x)) w := by
 rw [run_callFunc_extern Tryz.func115 (by kernel_rfl) (by kernel_rfl) (by kernel_rfl) (e := Extern.MathFloatBits.float64frombits) (by kernel_rfl)]
 rfl
theorem run_log (w : World) : (callFunc 248 #[.float .f64 4603804719079489536]).run Tryz.prog w = .ok (.value (.float .f64 13825510489450817230)) w := by
 have h : (Extern.MathLog.archLog #[.float .f64 4603804719079489536]).run Tryz.prog w = .ok (.float .f64 13825510489450817230) w := by kernel_rfl
 rw [run_callFunc_extern Tryz.func248 (by kernel_rfl) (by kernel_rfl) (by kernel_rfl) (e := Extern.MathLog.archLog) (by kernel_rfl), h]
 rfl
set_option maxHeartbeats 1000000 in
theorem math_Abs (x : Nat) (hx : x < 9223372036854775808) (w : World) :
  Calls Tryz.prog 105 #[.float .f64 x] w fun e w' => e = .returned (.float .f64 x) ∧ w = w' := by
 have h1 := fun u => run_fbits x u
 have h2 : bits BinOp.andNot IntKind.u64 (x : Int) 9223372036854775808 = (x : Int) := by
  have := u64_andNot_nat x 9223372036854775808 (by omega) (by omega)
  rw [show 18446744073709551615 - 9223372036854775808 = 2 ^ 63 - 1 from rfl, Nat.and_two_pow_sub_one_eq_mod, Nat.mod_eq_of_lt (by simpa using hx)] at this
  exact this
 have h3 := fun u => run_frombits x u (by omega)
 go_enter Tryz.func105, Tryz.ntmps105
 go_wp2
 go_ret
 exact ⟨rfl, rfl⟩
abbrev VF (x : Nat) : Value := .float .f64 x
set_option maxHeartbeats 1000000 in
theorem math_IsNaN10 (w : World) : Calls Tryz.prog 209 #[VF 4621819117588971520] w fun e w' => e = .returned (.bool false) ∧ w = w' := by
 have h1 : (FloatKind.f64.format.order 4621819117588971520 4621819117588971520 != some .eq) = false := by kernel_rfl
 go_enter Tryz.func209, Tryz.ntmps209
 go_wp2
 go_ret
 exact ⟨rfl, rfl⟩
set_option maxHeartbeats 1000000 in
theorem math_IsInf10 (w : World) : Calls Tryz.prog 210 #[VF 4621819117588971520, .int .i64 0] w fun e w' => e = .returned (.bool false) ∧ w = w' := by
 have h1 : (FloatKind.f64.format.order 4621819117588971520 9218868437227405311 == some .gt) = false := by kernel_rfl
 have A := fun u => math_Abs 4621819117588971520 (by omega) u
 go_enter Tryz.func210, Tryz.ntmps210
 go_wp2_with (go_at_call 105; refine (A _).mono ?_; rintro e w' ⟨rfl, rfl⟩)
 go_ret
 exact ⟨rfl, rfl⟩
set_option maxHeartbeats 1000000 in
theorem math_normalize10 (w : World) : Calls Tryz.prog 279 #[VF 4621819117588971520] w fun e w' => e = .returned (.tuple #[VF 4621819117588971520, .int .i64 0]) ∧ w = w' := by
 have h1 : (FloatKind.f64.format.order 4621819117588971520 4503599627370496 == some .lt) = false := by kernel_rfl
 have A := fun u => math_Abs 4621819117588971520 (by omega) u
 go_enter Tryz.func279, Tryz.ntmps279
 go_wp2_with (go_at_call 105; refine (A _).mono ?_; rintro e w' ⟨rfl, rfl⟩)
 go_ret2
 exact ⟨rfl, rfl⟩
set_option maxRecDepth 100000 in
set_option maxHeartbeats 2000000 in
theorem math_frexp10 (w : World) : Calls Tryz.prog 251 #[VF 4621819117588971520] w fun e w' => e = .returned (.tuple #[VF 4603804719079489536, .int .i64 4]) ∧ w = w' := by
 have h1 : (FloatKind.f64.format.order 4621819117588971520 0 == some .eq) = false := by kernel_rfl
 have b0 : ∀ u, (callFunc 146 #[.float .f64 4621819117588971520]).run Tryz.prog u = .ok (.value (.int .u64 4621819117588971520)) u := fun u => run_fbits 4621819117588971520 u
 have b1 : ∀ u, (callFunc 115 #[.int .u64 4603804719079489536]).run Tryz.prog u = .ok (.value (.float .f64 4603804719079489536)) u := fun u => run_frombits 4603804719079489536 u (by omega)
 have c1 : bits BinOp.and IntKind.u64 1026 2047 = 1026 := by decide
 have c2 : bits BinOp.andNot IntKind.u64 4621819117588971520 9218868437227405312 = 1125899906842624 := by decide
 have c3 : bits BinOp.or IntKind.u64 1125899906842624 4602678819172646912 = 4603804719079489536 := by decide
 go_enter Tryz.func251, Tryz.ntmps251
 go_wp2_with (first | (go_at_call 210; refine (math_IsInf10 _).mono ?_; rintro e w' ⟨rfl, rfl⟩) | (go_at_call 209; refine (math_IsNaN10 _).mono ?_; rintro e w' ⟨rfl, rfl⟩) | (go_at_call 279; refine (math_normalize10 _).mono ?_; rintro e w' ⟨rfl, rfl⟩))
 go_ret2
 exact ⟨rfl, rfl⟩
set_option maxHeartbeats 1000000 in
theorem math_Frexp10 (w : World) : Calls Tryz.prog 208 #[VF 4621819117588971520] w fun e w' => e = .returned (.tuple #[VF 4603804719079489536, .int .i64 4]) ∧ w = w' := by
 go_enter Tryz.func208, Tryz.ntmps208
 go_wp2_with (go_at_call 251; refine (math_frexp10 _).mono ?_; rintro e w' ⟨rfl, rfl⟩)
 go_ret2
 exact ⟨rfl, rfl⟩
set_option maxHeartbeats 1000000 in
theorem math_Log5 (w : World) : Calls Tryz.prog 207 #[VF 4603804719079489536] w fun e w' => e = .returned (VF 13825510489450817230) ∧ w = w' := by
 have h := run_log
 go_enter Tryz.func207, Tryz.ntmps207
 go_wp2
 go_ret
 exact ⟨rfl, rfl⟩
set_option maxHeartbeats 1000000 in
theorem math_log2_10 (w : World) : Calls Tryz.prog 157 #[VF 4621819117588971520] w fun e w' => e = .returned (VF 4614662735865160561) ∧ w = w' := by
 have h1 : (FloatKind.f64.format.order 4603804719079489536 4602678819172646912 == some .eq) = false := by kernel_rfl
 have m1 : ∀ u, (binOp .mul 120 (.float .f64 13825510489450817230) (.float .f64 4609176140021203710)).run Tryz.prog u = .ok (.float .f64 13827654785158443579) u := fun u => run_float_arith u .mul _ .f64 _ _ _ (by kernel_rfl)
 have m2 : floatOfInt .f64 4 = 4616189618054758400 := by kernel_rfl
 have m3 : ∀ u, (binOp .add 120 (.float .f64 13827654785158443579) (.float .f64 4616189618054758400)).run Tryz.prog u = .ok (.float .f64 4614662735865160561) u := fun u => run_float_arith u .add _ .f64 _ _ _ (by kernel_rfl)
 go_enter Tryz.func157, Tryz.ntmps157
 go_wp2_with (first | (go_at_call 208; refine (math_Frexp10 _).mono ?_; rintro e w' ⟨rfl, rfl⟩) | (go_at_call 207; refine (math_Log5 _).mono ?_; rintro e w' ⟨rfl, rfl⟩))
 go_ret
 exact ⟨rfl, rfl⟩
set_option maxHeartbeats 1000000 in
theorem math_Log2_10 (w : World) : Calls Tryz.prog 120 #[VF 4621819117588971520] w fun e w' => e = .returned (VF 4614662735865160561) ∧ w = w' := by
 go_enter Tryz.func120, Tryz.ntmps120
 go_wp2_with (go_at_call 157; refine (math_log2_10 _).mono ?_; rintro e w' ⟨rfl, rfl⟩)
 go_ret
 exact ⟨rfl, rfl⟩
theorem range_table : (List.range 3001).all (fun c => decide (floatOfInt .f64 (c : Int) < 9223372036854775808) && match floatBits .add .f64 (floatOfInt .f64 (c : Int)) 4625196817309499392 with | some r => FloatKind.f64.format.order r 4742290407612743680 == some .lt | none => false) = true := by decide +kernel
set_option maxHeartbeats 1000000 in
theorem sh_powInRange (c : Nat) (hc : c ≤ 3000) (w : World) : Calls Tryz.prog 83 #[.float .f64 (floatOfInt .f64 (c : Int)), .int .i32 16] w fun e w' => e = .returned (.bool true) ∧ w = w' := by
 have T := List.all_eq_true.1 range_table c (List.mem_range.2 (by omega))
 simp only [Bool.and_eq_true, decide_eq_true_eq] at T
 obtain ⟨hx, hr⟩ := T
 obtain ⟨x, hxx⟩ : ∃ x, Hid (floatOfInt .f64 (c : Int) = x) := ⟨_, Lib.hid rfl⟩
 rw [hxx.out] at hx hr ⊢
 split at hr
 ·rename_i r hadd
  have m2 : floatOfInt .f64 16 = 4625196817309499392 := by kernel_rfl
  have m3 : ∀ u, (binOp .add 120 (.float .f64 x) (.float .f64 4625196817309499392)).run Tryz.prog u = .ok (.float .f64 r) u := fun u => run_float_arith u .add _ .f64 _ _ _ hadd
  have A1 := fun u => math_Abs x hx u
  have A2 := fun u => math_Abs 4625196817309499392 (by omega) u
  clear hadd
  go_enter Tryz.func83, Tryz.ntmps83
  go_wp2_with fail
  refine (A1 _).mono ?_
  rintro e w1 ⟨rfl, rfl⟩
  go_wp2_with fail
  refine (A2 _).mono ?_
  rintro e w1 ⟨rfl, rfl⟩
  go_wp2
  go_ret
  exact ⟨rfl, rfl⟩
 ·cases hr
def estN (L : Nat) : Nat := L * 30103 / 100000
theorem est_table : (List.range 1401).all (fun L => match floatBits .quo .f64 (floatOfInt .f64 (L : Int)) 4614662735865160561 with | some q => floatToIntVal .f64 q .i64 == some (estN L : Int) | none => false) = true := by decide +kernel
theorem est_pow : (List.range 1401).all (fun L => L < 60 || (decide (10 ^ (estN L - 1) ≤ 2 ^ (L - 1)) && decide (2 ^ L ≤ 10 ^ (estN L + 1)) && decide (0 < estN L))) = true := by decide +kernel
theorem est_small : (List.range 65).all (fun L => L == 0 || ((L * 1233 / 4096 == 0 || decide (10 ^ (L * 1233 / 4096 - 1) ≤ 2 ^ (L - 1))) && decide (2 ^ L ≤ 10 ^ (L * 1233 / 4096 + 1)) && decide (L * 1233 / 4096 ≤ 19))) = true := by decide +kernel
set_option maxRecDepth 100000 in
set_option maxHeartbeats 2000000 in
theorem sh_pow10Uint64 (n : Nat) (w : World) (hn : n ≤ 19) :
  Calls Tryz.prog 119 #[.int .i32 n] w fun e w' => e = .returned (.int .u64 ((10 ^ n : Nat) : Int)) ∧ w = w' := by
 have b0 : decide ((n : Int) < 0) = false := by simp
 have b1 : decide ((19 : Int) < (n : Int)) = false := by simp; omega
 go_enter Tryz.func119, Tryz.ntmps119
 go_wp2
 go_loop [3, 4] (fun t i => ∃ (k x : Nat), k ≤ n ∧ i = .int .i32 ((k : Int) + 1) ∧ t = .int .u64 (x : Int) ∧ Hid (x = 10 ^ k)) (fun _ i => n + 1 - (intOf i).toNat)
 case atStart => exact ⟨0, 1, Nat.zero_le _, rfl, rfl, Lib.hid rfl⟩
 case round =>
  obtain ⟨k, x, hk, rfl, rfl, hx⟩ := hrel
  by_cases hlt : k < n
  ·have bt : decide ((k : Int) + 1 ≤ (n : Int)) = true := by simp; omega
   have hx2 : x * 10 < 18446744073709551616 := by
    rw [hx.out, ← Nat.pow_succ]
    exact Nat.lt_of_le_of_lt (Nat.pow_le_pow_right (by omega) (show k + 1 ≤ 19 by omega)) (by decide)
   have e1 : IntKind.u64.wrap ((x : Int) * 10) = ((x * 10 : Nat) : Int) := by rw [IntWalk.u64_in _ (by omega)]; omega
   have e2 : IntKind.i32.wrap ((k : Int) + 1 + 1) = (k : Int) + 1 + 1 := IntWalk.i32_in _ (by omega)
   have HX := Lib.hid (show x * 10 = 10 ^ (k + 1) by rw [hx.out, Nat.pow_succ])
   clear hx
   go_wp2
   go_round
   case rel => exact ⟨k + 1, x * 10, by omega, by go_num, by first | rfl | exact int_eq (by omega), HX⟩
   case measure => simp [intOf]; omega
  ·have bt : decide ((k : Int) + 1 ≤ (n : Int)) = false := by simp; omega
   obtain rfl : k = n := by omega
   go_wp2
   go_ret
   exact ⟨ret1 (by rw [hx.out]; first | rfl | simp), rfl⟩
end Go.Proofs.YtilmldfbmmcchaaGreatDoor
