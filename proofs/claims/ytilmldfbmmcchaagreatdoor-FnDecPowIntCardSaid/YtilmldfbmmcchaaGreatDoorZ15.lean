/- Powers of natural numbers, the loop: squares and products. Powers of whole numbers. The decimal package's small functions: powers of ten, new numbers, signs. Rows of numbers that grow: a number appended. Conditions: each theorem bears its own. -/
import Derived.Outline
import Derived.Test.YtilmldfbmmcchaaGreatDoorZ14
set_option linter.unusedVariables false
set_option linter.unusedSimpArgs false
namespace Go.Proofs.YtilmldfbmmcchaaGreatDoor
open Go.RowKit
theorem exp_start {y s : Nat} (h1 : y * 2 ^ s < 18446744073709551616) (h2 : 9223372036854775808 ≤ y * 2 ^ s) (hs : s ≤ 63) :
  ∃ r V : Nat, Hid (V = r * 2 ^ (64 - (63 - s))) ∧ IntKind.u64.wrap ((y : Int) * 2 ^ (s + 1)) = (V : Int) ∧ r < 2 ^ (63 - s) ∧ Hid (y = 1 * 2 ^ (63 - s) + r) := by
 have e63 : 2 ^ s * 2 ^ (63 - s) = 9223372036854775808 := by rw [← Nat.pow_add, show s + (63 - s) = 63 by omega]
 have hp : 0 < 2 ^ s := Nat.pow_pos (by omega)
 have hle : 2 ^ (63 - s) ≤ y := by
  refine Nat.le_of_mul_le_mul_right ?_ hp
  rw [Nat.mul_comm, e63]; exact h2
 have hlt : y < 2 * 2 ^ (63 - s) := by
  refine Nat.lt_of_mul_lt_mul_right (a := 2 ^ s) ?_
  rw [Nat.mul_assoc, Nat.mul_comm (2 ^ (63 - s)), e63]
  omega
 refine ⟨y - 2 ^ (63 - s), y * 2 ^ (s + 1) % 18446744073709551616, Lib.hid ?_, ?_, by omega, Lib.hid (by omega)⟩
 ·rw [show 64 - (63 - s) = s + 1 by omega]
  have e1 : y * 2 ^ (s + 1) = (y - 2 ^ (63 - s)) * 2 ^ (s + 1) + 18446744073709551616 := by
   rw [Nat.sub_mul, show 2 ^ (63 - s) * 2 ^ (s + 1) = 18446744073709551616 by rw [← Nat.pow_add, show 63 - s + (s + 1) = 64 by omega]]
   have : 18446744073709551616 ≤ y * 2 ^ (s + 1) := by
    rw [Nat.pow_succ, ← Nat.mul_assoc]; omega
   omega
  rw [e1, Nat.add_mod_right]
  refine Nat.mod_eq_of_lt ?_
  have : y * 2 ^ (s + 1) < 2 * 18446744073709551616 := by rw [Nat.pow_succ, ← Nat.mul_assoc]; omega
  omega
 ·have e2 : ((y : Int) * 2 ^ (s + 1)) = ((y * 2 ^ (s + 1) : Nat) : Int) := by push_cast; rfl
  rw [e2, MulW.wrapM]
theorem and_pow63 (V : Nat) : V &&& 2 ^ 63 = (V.testBit 63).toNat * 2 ^ 63 := by
 apply Nat.eq_of_testBit_eq
 intro i
 rw [Nat.testBit_and, Nat.testBit_two_pow]
 by_cases h : 63 = i
 ·subst h
  cases V.testBit 63 <;> first | (simp; done) | decide
 ·cases hv : V.testBit 63
  ·simp [h]
  ·simp only [Bool.toNat_true, Nat.one_mul, Nat.testBit_two_pow, h, decide_false, Bool.and_false]
theorem exp_half {y e k r : Nat} (h : y = e * 2 ^ k + r) (hk : 1 ≤ k) : e ≤ y / 2 := by
 have h2 : 2 ≤ 2 ^ k := by
  have := Nat.pow_le_pow_right (n := 2) (by omega) hk
  rwa [Nat.pow_one] at this
 have := Nat.mul_le_mul_left e h2
 omega
theorem exp_even {y e k r : Nat} (h : y = e * 2 ^ k + r) (hk : 1 ≤ k) : y = 2 * e * 2 ^ (k - 1) + r := by
 obtain ⟨m, rfl⟩ : ∃ m, k = m + 1 := ⟨k - 1, by omega⟩
 rw [h, Nat.add_sub_cancel, Nat.pow_succ, Nat.mul_comm 2 e, Nat.mul_assoc, Nat.mul_comm 2]
theorem exp_odd {y e k r r' : Nat} (h : y = e * 2 ^ k + r) (hr : r = 2 ^ (k - 1) + r') (hk : 1 ≤ k) : y = (2 * e + 1) * 2 ^ (k - 1) + r' := by
 rw [exp_even h hk, hr, Nat.add_mul, Nat.one_mul, Nat.add_assoc]
theorem exp_bit {V r k : Nat} (hV : V = r * 2 ^ (64 - k)) (hr : r < 2 ^ k) (hk : 1 ≤ k) (hk2 : k ≤ 64) :
  ∃ V' r' : Nat, Hid (V' = r' * 2 ^ (64 - (k - 1))) ∧ r' < 2 ^ (k - 1) ∧ IntKind.u64.wrap ((V : Int) * 2) = (V' : Int) ∧
   ((r' = r ∧ bits BinOp.and IntKind.u64 (V : Int) 9223372036854775808 = 0) ∨ (r = 2 ^ (k - 1) + r' ∧ bits BinOp.and IntKind.u64 (V : Int) 9223372036854775808 = 9223372036854775808)) := by
 have ek : 2 ^ k = 2 * 2 ^ (k - 1) := by rw [← Nat.pow_succ', Nat.succ_eq_add_one, show k - 1 + 1 = k by omega]
 have e64 : 2 ^ (64 - (k - 1)) = 2 * 2 ^ (64 - k) := by rw [← Nat.pow_succ', Nat.succ_eq_add_one, show 64 - k + 1 = 64 - (k - 1) by omega]
 have em : 2 ^ (k - 1) * 2 ^ (64 - k) = 9223372036854775808 := by rw [← Nat.pow_add, show k - 1 + (64 - k) = 63 by omega]
 have hVlt : V < 18446744073709551616 := by
  rw [hV]
  have := Nat.mul_lt_mul_of_pos_right hr (Nat.pow_pos (a := 2) (n := 64 - k) (by omega))
  rwa [← Nat.pow_add, show k + (64 - k) = 64 by omega] at this
 have hand : bits BinOp.and IntKind.u64 (V : Int) 9223372036854775808 = (((V.testBit 63).toNat * 2 ^ 63 : Nat) : Int) := by
  have := u64_and_nat V (2 ^ 63) hVlt (by omega)
  rw [and_pow63] at this
  exact this
 have hw : IntKind.u64.wrap ((V : Int) * 2) = ((V * 2 % 18446744073709551616 : Nat) : Int) := by
  have e2 : ((V : Int) * 2) = ((V * 2 : Nat) : Int) := by push_cast; rfl
  rw [e2, MulW.wrapM]
 by_cases hb : r < 2 ^ (k - 1)
 ·have hlt : V < 9223372036854775808 := by
   rw [hV, ← em]
   exact Nat.mul_lt_mul_of_pos_right hb (Nat.pow_pos (by omega))
  refine ⟨V * 2, r, Lib.hid (by rw [e64, hV, Nat.mul_assoc, Nat.mul_comm _ 2]), hb, by rw [hw, Nat.mod_eq_of_lt (by omega)], .inl ⟨rfl, ?_⟩⟩
  rw [hand, Nat.testBit_lt_two_pow (by omega)]
  rfl
 ·have hge : 9223372036854775808 ≤ V := by
   rw [hV, ← em]
   exact Nat.mul_le_mul_right _ (by omega)
  refine ⟨V * 2 - 18446744073709551616, r - 2 ^ (k - 1), Lib.hid ?_, by omega, by rw [hw]; omega, .inr ⟨by omega, ?_⟩⟩
  ·rw [e64, Nat.mul_left_comm, Nat.sub_mul, em, ← hV]
   omega
  ·rw [hand]
   have : V.testBit 63 = true := by
    rw [Nat.testBit_eq_decide_div_mod_eq]
    simp
    omega
   rw [this]
   rfl
set_option maxRecDepth 100000 in
set_option maxHeartbeats 8000000 in
theorem nat_exp_many (g o n cx gy oy cy y : Nat) (X Y : Nat → Nat) (w : World) (hx : RdW w (.slice (some ⟨g, o, none⟩) n cx) n X) (tx : Top X n) (hn0 : 0 < n) (hn : n ≤ 39) (hbig : 2 ≤ Vb BB X 0 n) (wy : Words w gy oy 1 Y) (hY : Y 0 = y) (hy2 : 2 ≤ y)
  (hsm : Vb BB X 0 n ^ (y / 2) < BB ^ 11) (hbs : w.cell? ⟨3, 0, none⟩ = some (.int .i64 12)) (hks : w.cell? ⟨4, 0, none⟩ = some (.int .i64 80))
  (hkar : w.cell? ⟨5, 0, none⟩ = some (.int .i64 40)) :
  Calls Tryz.prog 139 #[.slice none 0 0, .pointer none, .slice (some ⟨g, o, none⟩) n cx, .slice (some ⟨gy, oy, none⟩) 1 cy, .slice none 0 0, .bool false] w fun e w' => ∃ v', e = .returned v' ∧ NewN w w' v' (Vb BB X 0 n ^ y) := by
 have b1 : (((1 : Nat) : Int) == 0) = false := by simp
 have b2 : (((1 : Nat) : Int) == 1) = true := by simp
 have b3 : ((n : Int) == 0) = false := by simp; omega
 have b5 : ((y : Int) == 1) = false := by simp; omega
 have hyB : y < BB := by rw [← hY]; exact wy.word 0 (by omega)
 have hc := wy.cell 0 (by omega)
 rw [Nat.add_zero, hY] at hc
 have hcq : ∀ q, (w.drewN q).cell? ⟨gy, oy, none⟩ = some (.int .u64 (y : Int)) := fun q => hc
 have hcx := hx.words.cell 0 hn0
 rw [Nat.add_zero] at hcx
 obtain ⟨x0, hx0⟩ : ∃ x0, Hid (X 0 = x0) := ⟨_, Lib.hid rfl⟩
 rw [hx0.out] at hcx
 have hcxq : ∀ q, (w.drewN q).cell? ⟨g, o, none⟩ = some (.int .u64 (x0 : Int)) := fun q => hcx
 obtain ⟨s, hs⟩ := shift_of y (by omega) hyB
 obtain ⟨bx, hbx⟩ : ∃ bx, ((n : Int) == 1 && (x0 : Int) == 1) = bx := ⟨_, rfl⟩
 have hbx0 : bx = false := by
  rw [← hbx]
  by_cases h1 : n = 1
  ·subst h1
   simp [Vb] at hbig
   rw [hx0.out] at hbig
   simp; omega
  ·have : ((n : Int) == 1) = false := by simp; omega
   rw [this]; rfl
 subst hbx0
 obtain ⟨N, hN⟩ : ∃ N, Hid (Vb BB X 0 n = N) := ⟨_, Lib.hid rfl⟩
 rw [hN.out] at hbig hsm ⊢
 have HB := Lib.hid hbx
 have hsl := hs.le
 obtain ⟨r0, V0, hr0, hV0, hr0lt, hyr0⟩ := exp_start hs.lt hs.top hsl
 have b4 : ((n : Int) == 1) = false ∨ ((n : Int) == 1) = true ∧ ((x0 : Int) == 1) = false := by
  by_cases h1 : n = 1
  ·subst h1
   exact .inr ⟨by simp, by rw [← HB.out]; simp⟩
  ·exact .inl (by simp; omega)
 clear hbx hyB
 rcases b4 with b4 | ⟨b4, b6⟩
 all_goals
  go_enter_defers Tryz.func139, Tryz.ntmps139
  go_wp2_with fail
  refine (alias_none none 0 _ w).mono ?_
  rintro e w1 ⟨q1, rfl, rfl⟩
  go_wp2_with fail
  refine (alias_none none 0 _ _).mono ?_
  rintro e w1 ⟨q2, rfl, rfl⟩
  rw [World.drewN_drewN]
  go_wp2_with fail
  refine (getStack _).mono ?_
  rintro e w2 ⟨p, rfl, hS, hp, hf⟩
  have hf2 : Fr NoS w w2 := ((Fr.refl NoS w).drewN _).trans' hf
  have HP : Hid (p = w.heap.size) := Lib.hid hp
  clear hp
  have hcy2 := (hf2.cell (World.block_lt_of_cell? w _ hc) (fun x => x)).trans hc
  go_wp2_with fail
  refine (nat_set_any _ n X w2 (hx.fr hf2 (fun _ _ x => x)) (by omega)).mono ?_
  rintro e w3 ⟨A, c, G, rfl, ho, hf3, hk, hG⟩
  have HG := Lib.hid hG
  clear hG
  have hcy3 := (hf3.cell (World.block_lt_of_cell? w2 _ hcy2) (fun x => x)).trans hcy2
  have hSq0 : Sq w w3 p (.slice A n c) (.slice none 0 0) (N ^ 1) := by
   refine ⟨hf2.trans' hf3, ⟨n, G, ho, tx.congr HG.out, by rw [V_same HG.out, hN.out, Nat.pow_one]⟩, ⟨0, fun _ => 0, .inl ⟨rfl, rfl⟩⟩, fun k h => Nat.le_trans hf2.size (hk k h), fun k h => (by cases h), fun k _ h => (by cases h), (by rw [HP.out]; exact Nat.le_refl _), ?_⟩
   have hS' : w2.heap[p]? = some (.cells #[.pointer none] TSt (0, 0)) := hS
   exact (hf3.block p (zLt hS') (fun x => x)).trans hS'
  clear ho hf3 hk hcy2 hf2 hf hS
  go_wp2_with (go_at_call 149; refine (hs.nlz _).mono ?_; rintro e w' ⟨rfl, rfl⟩)
  clear hcy3
  go_loopw [0, 15, 19, 21] (fun z v zz j wr => ∃ (k jn e r V : Nat), jn + k = 63 - s ∧ j = .int .i64 jn ∧ v = .int .u64 V ∧ Hid (V = r * 2 ^ (64 - k)) ∧ r < 2 ^ k ∧ Hid (y = e * 2 ^ k + r) ∧ 1 ≤ e ∧ Sq w wr p z zz (N ^ e))
   (fun _ _ _ j _ => 64 - (intOf j).toNat)
  case atStart => exact ⟨63 - s, 0, 1, r0, V0, by omega, rfl, rfl, hr0, hr0lt, hyr0, Nat.le_refl _, hSq0⟩
  case round =>
   obtain ⟨k, jn, e, r, V, hjk, rfl, rfl, hV, hr, hy, he, hSq⟩ := hrel
   clear hSq0
   by_cases hlt : jn < 63 - s
   ·have bt : decide ((jn : Int) < 64 - ((s : Int) + 1)) = true := by simp; omega
    obtain ⟨V', r', hV', hr', hvz, hcase⟩ := exp_bit (V := V) (r := r) (k := k) hV.out hr (by omega) (by omega)
    obtain ⟨nz, Gz, hz, htz, hvZ⟩ := hSq.zown
    obtain ⟨lzz, Fzz, hzz⟩ := hSq.zzown
    obtain ⟨Az, cz, rfl, _, _⟩ := hz.rd.shape
    obtain ⟨Azz, czz, rfl, _, _⟩ := hzz.rd.shape
    have hN1 : 1 ≤ N := by omega
    have hnz : nz ≤ 11 := by
     refine words_le htz ?_
     rw [hvZ]
     refine Nat.lt_of_le_of_lt (Nat.pow_le_pow_right hN1 ?_) hsm
     exact exp_half hy.out (by omega)
    have hnzp : 0 < nz := htz.pos.1 (by rw [hvZ]; exact Nat.pow_pos hN1)
    have hxr : RdW wr (.slice (some ⟨g, o, none⟩) n cx) n X := hx.fr hSq.fr (fun _ _ x => x)
    have hbs1 := (hSq.fr.cell (World.block_lt_of_cell? w _ hbs) (fun x => x)).trans hbs
    have hks1 := (hSq.fr.cell (World.block_lt_of_cell? w _ hks) (fun x => x)).trans hks
    have hkar1 := (hSq.fr.cell (World.block_lt_of_cell? w _ hkar) (fun x => x)).trans hkar
    have HY := Lib.hid (And.intro hV'.out hy.out)
    have hgl : g < w.heap.size := hx.lt (k := g) rfl
    clear hy hV
    have SQ := nat_sqr (.slice Azz lzz czz) (.slice Az nz cz) (.pointer (some ⟨p, 0, none⟩)) lzz nz Fzz Gz wr hzz hz.rd (by omega) (Near.of_ne (fun k hk e => hSq.ne k e hk)) hbs1 hks1 hnzp
    clear hbs1 hks1
    go_wp2_with fail
    refine SQ.mono ?_
    rintro e1 w1 ⟨v', n', G', rfl, hm, hn', ht', hv'⟩
    have hSq1 := hSq.step hm ht' (hv'.trans (by rw [hvZ, ← Nat.pow_add, ← Nat.two_mul]))
    obtain ⟨A1, c1, rfl, _, _⟩ := hm.own.rd.shape
    have HV' := Lib.hid hv'
    have HC := Lib.hid hvZ
    clear hv' hvZ SQ
    rcases hcase with ⟨rfl, hand⟩ | ⟨hre, hand⟩
    ·have HE := Lib.hid (exp_even HY.out.2 (k := k) (by omega))
     go_wp2
     go_roundw
     case rel => exact ⟨k - 1, jn + 1, 2 * e, r', V', by omega, by go_num, rfl, HY.out.1, hr', HE.out, by omega, hSq1⟩
     case measure => simp [intOf]; omega
    ·have HE := Lib.hid (exp_odd HY.out.2 hre (k := k) (by omega))
     have hxr1 : RdW w1 (.slice (some ⟨g, o, none⟩) n cx) n X := hx.fr hSq1.fr (fun _ _ x => x)
     have hkar2 := (hSq1.fr.cell (World.block_lt_of_cell? w _ hkar) (fun x => x)).trans hkar
     have hzo := hz.fr hm.fr (fun k hk e => hSq.ne k hk e)
     have MU := nat_mul (.slice Az nz cz) (.slice A1 n' c1) (.slice (some ⟨g, o, none⟩) n cx) (.pointer (some ⟨p, 0, none⟩)) nz n' n Gz G' X w1 hzo hm.own.rd hxr1 (.inl ⟨by omega, by omega⟩) (Near.of_ne (fun k hk e => hSq1.ne k e hk)) (Near.of_ne (fun k hk e => by simp only [Value.ownBlock, Option.some.injEq] at e; have := hSq.znew k hk; omega)) hkar2
     clear hkar2 hxr1
     go_wp2_with fail
     refine MU.mono ?_
     rintro e2 w4 ⟨v2, n2, G2, rfl, hm2, hn2, ht2, hv2⟩
     have hSq2 := hSq1.step hm2 ht2 (hv2.trans (by rw [HV'.out, HC.out, hN.out, ← Nat.pow_add, ← Nat.two_mul, ← Nat.pow_succ]))
     obtain ⟨A2, c2, rfl, _, _⟩ := hm2.own.rd.shape
     have HV2 := Lib.hid hv2
     clear hv2 MU
     go_wp2
     go_roundw
     case rel => exact ⟨k - 1, jn + 1, 2 * e + 1, r', V', by omega, by go_num, rfl, HY.out.1, hr', HE.out, by omega, hSq2⟩
     case measure => simp [intOf]; omega
   ·have bt : decide ((jn : Int) < 64 - ((s : Int) + 1)) = false := by simp; omega
    obtain rfl : k = 0 := by omega
    obtain ⟨nz, Gz, hz, htz, hvZ⟩ := hSq.zown
    obtain ⟨Az, cz, rfl, _, _⟩ := hz.rd.shape
    have HE := Lib.hid hvZ
    clear hvZ hV
    go_wp2
    obtain ⟨wo, rfl⟩ : ∃ wo : World, wo = wr := ⟨_, rfl⟩
    go_loop [0, 22] (fun z i => z = .slice Az nz cz ∧ i = .int .i64 (-1)) (fun _ _ => 0)
    case atStart => exact ⟨rfl, rfl⟩
    case round =>
     obtain ⟨rfl, rfl⟩ := hrel
     go_wp2_with fail
     refine (nat_norm_own _ nz Gz _ hz).mono ?_
     rintro e4 w4 ⟨v4, n4, rfl, hown4, hn4, ht4, hv4, hob4, rfl⟩
     have HV4 := Lib.hid hv4
     clear hv4
     have hE : N ^ e = N ^ y := by
      have := hy.out
      rw [Nat.pow_zero] at this hr
      rw [show e = y by omega]
     have HEE := Lib.hid hE
     clear hE
     go_wp2
     refine leaves_cons (f := 180) (args := #[.pointer (some ⟨p, 0, none⟩)]) (by simp) (by simp [go_sem]) ?_
     refine (stack_free_later p _ none _ hSq.stk).mono ?_
     rintro e5 u' wZ ⟨rfl, rfl, hfZ, hheap, _⟩
     have hfZ' : Fr NoS wo wZ := hfZ.mono (fun k _ e => by obtain ⟨_, h, _⟩ := e; cases h)
     simp only [Leaves, settle]
     refine ⟨_, results_tmp (t := 12) rfl _ _ _, v4, rfl, ⟨hSq.fr.trans' hfZ', ⟨n4, Gz, hown4.fr hfZ' (fun _ _ x => x), ht4, by rw [HV4.out, HE.out, HEE.out]⟩, fun k hk => ?_⟩⟩
     rw [hob4] at hk
     exact hSq.znew k hk
theorem nat_expNN (vx vy : Value) (n y : Nat) (X Y : Nat → Nat) (w : World) (hx : RdW w vx n X) (tx : Top X n) (hn : n ≤ 39) (hy : RdW w vy 1 Y) (hY : Y 0 = y) (hy1 : 1 ≤ y)
  (hsm : Vb BB X 0 n ^ (y / 2) < BB ^ 11) (hbs : w.cell? ⟨3, 0, none⟩ = some (.int .i64 12)) (hks : w.cell? ⟨4, 0, none⟩ = some (.int .i64 80))
  (hkar : w.cell? ⟨5, 0, none⟩ = some (.int .i64 40)) :
  Calls Tryz.prog 139 #[.slice none 0 0, .pointer none, vx, vy, .slice none 0 0, .bool false] w fun e w' => ∃ v', e = .returned v' ∧ NewN w w' v' (Vb BB X 0 n ^ y) := by
 obtain ⟨gy, oy, cy, rfl, _, _, wy⟩ := hy.words_of (by omega)
 by_cases h0 : n = 0
 ·subst h0
  obtain ⟨A, c, rfl, _, _⟩ := hx.shape
  refine (nat_exp_zero A _ c cy 1 w (by omega)).mono ?_
  rintro e w' ⟨v', rfl, h⟩
  refine ⟨v', rfl, ?_⟩
  rw [V_zero, Nat.zero_pow (by omega)]
  exact h
 ·obtain ⟨gx, ox, cx, rfl, _, _, wx⟩ := hx.words_of (by omega)
  by_cases h1 : n = 1 ∧ X 0 = 1
  ·obtain ⟨rfl, h1⟩ := h1
   refine (nat_exp_one gx ox cx 1 cy _ X w (by omega) wx h1).mono ?_
   rintro e w' ⟨v', rfl, h⟩
   refine ⟨v', rfl, ?_⟩
   rw [V_one, h1, Nat.one_pow]
   exact h
  ·by_cases h2 : y = 1
   ·subst h2
    refine (nat_exp_self gx ox n cx gy oy cy X Y w hx tx (by omega) (by omega) (fun e => fun e' => h1 ⟨e, e'⟩) wy hY).mono ?_
    rintro e w' ⟨v', rfl, h⟩
    exact ⟨v', rfl, by rw [Nat.pow_one]; exact h⟩
   ·refine nat_exp_many gx ox n cx gy oy cy y X Y w hx tx (by omega) hn ?_ wy hY (by omega) hsm hbs hks hkar
    have hp := tx.pos.2 (by omega)
    refine Nat.lt_of_le_of_ne hp fun e => h1 ?_
    have hn1 : n = 1 := by
     refine Nat.le_antisymm (words_le tx ?_) (by omega)
     rw [← e, BB_eq]; omega
    subst hn1
    rw [V_one] at e
    exact ⟨rfl, e.symm⟩
theorem sgn_pow (s : Bool) (N y : Nat) : sgn (s && decide (y % 2 = 1)) (N ^ y) = (sgn s N) ^ y := by
 cases s
 ·simp [sgn]
 ·by_cases h : y % 2 = 1
  ·have h2 : ∃ k, y = 2 * k + 1 := ⟨y / 2, by omega⟩
   obtain ⟨k, rfl⟩ := h2
   simp only [sgn, Bool.true_and, h, decide_true, if_true]
   rw [Int.pow_succ, Int.pow_mul, show (-(N : Int)) ^ 2 = (N : Int) ^ 2 by simp [Int.pow_succ, Int.neg_mul_neg], ← Int.pow_mul, Int.mul_neg, ← Int.pow_succ]
   simp
  ·have h2 : ∃ k, y = 2 * k := ⟨y / 2, by omega⟩
   obtain ⟨k, rfl⟩ := h2
   have : decide (2 * k % 2 = 1) = false := by simp
   simp only [sgn, Bool.true_and, this, if_true, if_false, Bool.false_eq_true]
   rw [Int.pow_mul, show (-(N : Int)) ^ 2 = (N : Int) ^ 2 by simp [Int.pow_succ, Int.neg_mul_neg], ← Int.pow_mul]
   simp
set_option maxRecDepth 100000 in
set_option maxHeartbeats 4000000 in
theorem z_exp (pz px py : Nat) (a : Int) (y : Nat) (w : World) (hz : Zr w pz) (hx : RI w px a) (hy : RI w py (y : Int)) (hy1 : 1 ≤ y) (hyB : y < BB) (ha : Sm a) (hsm : a.natAbs ^ (y / 2) < BB ^ 11)
  (hbs : w.cell? ⟨3, 0, none⟩ = some (.int .i64 12)) (hks : w.cell? ⟨4, 0, none⟩ = some (.int .i64 80))
  (hkar : w.cell? ⟨5, 0, none⟩ = some (.int .i64 40)) :
  Calls Tryz.prog 98 #[.pointer (some ⟨pz, 0, none⟩), .pointer (some ⟨px, 0, none⟩), .pointer (some ⟨py, 0, none⟩), .pointer none, .bool false] w fun e w' =>
   e = .returned (.pointer (some ⟨pz, 0, none⟩)) ∧ Put w w' pz (a ^ y) := by
 obtain ⟨sx, vx, n, X, hx1, rfl⟩ := hx
 obtain ⟨sy, vy, m, Y, hy1', hyv⟩ := hy
 have hn : n ≤ 39 := hx1.len ha
 rw [sgn_natAbs] at hsm
 have hsy : sy = false := by
  cases sy
  ·rfl
  ·have := hy1'.top.pos.2 (hy1'.sign rfl)
   simp [sgn] at hyv
   omega
 subst hsy
 have hyv : Vb BB Y 0 m = y := by
  have h : ((Vb BB Y 0 m : Nat) : Int) = (y : Int) := by simpa [sgn] using hyv
  omega
 have hm1 : m = 1 := by
  refine Nat.le_antisymm (words_le hy1'.top (by rw [hyv]; simpa using hyB)) ?_
  exact hy1'.top.pos.1 (by omega)
 subst hm1
 rw [V_one] at hyv
 have E := nat_expNN vx vy n y X Y w hx1.rd hx1.top hn hy1'.rd hyv hy1 hsm hbs hks hkar
 rw [← sgn_pow]
 have z0 := hz.own.rd.c0
 have z1 := hz.own.rd.c1
 have x0 := hx1.c0
 have x1 := hx1.c1
 have y0 := hy1'.c0
 have y1 := hy1'.c1
 obtain ⟨gy, oy, cy, rfl, _, _, wy⟩ := hy1'.rd.words_of (by omega)
 have yc := wy.cell 0 (by omega)
 rw [Nat.add_zero, hyv] at yc
 have hxl := hx1.lt
 have hyl := hy1'.lt
 have hzl := hz.lt
 have hgl := World.block_lt_of_cell? w _ yc
 have hgz : gy ≠ pz := fun e => hy1'.rd.ne_int hz (by rw [← e]; rfl)
 obtain ⟨Q, hQ⟩ : ∃ Q, Hid (Vb BB X 0 n ^ y = Q) := ⟨_, Lib.hid rfl⟩
 rw [hQ.out] at E ⊢
 have hQs : sx = true → 0 < Q := fun e => by rw [← hQ.out]; exact Nat.pow_pos (hx1.top.pos.2 (hx1.sign e))
 have band : bits BinOp.and IntKind.u64 (y : Int) 1 = ((y % 2 : Nat) : Int) := by
  have := u64_and_nat y 1 (by rw [← BB_eq]; exact hyB) (by omega)
  rw [Nat.and_one_is_mod] at this
  exact this
 obtain ⟨od, hod⟩ : ∃ od, decide (y % 2 = 1) = od := ⟨_, rfl⟩
 have bodd : (((y % 2 : Nat) : Int) == 1) = od := by
  rw [← hod]
  by_cases h : y % 2 = 1
  ·simp [h]
  ·have : y % 2 = 0 := by omega
   simp [this]
 have bodd2 : ((y : Int) % 2 == 1) = od := by rw [← bodd]; congr 1
 have bodd3 : (y % 2 == 1) = od := by rw [← hod]; rfl
 obtain ⟨y2, hy2⟩ : ∃ y2, y2 = y % 2 := ⟨_, rfl⟩
 rw [← hy2] at band bodd
 rw [hod]
 clear bodd2 bodd3 hy2 hod hx1 hy1' hsm hn ha wy hyB
 have b1 : decide ((0 : Int) < ((1 : Nat) : Int)) = true := by simp
 go_enter Tryz.func98, Tryz.ntmps98
 go_wp2_with fail
 refine E.mono ?_
 rintro e w1 ⟨v', rfl, hN⟩
 obtain ⟨nq, G, ho, ht, hv⟩ := hN.own
 have hf1 := hN.fr
 have hnew := hN.new
 obtain ⟨A, c, rfl, _, _⟩ := ho.rd.shape
 have hz1 : Zr w1 pz := hz.fr hf1 (fun x => x)
 have c1 := hz1.own.rd.c1
 have c0 := hz1.own.rd.c0
 have f1 := hz1.own.rd.fz 1
 have f0 := hz1.own.rd.fz 0
 have xx0 := (hf1.cell (p := ⟨px, 0, none⟩) hxl (fun x => x)).trans x0
 have yyc := (hf1.cell (p := ⟨gy, oy, none⟩) hgl (fun x => x)).trans yc
 have hb1 := int_set hz1 (.slice A nq c)
 have P1 : Put w (w1.setCell ⟨pz, 1, none⟩ (.slice A nq c)) pz (Q : Int) :=
  ⟨⟨_, hz⟩, (hf1.mono (fun _ _ x => x.elim)).trans' (Fr.set _ _ _ _), false, .slice A nq c, nq, G, ⟨hb1, ho.fr (Fr.set _ _ _ _) (fun k hk e => ho.rd.ne_int hz1 (by rw [hk, e])), ht, fun e => by cases e⟩, by rw [hv]; simp [sgn], hnew⟩
 have PS := Lib.hid (fun s hs => P1.sign s hs)
 clear P1
 obtain ⟨bn, hbn⟩ : ∃ bn, decide ((0 : Int) < (nq : Int)) = bn := ⟨_, rfl⟩
 have hbnQ : Hid (bn = decide (0 < Q)) := by
  refine Lib.hid ?_
  rw [← hbn, ← hv]
  have := ht.pos
  by_cases h : 0 < nq
  ·have h2 := this.2 h
   simp [h, h2]
  ·have h2 : ¬ 0 < Vb BB G 0 nq := fun h3 => h (this.1 h3)
   simp [h, h2]
 have hbn' : decide (0 < nq) = bn := by rw [← hbn]; simp
 have fin : ∀ s : Bool, s = (bn && sx && od) → Put w ((w1.setCell ⟨pz, 1, none⟩ (.slice A nq c)).setCell ⟨pz, 0, none⟩ (.bool s)) pz (sgn (sx && od) Q) := by
  intro s hs
  have h1 := PS.out s (fun e => by
   subst hs
   have : 0 < Q := hQs (by cases sx <;> simp at e ⊢)
   omega)
  have h2 : sgn s (Q : Int).natAbs = sgn (sx && od) Q := by
   rw [hs, hbnQ.out]
   rcases Nat.eq_zero_or_pos Q with h | h
   ·subst h; simp [sgn]
   ·simp [h]
  rw [h2] at h1
  exact h1
 have FIN := Lib.hid fin
 have d0 : (w1.setCell ⟨pz, 1, none⟩ (.slice A nq c)).cell? ⟨pz, 0, none⟩ = some (.bool false) := by simp [World.cell?, hb1]
 have d1 : (w1.setCell ⟨pz, 1, none⟩ (.slice A nq c)).cell? ⟨pz, 1, none⟩ = some (.slice A nq c) := by simp [World.cell?, hb1]
 have e0 : (w1.setCell ⟨pz, 1, none⟩ (.slice A nq c)).frozen? ⟨pz, 0, none⟩ = false := by simp [World.frozen?, hb1]
 have dx : (w1.setCell ⟨pz, 1, none⟩ (.slice A nq c)).cell? ⟨px, 0, none⟩ = some (.bool sx) := by
  rw [World.cell?_setCell_other _ _ _ _ (by intro e; injection e with _ e _; omega)]; exact xx0
 have dy : (w1.setCell ⟨pz, 1, none⟩ (.slice A nq c)).cell? ⟨gy, oy, none⟩ = some (.int .u64 (y : Int)) := by
  rw [World.cell?_setCell_other _ _ _ _ (fun e => hgz (congrArg Addr.block e).symm)]; exact yyc
 clear fin PS hbnQ hQs hb1 ho ht hv hnew hN hz hz1 E z0 z1 x0 x1 y0 y1
 cases bn <;> cases sx <;> cases od
 all_goals
  go_wp2
  go_ret
  exact ⟨rfl, FIN.out _ rfl⟩
set_option maxHeartbeats 1000000 in
theorem z_Exp (pz px py : Nat) (a : Int) (y : Nat) (w : World) (hz : Zr w pz) (hx : RI w px a) (hy : RI w py (y : Int)) (hy1 : 1 ≤ y) (hyB : y < BB) (ha : Sm a) (hsm : a.natAbs ^ (y / 2) < BB ^ 11)
  (hbs : w.cell? ⟨3, 0, none⟩ = some (.int .i64 12)) (hks : w.cell? ⟨4, 0, none⟩ = some (.int .i64 80))
  (hkar : w.cell? ⟨5, 0, none⟩ = some (.int .i64 40)) :
  Calls Tryz.prog 77 #[.pointer (some ⟨pz, 0, none⟩), .pointer (some ⟨px, 0, none⟩), .pointer (some ⟨py, 0, none⟩), .pointer none] w fun e w' =>
   e = .returned (.pointer (some ⟨pz, 0, none⟩)) ∧ Put w w' pz (a ^ y) := by
 have E := z_exp pz px py a y w hz hx hy hy1 hyB ha hsm hbs hks hkar
 clear hz hx hy ha hsm hbs hks hkar hyB hy1
 go_enter Tryz.func77, Tryz.ntmps77
 go_wp2_with fail
 refine E.mono ?_
 rintro e w1 ⟨rfl, hP⟩
 clear E
 go_wp2
 go_ret
 exact ⟨rfl, hP⟩
theorem pw_le_shop1 (a b c : Nat) (h1 : 0 < a) (h2 : b ≤ c) : a ^ b ≤ a ^ c := Nat.pow_le_pow_right h1 h2
structure Glob (w : World) : Prop where
 kar : w.cell? ⟨5, 0, none⟩ = some (.int .i64 40)
 bs : w.cell? ⟨3, 0, none⟩ = some (.int .i64 12)
 ks : w.cell? ⟨4, 0, none⟩ = some (.int .i64 80)
 dt : w.cell? ⟨8, 0, none⟩ = some (.int .i64 40)
 prec : w.cell? ⟨0, 0, none⟩ = some (.int .i64 16)
theorem Glob.fr {w w' : World} (h : Glob w) (f : Fr NoS w w') : Glob w' :=
 ⟨(f.cell (World.block_lt_of_cell? w _ h.kar) (fun x => x)).trans h.kar, (f.cell (World.block_lt_of_cell? w _ h.bs) (fun x => x)).trans h.bs, (f.cell (World.block_lt_of_cell? w _ h.ks) (fun x => x)).trans h.ks, (f.cell (World.block_lt_of_cell? w _ h.dt) (fun x => x)).trans h.dt, (f.cell (World.block_lt_of_cell? w _ h.prec) (fun x => x)).trans h.prec⟩
abbrev DV (p : Nat) (e : Int) : Value := .agg #[.pointer (some ⟨p, 0, none⟩), .int .i32 e]
theorem sm_of_le {z : Int} {k : Nat} (h : z.natAbs ≤ 10 ^ k) (hk : k ≤ 700) : Sm z := by
 have h1 : (10 : Nat) ^ k ≤ 10 ^ 700 := pw_le_shop1 10 k 700 (by decide) hk
 have h2 : (10 : Nat) ^ 700 < BB ^ 39 := by rw [BB_eq]; decide +kernel
 unfold Sm
 omega
theorem sm_pow10 (k : Nat) (hk : k ≤ 700) : Sm ((10 : Int) ^ k) := sm_of_le (k := k) (by rw [Int.natAbs_pow]; exact Nat.le_refl _) hk
theorem sm_ten : Sm 10 := by have := sm_pow10 1 (by omega); rwa [Int.pow_one] at this
theorem sm_one : Sm 1 := sm_of_le (k := 0) (by decide) (by omega)
set_option maxHeartbeats 1000000 in
theorem sh_getValue (p : Nat) (e : Int) (w : World) (z : Int) (h : RI w p z) :
  Calls Tryz.prog 59 #[DV p e] w fun e w' => e = .returned (.pointer (some ⟨p, 0, none⟩)) ∧ Fr NoS w w' := by
 go_enter Tryz.func59, Tryz.ntmps59
 go_wp2
 go_ret
 exact ⟨rfl, (Fr.refl NoS w).alloc _⟩
set_option maxHeartbeats 1000000 in
theorem sh_oneInt (w : World) : Calls Tryz.prog 70 #[] w fun e w' => ∃ p, e = .returned (.pointer (some ⟨p, 0, none⟩)) ∧ NewZ w w' p 1 := by
 have N := big_NewInt 1 w (by omega) (by omega)
 go_enter Tryz.func70, Tryz.ntmps70
 go_wp2_with fail
 refine N.mono ?_
 rintro e w1 ⟨p, rfl, hN⟩
 clear N
 go_wp2
 go_ret
 exact ⟨p, rfl, hN⟩
set_option maxHeartbeats 1000000 in
theorem sh_tenInt (w : World) : Calls Tryz.prog 142 #[] w fun e w' => ∃ p, e = .returned (.pointer (some ⟨p, 0, none⟩)) ∧ NewZ w w' p 10 := by
 have N := big_NewInt 10 w (by omega) (by omega)
 go_enter Tryz.func142, Tryz.ntmps142
 go_wp2_with fail
 refine N.mono ?_
 rintro e w1 ⟨p, rfl, hN⟩
 clear N
 go_wp2
 go_ret
 exact ⟨p, rfl, hN⟩
set_option maxRecDepth 100000 in
set_option maxHeartbeats 4000000 in
theorem sh_pow10Table (n : Nat) (w : World) (hn : n ≤ 127) (hG : Glob w) :
  Calls Tryz.prog 141 #[.int .i64 n] w fun e w' => ∃ p, e = .returned (.pointer (some ⟨p, 0, none⟩)) ∧ NewZ w w' p (10 ^ n) := by
 have b0 : decide ((n : Int) < 0) = false := by simp
 have N := big_NewInt 1 w (by omega) (by omega)
 go_enter Tryz.func141, Tryz.ntmps141
 go_wp2_with fail
 refine N.mono ?_
 rintro e w1 ⟨p, rfl, hN⟩
 clear N
 go_wp2
 go_loopw [3, 4] (fun t i wr => ∃ (k q : Nat), k ≤ n ∧ i = .int .i64 ((k : Int) + 1) ∧ t = .pointer (some ⟨q, 0, none⟩) ∧ NewZ w wr q (10 ^ k))
  (fun _ i _ => n + 1 - (intOf i).toNat)
 case atStart => exact ⟨0, p, Nat.zero_le _, rfl, rfl, by rw [Int.pow_zero]; exact hN⟩
 case round =>
  obtain ⟨k, q, hk, rfl, rfl, hq⟩ := hrel
  clear hN
  by_cases hlt : k < n
  ·have bt : decide ((k : Int) + 1 ≤ (n : Int)) = true := by simp; omega
   have hA : Fr NoS wr (wr.alloc (.cells #[.bool false, .slice none 0 0] TI (0, 0))) := (Fr.refl NoS wr).alloc _
   have hz := Zr.made wr
   have T := sh_tenInt (wr.alloc (.cells #[.bool false, .slice none 0 0] TI (0, 0)))
   have hql := hq.rd.lt
   have HQ := Lib.hid hq
   clear hq
   go_wp2_with fail
   refine T.mono ?_
   rintro e w2 ⟨pt, rfl, hT⟩
   clear T
   have hz2 := hz.fr hT.fr (fun x => x)
   have hq2 := (HQ.out.rd.fr hA).fr hT.fr
   have hw2 := (HQ.out.fr.trans' hA).trans' hT.fr
   have hpt := hT.old
   have M := z_Mul wr.heap.size q pt (10 ^ k) 10 w2 hz2 hq2 hT.rd (by simp at hpt; omega) (sm_pow10 k (by omega)) sm_ten (hG.fr hw2).kar
   clear hz hz2 hq2 hT
   go_wp2_with fail
   refine M.mono ?_
   rintro e w3 ⟨rfl, hP⟩
   clear M
   have hnew : NewZ w w3 wr.heap.size (10 ^ (k + 1)) := by
    rw [Int.pow_succ]
    exact hP.new hw2 HQ.out.fr.size
   have HN := Lib.hid hnew
   clear hnew hP hpt hw2
   go_wp2
   go_roundw
   case rel => exact ⟨k + 1, _, by omega, by go_num, rfl, HN.out⟩
   case measure => simp [intOf]; omega
  ·have bt : decide ((k : Int) + 1 ≤ (n : Int)) = false := by simp; omega
   obtain rfl : k = n := by omega
   have HQ := Lib.hid hq
   clear hq
   go_wp2
   go_ret
   exact ⟨q, rfl, HQ.out⟩
set_option maxRecDepth 100000 in
set_option maxHeartbeats 4000000 in
theorem sh_pow10 (n : Nat) (w : World) (hn : n ≤ 420) (hG : Glob w) :
  Calls Tryz.prog 100 #[.int .i64 n] w fun e w' => ∃ p, e = .returned (.pointer (some ⟨p, 0, none⟩)) ∧ NewZ w w' p (10 ^ n) := by
 by_cases h : n < 128
 ·have b0 : decide ((n : Int) < 128) = true := by simp; omega
  have T := sh_pow10Table n w (by omega) hG
  go_enter Tryz.func100, Tryz.ntmps100
  go_wp2_with fail
  refine T.mono ?_
  rintro e w1 ⟨p, rfl, hN⟩
  clear T
  go_wp2
  go_ret
  exact ⟨p, rfl, hN⟩
 ·have b0 : decide ((n : Int) < 128) = false := by simp; omega
  have hA : Fr NoS w (w.alloc (.cells #[.bool false, .slice none 0 0] TI (0, 0))) := (Fr.refl NoS w).alloc _
  have hz := Zr.made w
  have T := sh_tenInt (w.alloc (.cells #[.bool false, .slice none 0 0] TI (0, 0)))
  go_enter Tryz.func100, Tryz.ntmps100
  go_wp2_with fail
  refine T.mono ?_
  rintro e w1 ⟨pt, rfl, hT⟩
  clear T
  go_wp2_with fail
  refine (big_NewInt n w1 (by omega) (by omega)).mono ?_
  rintro e w2 ⟨pn, rfl, hNn⟩
  have hz2 := (hz.fr hT.fr (fun x => x)).fr hNn.fr (fun x => x)
  have hw2 := (hA.trans' hT.fr).trans' hNn.fr
  have E := z_Exp w.heap.size pt pn 10 n w2 hz2 (hT.rd.fr hNn.fr) hNn.rd (by omega) (by rw [BB_eq]; omega) sm_ten (by
   have h1 : (10 : Nat) ^ (n / 2) ≤ 10 ^ 210 := Nat.pow_le_pow_right (by omega) (by omega)
   have h2 : (10 : Nat) ^ 210 < BB ^ 11 := by rw [BB_eq]; decide +kernel
   exact Nat.lt_of_le_of_lt h1 h2) (hG.fr hw2).bs (hG.fr hw2).ks (hG.fr hw2).kar
  have HA := Lib.hid hw2
  clear hz hz2 hT hNn hw2 hA
  go_wp2_with fail
  refine E.mono ?_
  rintro e w3 ⟨rfl, hP⟩
  clear E
  go_wp2
  go_ret
  exact ⟨_, rfl, hP.new HA.out (Nat.le_refl _)⟩
def Row (K : IntKind) (T : TypeId) (w : World) (v : Value) (n : Nat) (F : Nat → Nat) : Prop :=
 (v = .slice none 0 0 ∧ n = 0) ∨ ∃ (g c : Nat) (cs : Array Value), v = .slice (some ⟨g, 0, none⟩) n c ∧ n ≤ c ∧ c ≤ maxLen ∧ w.heap[g]? = some (.cells cs T (0, 0)) ∧ cs.size = c ∧ ∀ j, j < n → cs[j]? = some (.int K (F j : Nat))
section
variable {K : IntKind} {T : TypeId} {w w' : World} {v : Value} {n : Nat} {F : Nat → Nat}
theorem Row.nil (K : IntKind) (T : TypeId) (w : World) (F : Nat → Nat) : Row K T w (.slice none 0 0) 0 F := .inl ⟨rfl, rfl⟩
theorem Row.lt (h : Row K T w v n F) {k : Nat} (hk : v.ownBlock = some k) : k < w.heap.size := by
 rcases h with ⟨rfl, _⟩ | ⟨g, c, cs, rfl, _, _, hc, _⟩
 ·simp [Value.ownBlock] at hk
 ·simp [Value.ownBlock] at hk; subst hk; exact (zLt hc)
theorem Row.of_eq (h : Row K T w v n F) (e : ∀ k, v.ownBlock = some k → w'.heap[k]? = w.heap[k]?) : Row K T w' v n F := by
 rcases h with h | ⟨g, c, cs, rfl, h1, h2, hc, r⟩
 ·exact .inl h
 ·exact .inr ⟨g, c, cs, rfl, h1, h2, (e g rfl).trans hc, r⟩
theorem Row.fr {S : Nat → Prop} (h : Row K T w v n F) (f : Fr S w w') (hn : ∀ k, v.ownBlock = some k → ¬ S k) : Row K T w' v n F := h.of_eq fun k hk => f.block k (h.lt hk) (hn k hk)
theorem Row.cell {g o c j : Nat} (h : Row K T w (.slice (some ⟨g, o, none⟩) n c) n F) (hj : j < n) : w.cell? ⟨g, o + j, none⟩ = some (.int K (F j : Nat)) := by
 rcases h with ⟨e, _⟩ | ⟨g', c', cs, e, _, _, hc, _, hr⟩
 ·cases e
 ·simp only [Value.slice.injEq, Option.some.injEq, Addr.mk.injEq] at e
  obtain ⟨⟨rfl, rfl, _⟩, _, rfl⟩ := e
  rw [Nat.zero_add]
  simp [World.cell?, hc, hr j hj]
theorem Row.free {g o c : Nat} (h : Row K T w (.slice (some ⟨g, o, none⟩) n c) n F) (j : Nat) : w.frozen? ⟨g, j, none⟩ = false := by
 rcases h with ⟨e, _⟩ | ⟨g', c', cs, e, _, _, hc, _, hr⟩
 ·cases e
 ·simp only [Value.slice.injEq, Option.some.injEq, Addr.mk.injEq] at e
  obtain ⟨⟨rfl, rfl, _⟩, _, rfl⟩ := e
  simp [World.frozen?, hc]
theorem Row.congr {G : Nat → Nat} (h : Row K T w v n F) (e : ∀ j, j < n → F j = G j) : Row K T w v n G := by
 rcases h with h | ⟨g, c, cs, rfl, h1, h2, hc, hs, r⟩
 ·exact .inl h
 ·exact .inr ⟨g, c, cs, rfl, h1, h2, hc, hs, fun j hj => by rw [← e j hj]; exact r j hj⟩
theorem Row.owns (h : Row K T w v n F) : w.ownsRow 0 T 1 v n ((List.range n).map fun j => .int K (F j : Nat)) := by
 refine ⟨by simp, ?_⟩
 rcases h with h | ⟨g, c, cs, rfl, h1, h2, hc, hs, r⟩
 ·exact .inl h
 ·refine .inr ⟨g, c, cs, rfl, Nat.zero_le _, hc, h1, h2, by omega, ?_⟩
  apply List.ext_getElem?
  intro j
  rw [Nat.mul_one, List.getElem?_take]
  by_cases hj : j < n
  ·rw [if_pos hj]
   simp only [List.getElem?_map, List.getElem?_range hj, Option.map_some]
   rw [Array.getElem?_toList]; exact r j hj
  ·rw [if_neg hj, List.getElem?_eq_none (by simp; omega)]
theorem Row.of_owns {xs : List Value} (h : w.ownsRow 0 T 1 v n xs) (hx : ∀ j, j < n → xs[j]? = some (.int K (F j : Nat))) : Row K T w v n F := by
 obtain ⟨hl, h | ⟨g, c, cs, rfl, _, hc, h1, h2, hs, ht⟩⟩ := h
 ·exact .inl h
 ·refine .inr ⟨g, c, cs, rfl, h1, h2, hc, by omega, fun j hj => ?_⟩
  have := hx j hj
  rw [← ht, Nat.mul_one, List.getElem?_take, if_pos hj, Array.getElem?_toList] at this
  exact this
theorem Fr.of_grown {row : Option Nat} (h : w.grownBy w' row) : Fr (fun k => row = some k) w w' := ⟨h.os, h.tape, h.output, h.size, fun k hk hn => h.block k hk (fun e => hn e.symm)⟩
end
end Go.Proofs.YtilmldfbmmcchaaGreatDoor
