/- Natural numbers of nine digits a limb: short division, a guess, differences. What the functions compute, and that they compute it. Conditions: each theorem bears its own. -/
import Derived.Test.YtilmldfbmmcchaaGreatDoorZ2
set_option linter.unusedVariables false
set_option linter.unusedSimpArgs false
namespace Go.Proofs.YtilmldfbmmcchaaGreatDoor.PFnDecPowInt
open Go.RowKit Go.Proofs.YtilmldfbmmcchaaGreatDoorW.PrintWords Go.Proofs.YtilmldfbmmcchaaGreatDoorW.PrintLast Go.Proofs.YtilmldfbmmcchaaGreatDoorW.PrintMore
def spec_natShort.l0 : Nat → List Int → Int → List Int → Int → Int → Option (List Int × Int)
 | 0, _, _, _, _, _ => none
 | k + 1, x0, x1, x6, x7, x8 => if x8 ≥ 0 then (if 0 ≤ x8 then (if x8 < (x0.length : Int) then (if (IntKind.u64.wrap (x1)) = 0 then (none) else (if x8 < (x6.length : Int) then (spec_natShort.l0 k x0 x1 (x6.set (x8 : Int).toNat ((IntKind.u64.wrap (Int.tdiv (IntKind.u64.wrap ((IntKind.u64.wrap (x7 * 1000000000)) + (IntKind.u64.wrap (rd x0 x8)))) (IntKind.u64.wrap (x1)))) % 4294967296)) (Int.tmod (IntKind.u64.wrap ((IntKind.u64.wrap (x7 * 1000000000)) + (IntKind.u64.wrap (rd x0 x8)))) (IntKind.u64.wrap (x1))) (wrap64 (x8 - 1))) else (none))) else (none)) else (none)) else ((spec_natTrim.f k x6).bind fun t314 => (some (t314, (x7) % 4294967296)))
def spec_natShort.f (k : Nat) (l0 : List Int) (a1 : Int) : Option (List Int × Int) := if 0 ≤ (l0.length : Int) then (if ((l0.length : Int) : Int).toNat ≤ 70368744177664 then (spec_natShort.l0 k l0 a1 (List.replicate ((l0.length : Int) : Int).toNat 0) 0 (wrap64 ((l0.length : Int) - 1))) else (none)) else (none)
set_option maxHeartbeats 8000000 in
set_option maxRecDepth 100000 in
theorem spec_natShort.calls (k : Nat) (A0 : Option Addr) (c0 : Nat) (l0 : List Int) (a1 : Int) (r1 : List Int) (r2 : Int) (w : World) (hr0 : Kd.C (Kd.int .u32) w A0 l0.length l0) (hc0 : l0.length ≤ c0) (h : spec_natShort.f k l0 a1 = some (r1, r2)) :
  Calls Tryz.prog 62 #[.slice A0 l0.length c0, .int .u32 a1] w fun e w' => ∃ v0_ : Value, e = .returned (.tuple #[v0_, .int .u32 r2]) ∧ Kd.V (Kd.int .u32) 87 w' w.heap.size (fun k_ => (w.heap.size ≤ k_)) v0_ r1 ∧ Below w.heap.size w w' := by
 have HR0 := Aside0.mk hr0
 have HC0 := Aside0.mk hc0
 clear hr0 hc0
 have HB := Aside0.mk (Below.refl w.heap.size w)
 have H : (if 0 ≤ (l0.length : Int) then (if ((l0.length : Int) : Int).toNat ≤ 70368744177664 then (spec_natShort.l0 k l0 a1 (List.replicate ((l0.length : Int) : Int).toNat 0) 0 (wrap64 ((l0.length : Int) - 1))) else (none)) else (none)) = some (r1, r2) := h
 clear h
 by_cases c3 : 0 ≤ (l0.length : Int)
 ·rw [if_pos c3] at H
  have c3b0 := eq_true c3
  have c3b1 : decide (0 ≤ (l0.length : Int)) = true := decide_eq_true c3
  clear c3
  by_cases c4 : ((l0.length : Int) : Int).toNat ≤ 70368744177664
  ·rw [if_pos c4] at H
   have c4b0 := eq_true c4
   have c4b1 : decide (((l0.length : Int) : Int).toNat ≤ 70368744177664) = true := decide_eq_true c4
   clear c4
   obtain ⟨y309, hy309⟩ : ∃ y_ : List Int, y_ = (List.replicate ((l0.length : Int) : Int).toNat 0) := ⟨_, rfl⟩
   replace H : (spec_natShort.l0 k l0 a1 y309 0 (wrap64 ((l0.length : Int) - 1))) = some (r1, r2) := by first | (rw [hy309]; with_reducible exact H) | (have H2_ := (Option.bind_some _ _).symm.trans H; rw [hy309]; with_reducible exact H2_) | (have H2_ := (Option.bind_some _ _).symm.trans H; with_reducible exact H2_) | with_reducible exact H | (rw [hy309]; exact H) | exact H
   have Ny309 := Aside0.mk hy309
   clear hy309
   have H' := Aside0.mk H
   clear H
   go_enter Tryz.func62, Tryz.ntmps62
   go_wp2_with (first | ((with_reducible refine gate_dst (N := 11) rfl ?_); refine Kd.R_make (Kd.int .u32) _ 87 rfl (N := 11) rfl 26 _ _ rfl (l0.length : Int) rfl rfl Tryz.underlying26 (.int .u32 0) 4 info87 rfl (by decide) (by omega) 0 (ok := fun _ => True) (okp := fun _ => True) rfl (fun _ hk => hk) trivial (of_decide_eq_true (by first | (with_reducible assumption) | assumption)) (Nat.le_trans (Nat.mul_le_mul_right _ (of_decide_eq_true (by first | (with_reducible assumption) | assumption) : (l0.length : Int).toNat ≤ 70368744177664)) (by omega)) (Below.refl _ _) (Nat.le_refl _) ?_; intro v310 w5 ho6 hb hg_ hnew_; clear hg_ hnew_; (first | rw [← Ny309.out] at ho6 | (simp only [Int.reduceToNat] at ho6; rw [← Ny309.out] at ho6)); have n0_ := Aside0.mk (Kd.R_lower (Kd.R_newM (M := fun k_ => (w.heap.size ≤ k_)) ho6 (below_size (by repeat (first | (with_reducible first | exact HB.out | apply below_alloc | apply pw_below_drewN | apply below_drew1) | exact HB.out))) (fun k_ h_ => h_)) (below_size (by repeat (first | (with_reducible first | exact HB.out | apply below_alloc | apply pw_below_drewN | apply below_drew1) | exact HB.out)))); have n1_ := Aside0.mk (below_step (by repeat (first | (with_reducible first | exact HB.out | apply below_alloc | apply pw_below_drewN | apply below_drew1) | exact HB.out)) hb); clear HB; have HO311 := n0_; have HB := n1_; clear n0_ n1_; clear hb ho6))
   go_loopg [7, 8] k (fun kq v7 v8 w' => ∃ (x6_1 : List Int) (x7_1 : Int) (x8_1 : Int), v7 = .int .u64 x7_1 ∧ v8 = .int .i64 x8_1 ∧ Aside0 (spec_natShort.l0 kq l0 a1 x6_1 x7_1 x8_1 = some (r1, r2)) ∧ Aside0 (kq ≤ k) ∧ Aside0 (Kd.R (Kd.int .u32) 87 w' w.heap.size (fun k_ => (w.heap.size ≤ k_)) v310 x6_1) ∧ Aside0 (Below w.heap.size w w'))
   case atStart => exact ⟨(y309), (0), (wrap64 ((l0.length : Int) - 1)), (by first | rfl | (simp; done) | (simp [*]; done)), (by first | rfl | (simp; done) | (simp [*]; done)), H', ⟨Nat.le_refl _⟩, ⟨by (with_reducible repeat (first | apply Kd.R_alloc | apply Kd.R_drewN | apply Kd.R_drew)); exact Kd.R_mono HO311.out (fun _ hk => hk.1)⟩, ⟨by repeat (first | (with_reducible first | exact HB.out | apply below_alloc | apply pw_below_drewN | apply below_drew1) | exact HB.out)⟩⟩
   case round =>
    clear H'
    try clear p2
    try clear c3
    try clear c3b0
    try clear c3b1
    try clear c4
    try clear c4b0
    try clear c4b1
    try clear c6
    try clear p6
    obtain ⟨x6_1, x7_1, x8_1, rfl, rfl, HA, HK1, HO_6, HB⟩ := hrel
    cases gk with
    | zero => exact absurd HA.out (by simp [spec_natShort.l0])
    | succ k1 =>
     have H := HA.out
     clear HA
     simp only [spec_natShort.l0] at H
     by_cases c7 : x8_1 ≥ 0
     ·rw [if_pos c7] at H
      have c7b0 : decide (0 ≤ x8_1) = true := decide_eq_true c7
      clear c7
      by_cases c8 : 0 ≤ x8_1
      ·rw [if_pos c8] at H
       have c8b0 : decide (0 ≤ x8_1) = true := decide_eq_true c8
       clear c8
       by_cases c9 : x8_1 < (l0.length : Int)
       ·rw [if_pos c9] at H
        have c9b0 : decide (x8_1 < (l0.length : Int)) = true := decide_eq_true c9
        clear c9
        by_cases c10 : (IntKind.u64.wrap (a1)) = 0
        ·rw [if_pos c10] at H
         exact absurd H (by simp)
        ·rw [if_neg c10] at H
         have c10b0 : ((IntKind.u64.wrap (a1)) == 0) = false := beq_eq_false_iff_ne.mpr c10
         have c10b1 : ((IntKind.u64.wrap (a1)) != 0) = true := bne_iff_ne.mpr c10
         by_cases c11 : x8_1 < (x6_1.length : Int)
         ·rw [if_pos c11] at H
          have c11b0 : decide (x8_1 < (x6_1.length : Int)) = true := decide_eq_true c11
          clear c11
          obtain ⟨y313, hy313⟩ : ∃ y_ : List Int, y_ = (x6_1.set (x8_1 : Int).toNat ((IntKind.u64.wrap (Int.tdiv (IntKind.u64.wrap ((IntKind.u64.wrap (x7_1 * 1000000000)) + (IntKind.u64.wrap (rd l0 x8_1)))) (IntKind.u64.wrap (a1)))) % 4294967296)) := ⟨_, rfl⟩
          replace H : (spec_natShort.l0 k1 l0 a1 y313 (Int.tmod (IntKind.u64.wrap ((IntKind.u64.wrap (x7_1 * 1000000000)) + (IntKind.u64.wrap (rd l0 x8_1)))) (IntKind.u64.wrap (a1))) (wrap64 (x8_1 - 1))) = some (r1, r2) := by first | (rw [hy313]; with_reducible exact H) | (have H2_ := (Option.bind_some _ _).symm.trans H; rw [hy313]; with_reducible exact H2_) | (have H2_ := (Option.bind_some _ _).symm.trans H; with_reducible exact H2_) | with_reducible exact H | (rw [hy313]; exact H) | exact H
          have Ny313 := Aside0.mk hy313
          clear hy313
          have H' := Aside0.mk H
          clear H
          have p312 : 0 ≤ (x8_1 : Int) := of_decide_eq_true (by first | (with_reducible assumption) | assumption)
          have q312 : x8_1 < (l0.length : Int) := of_decide_eq_true (by first | (with_reducible assumption) | assumption)
          obtain ⟨ad312, e312, hx312_0⟩ := Kd.at_int HR0.out x8_1 p312 q312
          cases e312
          replace hx312_0 := (HB.out.cell (World.block_lt_of_cell? w _ hx312_0)).trans hx312_0
          replace p312 := eq_true p312
          replace q312 := eq_true q312
          have p12 : 0 ≤ (x8_1 : Int) := of_decide_eq_true (by first | (with_reducible assumption) | assumption)
          have q12 : (x8_1 : Int) < ((x6_1.length : Int) : Int) := of_decide_eq_true (by first | (with_reducible assumption) | assumption)
          obtain ⟨go12, co12, eo12, gb12, gl12, cl12, HG12⟩ := Kd.R_form HO_6.out (by omega)
          (first | cases eo12 | (injection eo12 with ea_ en_ ec_; (first | subst ea_ | (injection ea_ with ea_; subst ea_)); subst ec_; clear en_))
          have GB12 := Aside0.mk gb12
          have GG12 := Aside0.mk HG12
          clear gb12 gl12 HG12
          obtain ⟨hx12_0, hf12_0⟩ := Kd.R_celln 0 HO_6.out (x8_1 : Int) p12 q12
          replace p12 := eq_true p12
          replace q12 := eq_true q12
          have HP13 := Kd.R_putg HO_6.out (x8_1 : Int) ((IntKind.u64.wrap (Int.tdiv (IntKind.u64.wrap ((IntKind.u64.wrap (x7_1 * 1000000000)) + (IntKind.u64.wrap (rd l0 x8_1)))) (IntKind.u64.wrap (a1)))) % 4294967296)
          go_wp2_with (first | ((with_reducible refine gate_store (t := 87) (p := 34) rfl ?_); refine store_event (t := 87) (p := 34) (v := ?vo_w14) (w1 := (wr.setCell ⟨go12, (x8_1 : Int).toNat, none⟩ (.int .u32 ((IntKind.u64.wrap (Int.tdiv (IntKind.u64.wrap ((IntKind.u64.wrap (x7_1 * 1000000000)) + (IntKind.u64.wrap (rd l0 x8_1)))) (IntKind.u64.wrap (a1)))) % 4294967296)))) ?hg ?ho ?hn ?hr ?_; (case ho => rfl); (case hg => rfl); (case hn => rfl); (case hr => first | (go_simp; done) | (go_simp; rfl)); intro w14 hw; have hg : wr.grownBy w14 (some go12) := (by rw [hw]; exact HP13.2); have hp_ : Kd.R (Kd.int .u32) 87 w14 w.heap.size (fun k_ => (w.heap.size ≤ k_)) (.slice (some ⟨go12, 0, none⟩) x6_1.length co12) y313 := (by rw [hw, Ny313.out]; exact HP13.1); clear HP13; have n0_ := Aside0.mk (hp_); have n1_ := Aside0.mk ((by rw [hw]; exact below_set (HB.out) GB12.out : Below w.heap.size w w14)); clear HO_6; clear HB; have HO_6 := n0_; have HB := n1_; clear n0_ n1_; clear hg hw hp_))
          go_roundg k1
          case measure => have := HK1.out; omega
          case rel => exact ⟨(y313), (Int.tmod (IntKind.u64.wrap ((IntKind.u64.wrap (x7_1 * 1000000000)) + (IntKind.u64.wrap (rd l0 x8_1)))) (IntKind.u64.wrap (a1))), (wrap64 (x8_1 - 1)), (by first | rfl | (simp; done) | (simp [*]; done)), (by first | rfl | (simp; done) | (simp [*]; done)), H', ⟨by have := HK1.out; omega⟩, ⟨by (with_reducible repeat (first | apply Kd.R_alloc | apply Kd.R_drewN | apply Kd.R_drew)); exact HO_6.out⟩, ⟨by repeat (first | (with_reducible first | exact HB.out | apply below_alloc | apply pw_below_drewN | apply below_drew1) | exact HB.out)⟩⟩
         ·rw [if_neg c11] at H
          exact absurd H (by simp)
       ·rw [if_neg c9] at H
        exact absurd H (by simp)
      ·rw [if_neg c8] at H
       exact absurd H (by simp)
     ·rw [if_neg c7] at H
      have c7b0 : decide (0 ≤ x8_1) = false := decide_eq_false c7
      clear c7
      replace H := Option.bind_eq_some_iff.mp H
      obtain ⟨t314, A150, H⟩ := H
      replace H : (some (t314, (x7_1) % 4294967296)) = some (r1, r2) := H
      have A15 := Aside0.mk A150
      clear A150
      simp only [Option.some.injEq, Prod.mk.injEq] at H
      obtain ⟨rfl, rfl⟩ := H
      obtain ⟨Ao16, co16, eo16⟩ := Kd.R_slice HO_6.out
      subst eo16
      go_wp2_with (first | ((with_reducible refine gate_callee (f := 53) rfl ?_); refine goesL_ (some 40) rfl rfl Tryz.func53 (by kernel_rfl) rfl #[.slice Ao16 x6_1.length co16] rfl (by (try simp only [List.map_toArray, List.map_cons, List.map_nil]); first | done | rfl | (simp only [List.length_drop, List.length_take]; rfl)) ?_; (with_reducible refine (spec_natTrim.calls k1 (fun k_ => some k_ = (.slice Ao16 x6_1.length co16 : Value).ownBlock) _ _ x6_1 t314 _ ?side1 A15.out).mono ?_); (case side1 => exact Kd.R_V (Kd.R_tight rfl (HO_6.out))); rintro e w17 ⟨v315, rfl, ho0, hb⟩; refine ⟨_, rfl, ?_⟩; have n0_ := Aside0.mk (Kd.R_below (by (with_reducible repeat (first | apply Kd.R_alloc | apply Kd.R_drewN | apply Kd.R_drew)); exact HO_6.out) hb); have n1_ := Aside0.mk (Kd.V_lower (Kd.V_mono (ok' := fun k_ => (w.heap.size ≤ k_)) ho0 (fun k_ hk_ => Or.elim hk_ (fun hs_ => ((HO_6.out).1 k_ hs_.symm)) (fun hn_ => (Nat.le_trans (below_size (by repeat (first | (with_reducible first | exact HB.out | apply below_alloc | apply pw_below_drewN | apply below_drew1) | exact HB.out))) hn_)))) (below_size (by repeat (first | (with_reducible first | exact HB.out | apply below_alloc | apply pw_below_drewN | apply below_drew1) | exact HB.out)))); have n2_ := Aside0.mk (below_step (by repeat (first | (with_reducible first | exact HB.out | apply below_alloc | apply pw_below_drewN | apply below_drew1) | exact HB.out)) hb); clear HO_6; clear HB; have HO_6 := n0_; have HO316 := n1_; have HB := n2_; clear n0_ n1_ n2_; (try clear hb); (try clear hb2); (try clear hk); (try clear hi); (try clear ho0)))
      go_ret2
      exact ⟨_, by first | rfl | (simp [errW_none, errW_some] <;> rfl) | (simp [*, errW_none, errW_some] <;> rfl), by (with_reducible repeat (first | apply Kd.V_alloc | apply Kd.V_drewN | apply Kd.V_drew)); exact HO316.out, by repeat (first | (with_reducible first | exact HB.out | apply below_alloc | apply pw_below_drewN | apply below_drew1) | exact HB.out)⟩
  ·rw [if_neg c4] at H
   exact absurd H (by simp)
 ·rw [if_neg c3] at H
  exact absurd H (by simp)
def spec_natGuess.f (l0 : List Int) (l1 : List Int) : Option (Int) := if (l0.length : Int) < (l1.length : Int) then (some 0) else (if 0 ≤ (wrap64 ((l1.length : Int) - 1)) then (if (wrap64 ((l1.length : Int) - 1)) < (l0.length : Int) then (if (l0.length : Int) > (l1.length : Int) then (if 0 ≤ (l1.length : Int) then (if (l1.length : Int) < (l0.length : Int) then (if (wrap64 ((l1.length : Int) - 1)) < (l1.length : Int) then (if (IntKind.u64.wrap (rd l1 (wrap64 ((l1.length : Int) - 1)))) = 0 then (none) else (some (mn (IntKind.u64.wrap (Int.tdiv (IntKind.u64.wrap ((IntKind.u64.wrap (rd l0 (wrap64 ((l1.length : Int) - 1)))) + (IntKind.u64.wrap ((IntKind.u64.wrap (rd l0 (l1.length : Int))) * 1000000000)))) (IntKind.u64.wrap (rd l1 (wrap64 ((l1.length : Int) - 1)))))) 999999999))) else (none)) else (none)) else (none)) else (if (wrap64 ((l1.length : Int) - 1)) < (l1.length : Int) then (if (IntKind.u64.wrap (rd l1 (wrap64 ((l1.length : Int) - 1)))) = 0 then (none) else (some (mn (IntKind.u64.wrap (Int.tdiv (IntKind.u64.wrap (rd l0 (wrap64 ((l1.length : Int) - 1)))) (IntKind.u64.wrap (rd l1 (wrap64 ((l1.length : Int) - 1)))))) 999999999))) else (none))) else (none)) else (none))
set_option maxHeartbeats 8000000 in
set_option maxRecDepth 100000 in
theorem spec_natGuess.calls (A0 : Option Addr) (c0 : Nat) (l0 : List Int) (A1 : Option Addr) (c1 : Nat) (l1 : List Int) (r : Int) (w : World) (hr0 : Kd.C (Kd.int .u32) w A0 l0.length l0) (hc0 : l0.length ≤ c0) (hr1 : Kd.C (Kd.int .u32) w A1 l1.length l1) (hc1 : l1.length ≤ c1) (h : spec_natGuess.f l0 l1 = some r) :
  Calls Tryz.prog 63 #[.slice A0 l0.length c0, .slice A1 l1.length c1] w fun e w' => e = .returned (.int .u64 r) ∧ Below w.heap.size w w' := by
 have HR0 := Aside0.mk hr0
 have HC0 := Aside0.mk hc0
 clear hr0 hc0
 have HR1 := Aside0.mk hr1
 have HC1 := Aside0.mk hc1
 clear hr1 hc1
 have HB := Aside0.mk (Below.refl w.heap.size w)
 have H : (if (l0.length : Int) < (l1.length : Int) then (some 0) else (if 0 ≤ (wrap64 ((l1.length : Int) - 1)) then (if (wrap64 ((l1.length : Int) - 1)) < (l0.length : Int) then (if (l0.length : Int) > (l1.length : Int) then (if 0 ≤ (l1.length : Int) then (if (l1.length : Int) < (l0.length : Int) then (if (wrap64 ((l1.length : Int) - 1)) < (l1.length : Int) then (if (IntKind.u64.wrap (rd l1 (wrap64 ((l1.length : Int) - 1)))) = 0 then (none) else (some (mn (IntKind.u64.wrap (Int.tdiv (IntKind.u64.wrap ((IntKind.u64.wrap (rd l0 (wrap64 ((l1.length : Int) - 1)))) + (IntKind.u64.wrap ((IntKind.u64.wrap (rd l0 (l1.length : Int))) * 1000000000)))) (IntKind.u64.wrap (rd l1 (wrap64 ((l1.length : Int) - 1)))))) 999999999))) else (none)) else (none)) else (none)) else (if (wrap64 ((l1.length : Int) - 1)) < (l1.length : Int) then (if (IntKind.u64.wrap (rd l1 (wrap64 ((l1.length : Int) - 1)))) = 0 then (none) else (some (mn (IntKind.u64.wrap (Int.tdiv (IntKind.u64.wrap (rd l0 (wrap64 ((l1.length : Int) - 1)))) (IntKind.u64.wrap (rd l1 (wrap64 ((l1.length : Int) - 1)))))) 999999999))) else (none))) else (none)) else (none))) = some r := h
 clear h
 by_cases c3 : (l0.length : Int) < (l1.length : Int)
 ·rw [if_pos c3] at H
  have c3b0 : decide ((l0.length : Int) < (l1.length : Int)) = true := decide_eq_true c3
  have c3b1 : decide (l0.length < l1.length) = true := decide_eq_true (Int.ofNat_lt.mp c3)
  clear c3
  obtain rfl := Option.some.inj H
  go_enter Tryz.func63, Tryz.ntmps63
  go_wp2
  go_ret
  exact ⟨by first | rfl | (simp [errW_none, errW_some] <;> rfl) | (simp [*, errW_none, errW_some] <;> rfl), by repeat (first | (with_reducible first | exact HB.out | apply below_alloc | apply pw_below_drewN | apply below_drew1) | exact HB.out)⟩
 ·rw [if_neg c3] at H
  have c3b0 : decide ((l0.length : Int) < (l1.length : Int)) = false := decide_eq_false c3
  have c3b1 : decide (l0.length < l1.length) = false := decide_eq_false (fun h => c3 (Int.ofNat_lt.mpr h))
  clear c3
  obtain ⟨ji4, hji4⟩ : ∃ j_ : Int, (wrap64 ((l1.length : Int) - 1)) = j_ := ⟨_, rfl⟩
  replace H : (if 0 ≤ (ji4) then (if (ji4) < (l0.length : Int) then (if (l0.length : Int) > (l1.length : Int) then (if 0 ≤ (l1.length : Int) then (if (l1.length : Int) < (l0.length : Int) then (if (ji4) < (l1.length : Int) then (if (IntKind.u64.wrap (rd l1 (ji4))) = 0 then (none) else (some (mn (IntKind.u64.wrap (Int.tdiv (IntKind.u64.wrap ((IntKind.u64.wrap (rd l0 (ji4))) + (IntKind.u64.wrap ((IntKind.u64.wrap (rd l0 (l1.length : Int))) * 1000000000)))) (IntKind.u64.wrap (rd l1 (ji4))))) 999999999))) else (none)) else (none)) else (none)) else (if (ji4) < (l1.length : Int) then (if (IntKind.u64.wrap (rd l1 (ji4))) = 0 then (none) else (some (mn (IntKind.u64.wrap (Int.tdiv (IntKind.u64.wrap (rd l0 (ji4))) (IntKind.u64.wrap (rd l1 (ji4))))) 999999999))) else (none))) else (none)) else (none)) = some r := by first | (rw [hji4] at H; exact H) | (simp only [hji4] at H ⊢; exact H)
  have hji4w : (IntKind.i64.wrap ((l1.length : Int) - 1)) = ji4 := (i64_w _).trans hji4
  by_cases c5 : 0 ≤ (ji4)
  ·rw [if_pos c5] at H
   have c5b0 : decide (0 ≤ (ji4)) = true := decide_eq_true c5
   clear c5
   by_cases c6 : (ji4) < (l0.length : Int)
   ·rw [if_pos c6] at H
    have c6b0 : decide ((ji4) < (l0.length : Int)) = true := decide_eq_true c6
    clear c6
    by_cases c7 : (l0.length : Int) > (l1.length : Int)
    ·rw [if_pos c7] at H
     have c7b0 : decide ((l1.length : Int) < (l0.length : Int)) = true := decide_eq_true c7
     have c7b1 : decide (l1.length < l0.length) = true := decide_eq_true (Int.ofNat_lt.mp c7)
     clear c7
     by_cases c8 : 0 ≤ (l1.length : Int)
     ·rw [if_pos c8] at H
      have c8b0 : decide (0 ≤ (l1.length : Int)) = true := decide_eq_true c8
      have c8b1 : decide (0 ≤ l1.length) = true := decide_eq_true (by omega)
      clear c8
      by_cases c9 : (l1.length : Int) < (l0.length : Int)
      ·rw [if_pos c9] at H
       have c9b0 : decide ((l1.length : Int) < (l0.length : Int)) = true := decide_eq_true c9
       have c9b1 : decide (l1.length < l0.length) = true := decide_eq_true (Int.ofNat_lt.mp c9)
       clear c9
       by_cases c10 : (ji4) < (l1.length : Int)
       ·rw [if_pos c10] at H
        have c10b0 : decide ((ji4) < (l1.length : Int)) = true := decide_eq_true c10
        clear c10
        by_cases c11 : (IntKind.u64.wrap (rd l1 (ji4))) = 0
        ·rw [if_pos c11] at H
         exact absurd H (by simp)
        ·rw [if_neg c11] at H
         have c11b0 : ((IntKind.u64.wrap (rd l1 (ji4))) == 0) = false := beq_eq_false_iff_ne.mpr c11
         have c11b1 : ((IntKind.u64.wrap (rd l1 (ji4))) != 0) = true := bne_iff_ne.mpr c11
         obtain ⟨ji12, hji12⟩ : ∃ j_ : Int, (mn (IntKind.u64.wrap (Int.tdiv (IntKind.u64.wrap ((IntKind.u64.wrap (rd l0 (ji4))) + (IntKind.u64.wrap ((IntKind.u64.wrap (rd l0 (l1.length : Int))) * 1000000000)))) (IntKind.u64.wrap (rd l1 (ji4))))) 999999999) = j_ := ⟨_, rfl⟩
         replace H : (some ji12) = some r := by first | (rw [hji12] at H; exact H) | (simp only [hji12] at H ⊢; exact H)
         have hji12_ : (if 999999999 < (IntKind.u64.wrap (Int.tdiv (IntKind.u64.wrap ((IntKind.u64.wrap (rd l0 (ji4))) + (IntKind.u64.wrap ((IntKind.u64.wrap (rd l0 (l1.length : Int))) * 1000000000)))) (IntKind.u64.wrap (rd l1 (ji4))))) then 999999999 else (IntKind.u64.wrap (Int.tdiv (IntKind.u64.wrap ((IntKind.u64.wrap (rd l0 (ji4))) + (IntKind.u64.wrap ((IntKind.u64.wrap (rd l0 (l1.length : Int))) * 1000000000)))) (IntKind.u64.wrap (rd l1 (ji4)))))) = ji12 := hji12
         obtain rfl := Option.some.inj H
         have p317 : 0 ≤ ((ji4) : Int) := of_decide_eq_true (by first | (with_reducible assumption) | assumption)
         have q317 : (ji4) < (l0.length : Int) := of_decide_eq_true (by first | (with_reducible assumption) | assumption)
         obtain ⟨ad317, e317, hx317_0⟩ := Kd.at_int HR0.out (ji4) p317 q317
         cases e317
         replace p317 := eq_true p317
         replace q317 := eq_true q317
         have p318 : 0 ≤ ((l1.length : Int) : Int) := of_decide_eq_true (by first | (with_reducible assumption) | assumption)
         have q318 : (l1.length : Int) < (l0.length : Int) := of_decide_eq_true (by first | (with_reducible assumption) | assumption)
         obtain ⟨ad318, e318, hx318_0⟩ := Kd.at_int HR0.out (l1.length : Int) p318 q318
         obtain rfl : ad317 = ad318 := (by injection e318)
         (try simp only [Go.IntWalk.toNatUp] at hx318_0)
         replace p318 := eq_true p318
         replace q318 := eq_true q318
         have p319 : 0 ≤ ((ji4) : Int) := of_decide_eq_true (by first | (with_reducible assumption) | assumption)
         have q319 : (ji4) < (l1.length : Int) := of_decide_eq_true (by first | (with_reducible assumption) | assumption)
         obtain ⟨ad319, e319, hx319_0⟩ := Kd.at_int HR1.out (ji4) p319 q319
         cases e319
         replace p319 := eq_true p319
         replace q319 := eq_true q319
         go_enter Tryz.func63, Tryz.ntmps63
         go_wp2
         go_ret
         exact ⟨by first | rfl | (simp [errW_none, errW_some] <;> rfl) | (simp only [← hji4, ← hji12]; first | rfl | (simp [errW_none, errW_some] <;> rfl)) | (simp [*, errW_none, errW_some] <;> rfl), by repeat (first | (with_reducible first | exact HB.out | apply below_alloc | apply pw_below_drewN | apply below_drew1) | exact HB.out)⟩
       ·rw [if_neg c10] at H
        exact absurd H (by simp)
      ·rw [if_neg c9] at H
       exact absurd H (by simp)
     ·rw [if_neg c8] at H
      exact absurd H (by simp)
    ·rw [if_neg c7] at H
     have c7b0 : decide ((l1.length : Int) < (l0.length : Int)) = false := decide_eq_false c7
     have c7b1 : decide (l1.length < l0.length) = false := decide_eq_false (fun h => c7 (Int.ofNat_lt.mpr h))
     clear c7
     by_cases c13 : (ji4) < (l1.length : Int)
     ·rw [if_pos c13] at H
      have c13b0 : decide ((ji4) < (l1.length : Int)) = true := decide_eq_true c13
      clear c13
      by_cases c14 : (IntKind.u64.wrap (rd l1 (ji4))) = 0
      ·rw [if_pos c14] at H
       exact absurd H (by simp)
      ·rw [if_neg c14] at H
       have c14b0 : ((IntKind.u64.wrap (rd l1 (ji4))) == 0) = false := beq_eq_false_iff_ne.mpr c14
       have c14b1 : ((IntKind.u64.wrap (rd l1 (ji4))) != 0) = true := bne_iff_ne.mpr c14
       obtain ⟨ji15, hji15⟩ : ∃ j_ : Int, (mn (IntKind.u64.wrap (Int.tdiv (IntKind.u64.wrap (rd l0 (ji4))) (IntKind.u64.wrap (rd l1 (ji4))))) 999999999) = j_ := ⟨_, rfl⟩
       replace H : (some ji15) = some r := by first | (rw [hji15] at H; exact H) | (simp only [hji15] at H ⊢; exact H)
       have hji15_ : (if 999999999 < (IntKind.u64.wrap (Int.tdiv (IntKind.u64.wrap (rd l0 (ji4))) (IntKind.u64.wrap (rd l1 (ji4))))) then 999999999 else (IntKind.u64.wrap (Int.tdiv (IntKind.u64.wrap (rd l0 (ji4))) (IntKind.u64.wrap (rd l1 (ji4)))))) = ji15 := hji15
       obtain rfl := Option.some.inj H
       have p317 : 0 ≤ ((ji4) : Int) := of_decide_eq_true (by first | (with_reducible assumption) | assumption)
       have q317 : (ji4) < (l0.length : Int) := of_decide_eq_true (by first | (with_reducible assumption) | assumption)
       obtain ⟨ad317, e317, hx317_0⟩ := Kd.at_int HR0.out (ji4) p317 q317
       cases e317
       replace p317 := eq_true p317
       replace q317 := eq_true q317
       have p320 : 0 ≤ ((ji4) : Int) := of_decide_eq_true (by first | (with_reducible assumption) | assumption)
       have q320 : (ji4) < (l1.length : Int) := of_decide_eq_true (by first | (with_reducible assumption) | assumption)
       obtain ⟨ad320, e320, hx320_0⟩ := Kd.at_int HR1.out (ji4) p320 q320
       cases e320
       replace p320 := eq_true p320
       replace q320 := eq_true q320
       go_enter Tryz.func63, Tryz.ntmps63
       go_wp2
       go_ret
       exact ⟨by first | rfl | (simp [errW_none, errW_some] <;> rfl) | (simp only [← hji4, ← hji15]; first | rfl | (simp [errW_none, errW_some] <;> rfl)) | (simp [*, errW_none, errW_some] <;> rfl), by repeat (first | (with_reducible first | exact HB.out | apply below_alloc | apply pw_below_drewN | apply below_drew1) | exact HB.out)⟩
     ·rw [if_neg c13] at H
      exact absurd H (by simp)
   ·rw [if_neg c6] at H
    exact absurd H (by simp)
  ·rw [if_neg c5] at H
   exact absurd H (by simp)
def spec_NatSub.l0 : Nat → List Int → List Int → Int → List Int → Int → Int → Option (List Int)
 | 0, _, _, _, _, _, _ => none
 | k + 1, x1, x5, x6, x10, x11, x12 => if x12 < x11 then (if 0 ≤ x12 then (if x12 < (x10.length : Int) then (if x12 < (x1.length : Int) then (if (rd x10 x12) < ((x6 + (rd x1 x12)) % 4294967296) then (if x5.length < 35184372088832 then (spec_NatSub.l0 k x1 (x5 ++ [(((rd x10 x12) + 1000000000) - (x6 + (rd x1 x12))) % 4294967296]) 1 x10 x11 (wrap64 (x12 + 1))) else (none)) else (if x5.length < 35184372088832 then (spec_NatSub.l0 k x1 (x5 ++ [((rd x10 x12) - (x6 + (rd x1 x12))) % 4294967296]) 0 x10 x11 (wrap64 (x12 + 1))) else (none))) else (if (rd x10 x12) < x6 then (if x5.length < 35184372088832 then (spec_NatSub.l0 k x1 (x5 ++ [(((rd x10 x12) + 1000000000) - x6) % 4294967296]) 1 x10 x11 (wrap64 (x12 + 1))) else (none)) else (if x5.length < 35184372088832 then (spec_NatSub.l0 k x1 (x5 ++ [((rd x10 x12) - x6) % 4294967296]) 0 x10 x11 (wrap64 (x12 + 1))) else (none)))) else (none)) else (none)) else ((spec_natTrim.f k x5).bind fun t321 => (some t321))
def spec_NatSub.f (k : Nat) (l0 : List Int) (l1 : List Int) : Option (List Int) := spec_NatSub.l0 k l1 ([] : List Int) 0 l0 (l0.length : Int) 0
set_option maxHeartbeats 8000000 in
set_option maxRecDepth 100000 in
theorem spec_NatSub.calls (k : Nat) (A0 : Option Addr) (c0 : Nat) (l0 : List Int) (A1 : Option Addr) (c1 : Nat) (l1 : List Int) (r : List Int) (w : World) (hr0 : Kd.C (Kd.int .u32) w A0 l0.length l0) (hc0 : l0.length ≤ c0) (hr1 : Kd.C (Kd.int .u32) w A1 l1.length l1) (hc1 : l1.length ≤ c1) (h : spec_NatSub.f k l0 l1 = some r) :
  Calls Tryz.prog 64 #[.slice A0 l0.length c0, .slice A1 l1.length c1] w fun e w' => ∃ v0_ : Value, e = .returned (v0_) ∧ Kd.V (Kd.int .u32) 87 w' w.heap.size (fun k_ => (w.heap.size ≤ k_)) v0_ r ∧ Below w.heap.size w w' := by
 have HR0 := Aside0.mk hr0
 have HC0 := Aside0.mk hc0
 clear hr0 hc0
 have HR1 := Aside0.mk hr1
 have HC1 := Aside0.mk hc1
 clear hr1 hc1
 have HB := Aside0.mk (Below.refl w.heap.size w)
 have H : (spec_NatSub.l0 k l1 ([] : List Int) 0 l0 (l0.length : Int) 0) = some r := h
 clear h
 have H' := Aside0.mk H
 clear H
 go_enter Tryz.func64, Tryz.ntmps64
 go_wp2
 go_loopg [5, 6, 12] k (fun kq v5 v6 v12 w' => ∃ (x5_1 : List Int) (x6_1 : Int) (x12_1 : Int), v6 = .int .u32 x6_1 ∧ v12 = .int .i64 x12_1 ∧ Aside0 (spec_NatSub.l0 kq l1 x5_1 x6_1 l0 (l0.length : Int) x12_1 = some r) ∧ Aside0 (kq ≤ k) ∧ Aside0 (Kd.R (Kd.int .u32) 87 w' w.heap.size (fun k_ => (w.heap.size ≤ k_)) v5 x5_1) ∧ Aside0 (Below w.heap.size w w'))
 case atStart => exact ⟨(([] : List Int)), (0), (0), (by first | rfl | (simp; done) | (simp [*]; done)), (by first | rfl | (simp; done) | (simp [*]; done)), H', ⟨Nat.le_refl _⟩, ⟨by first | exact Kd.R_nil _ _ _ _ _ | exact Kd.N_nil _ _ _ _ _ | exact Kd.V_nil _ _ _ _ _ | exact Kd.Q_nil _ _ _ _ _ | exact Kd.S_nil _ _ _ _ _⟩, ⟨by repeat (first | (with_reducible first | exact HB.out | apply below_alloc | apply pw_below_drewN | apply below_drew1) | exact HB.out)⟩⟩
 case round =>
  clear H'
  try clear c1
  try clear p2
  obtain ⟨x5_1, x6_1, x12_1, rfl, rfl, HA, HK1, HO_5, HB⟩ := hrel
  cases gk with
  | zero => exact absurd HA.out (by simp [spec_NatSub.l0])
  | succ k1 =>
   have H := HA.out
   clear HA
   simp only [spec_NatSub.l0] at H
   by_cases c3 : x12_1 < (l0.length : Int)
   ·rw [if_pos c3] at H
    have c3b0 : decide (x12_1 < (l0.length : Int)) = true := decide_eq_true c3
    clear c3
    by_cases c4 : 0 ≤ x12_1
    ·rw [if_pos c4] at H
     have c4b0 : decide (0 ≤ x12_1) = true := decide_eq_true c4
     clear c4
     by_cases c5 : x12_1 < (l0.length : Int)
     ·rw [if_pos c5] at H
      have c5b0 : decide (x12_1 < (l0.length : Int)) = true := decide_eq_true c5
      clear c5
      by_cases c6 : x12_1 < (l1.length : Int)
      ·rw [if_pos c6] at H
       have c6b0 : decide (x12_1 < (l1.length : Int)) = true := decide_eq_true c6
       clear c6
       by_cases c7 : (rd l0 x12_1) < ((x6_1 + (rd l1 x12_1)) % 4294967296)
       ·rw [if_pos c7] at H
        have c7b0 : decide ((rd l0 x12_1) < ((x6_1 + (rd l1 x12_1)) % 4294967296)) = true := decide_eq_true c7
        clear c7
        by_cases c8 : x5_1.length < 35184372088832
        ·rw [if_pos c8] at H
         have LMc8 := Aside0.mk c8
         clear c8
         obtain ⟨y326, hy326⟩ : ∃ y_ : List Int, y_ = (x5_1 ++ [(((rd l0 x12_1) + 1000000000) - (x6_1 + (rd l1 x12_1))) % 4294967296]) := ⟨_, rfl⟩
         replace H : (spec_NatSub.l0 k1 l1 y326 1 l0 (l0.length : Int) (wrap64 (x12_1 + 1))) = some r := by first | (rw [hy326]; with_reducible exact H) | (have H2_ := (Option.bind_some _ _).symm.trans H; rw [hy326]; with_reducible exact H2_) | (have H2_ := (Option.bind_some _ _).symm.trans H; with_reducible exact H2_) | with_reducible exact H | (rw [hy326]; exact H) | exact H
         have Ny326 := Aside0.mk hy326
         clear hy326
         have H' := Aside0.mk H
         clear H
         have p324 : 0 ≤ (x12_1 : Int) := of_decide_eq_true (by first | (with_reducible assumption) | assumption)
         have q324 : x12_1 < (l0.length : Int) := of_decide_eq_true (by first | (with_reducible assumption) | assumption)
         obtain ⟨ad324, e324, hx324_0⟩ := Kd.at_int HR0.out x12_1 p324 q324
         cases e324
         replace hx324_0 := (HB.out.cell (World.block_lt_of_cell? w _ hx324_0)).trans hx324_0
         replace p324 := eq_true p324
         replace q324 := eq_true q324
         have p325 : 0 ≤ (x12_1 : Int) := of_decide_eq_true (by first | (with_reducible assumption) | assumption)
         have q325 : x12_1 < (l1.length : Int) := of_decide_eq_true (by first | (with_reducible assumption) | assumption)
         obtain ⟨ad325, e325, hx325_0⟩ := Kd.at_int HR1.out x12_1 p325 q325
         cases e325
         replace hx325_0 := (HB.out.cell (World.block_lt_of_cell? w _ hx325_0)).trans hx325_0
         replace p325 := eq_true p325
         replace q325 := eq_true q325
         go_wp2_with (first | ((with_reducible refine gate_builtin (b := .append) (xs := #[.tmp 33, .tmp 37]) rfl ?_); at_builtin; refine Kd.R_append (Kd.int .u32) (w0 := w) w.heap.size rfl (.tmp 33) (.tmp 37) 26 87 (.int .u32 0) 4 rfl Tryz.underlying26 info87 rfl (by decide) (by omega) u5 x5_1 ((((rd l0 x12_1) + 1000000000) - (x6_1 + (rd l1 x12_1))) % 4294967296) [.int .u32 ((((rd l0 x12_1) + 1000000000) - (x6_1 + (rd l1 x12_1))) % 4294967296)] (fun k_ => (w.heap.size ≤ k_)) (fun _ => False) rfl rfl ?aP (fun _ hk => hk.elim) ?aF ?aO ?aB ?aS ?aL ?_; (case aP => exact rfl); (case aB => exact (by repeat (first | (with_reducible first | exact HB.out | apply below_alloc | apply pw_below_drewN | apply below_drew1) | exact HB.out))); (case aF => exact (fun k_ hk => (Nat.le_trans (below_size (by repeat (first | (with_reducible first | exact HB.out | apply below_alloc | apply pw_below_drewN | apply below_drew1) | exact HB.out))) hk))); (case aO => exact (by (with_reducible repeat (first | apply Kd.R_alloc | apply Kd.R_drewN | apply Kd.R_drew)); exact HO_5.out)); (case aS => exact (below_size (by repeat (first | (with_reducible first | exact HB.out | apply below_alloc | apply pw_below_drewN | apply below_drew1) | exact HB.out)))); (case aL => have := LMc8.out; omega); intro v327 w9 ho hb hg hat; rw [← Ny326.out] at ho; have n0_ := Aside0.mk (hb); have n1_ := Aside0.mk (ho); clear HB; clear HO_5; have HB := n0_; have HO328 := n1_; clear n0_ n1_; clear ho hb hg hat))
         go_roundg k1
         case measure => have := HK1.out; omega
         case rel => exact ⟨(y326), (1), (wrap64 (x12_1 + 1)), (by first | rfl | (simp; done) | (simp [*]; done)), (by first | rfl | (simp; done) | (simp [*]; done)), H', ⟨by have := HK1.out; omega⟩, ⟨by (with_reducible repeat (first | apply Kd.R_alloc | apply Kd.R_drewN | apply Kd.R_drew)); exact HO328.out⟩, ⟨by repeat (first | (with_reducible first | exact HB.out | apply below_alloc | apply pw_below_drewN | apply below_drew1) | exact HB.out)⟩⟩
        ·rw [if_neg c8] at H
         exact absurd H (by simp)
       ·rw [if_neg c7] at H
        have c7b0 : decide ((rd l0 x12_1) < ((x6_1 + (rd l1 x12_1)) % 4294967296)) = false := decide_eq_false c7
        clear c7
        by_cases c10 : x5_1.length < 35184372088832
        ·rw [if_pos c10] at H
         have LMc10 := Aside0.mk c10
         clear c10
         obtain ⟨y329, hy329⟩ : ∃ y_ : List Int, y_ = (x5_1 ++ [((rd l0 x12_1) - (x6_1 + (rd l1 x12_1))) % 4294967296]) := ⟨_, rfl⟩
         replace H : (spec_NatSub.l0 k1 l1 y329 0 l0 (l0.length : Int) (wrap64 (x12_1 + 1))) = some r := by first | (rw [hy329]; with_reducible exact H) | (have H2_ := (Option.bind_some _ _).symm.trans H; rw [hy329]; with_reducible exact H2_) | (have H2_ := (Option.bind_some _ _).symm.trans H; with_reducible exact H2_) | with_reducible exact H | (rw [hy329]; exact H) | exact H
         have Ny329 := Aside0.mk hy329
         clear hy329
         have H' := Aside0.mk H
         clear H
         have p324 : 0 ≤ (x12_1 : Int) := of_decide_eq_true (by first | (with_reducible assumption) | assumption)
         have q324 : x12_1 < (l0.length : Int) := of_decide_eq_true (by first | (with_reducible assumption) | assumption)
         obtain ⟨ad324, e324, hx324_0⟩ := Kd.at_int HR0.out x12_1 p324 q324
         cases e324
         replace hx324_0 := (HB.out.cell (World.block_lt_of_cell? w _ hx324_0)).trans hx324_0
         replace p324 := eq_true p324
         replace q324 := eq_true q324
         have p325 : 0 ≤ (x12_1 : Int) := of_decide_eq_true (by first | (with_reducible assumption) | assumption)
         have q325 : x12_1 < (l1.length : Int) := of_decide_eq_true (by first | (with_reducible assumption) | assumption)
         obtain ⟨ad325, e325, hx325_0⟩ := Kd.at_int HR1.out x12_1 p325 q325
         cases e325
         replace hx325_0 := (HB.out.cell (World.block_lt_of_cell? w _ hx325_0)).trans hx325_0
         replace p325 := eq_true p325
         replace q325 := eq_true q325
         go_wp2_with (first | ((with_reducible refine gate_builtin (b := .append) (xs := #[.tmp 33, .tmp 37]) rfl ?_); at_builtin; refine Kd.R_append (Kd.int .u32) (w0 := w) w.heap.size rfl (.tmp 33) (.tmp 37) 26 87 (.int .u32 0) 4 rfl Tryz.underlying26 info87 rfl (by decide) (by omega) u5 x5_1 (((rd l0 x12_1) - (x6_1 + (rd l1 x12_1))) % 4294967296) [.int .u32 (((rd l0 x12_1) - (x6_1 + (rd l1 x12_1))) % 4294967296)] (fun k_ => (w.heap.size ≤ k_)) (fun _ => False) rfl rfl ?aP (fun _ hk => hk.elim) ?aF ?aO ?aB ?aS ?aL ?_; (case aP => exact rfl); (case aB => exact (by repeat (first | (with_reducible first | exact HB.out | apply below_alloc | apply pw_below_drewN | apply below_drew1) | exact HB.out))); (case aF => exact (fun k_ hk => (Nat.le_trans (below_size (by repeat (first | (with_reducible first | exact HB.out | apply below_alloc | apply pw_below_drewN | apply below_drew1) | exact HB.out))) hk))); (case aO => exact (by (with_reducible repeat (first | apply Kd.R_alloc | apply Kd.R_drewN | apply Kd.R_drew)); exact HO_5.out)); (case aS => exact (below_size (by repeat (first | (with_reducible first | exact HB.out | apply below_alloc | apply pw_below_drewN | apply below_drew1) | exact HB.out)))); (case aL => have := LMc10.out; omega); intro v330 w11 ho hb hg hat; rw [← Ny329.out] at ho; have n0_ := Aside0.mk (hb); have n1_ := Aside0.mk (ho); clear HB; clear HO_5; have HB := n0_; have HO331 := n1_; clear n0_ n1_; clear ho hb hg hat))
         go_roundg k1
         case measure => have := HK1.out; omega
         case rel => exact ⟨(y329), (0), (wrap64 (x12_1 + 1)), (by first | rfl | (simp; done) | (simp [*]; done)), (by first | rfl | (simp; done) | (simp [*]; done)), H', ⟨by have := HK1.out; omega⟩, ⟨by (with_reducible repeat (first | apply Kd.R_alloc | apply Kd.R_drewN | apply Kd.R_drew)); exact HO331.out⟩, ⟨by repeat (first | (with_reducible first | exact HB.out | apply below_alloc | apply pw_below_drewN | apply below_drew1) | exact HB.out)⟩⟩
        ·rw [if_neg c10] at H
         exact absurd H (by simp)
      ·rw [if_neg c6] at H
       have c6b0 : decide (x12_1 < (l1.length : Int)) = false := decide_eq_false c6
       clear c6
       by_cases c12 : (rd l0 x12_1) < x6_1
       ·rw [if_pos c12] at H
        have c12b0 : decide ((rd l0 x12_1) < x6_1) = true := decide_eq_true c12
        clear c12
        by_cases c13 : x5_1.length < 35184372088832
        ·rw [if_pos c13] at H
         have LMc13 := Aside0.mk c13
         clear c13
         obtain ⟨y332, hy332⟩ : ∃ y_ : List Int, y_ = (x5_1 ++ [(((rd l0 x12_1) + 1000000000) - x6_1) % 4294967296]) := ⟨_, rfl⟩
         replace H : (spec_NatSub.l0 k1 l1 y332 1 l0 (l0.length : Int) (wrap64 (x12_1 + 1))) = some r := by first | (rw [hy332]; with_reducible exact H) | (have H2_ := (Option.bind_some _ _).symm.trans H; rw [hy332]; with_reducible exact H2_) | (have H2_ := (Option.bind_some _ _).symm.trans H; with_reducible exact H2_) | with_reducible exact H | (rw [hy332]; exact H) | exact H
         have Ny332 := Aside0.mk hy332
         clear hy332
         have H' := Aside0.mk H
         clear H
         have p324 : 0 ≤ (x12_1 : Int) := of_decide_eq_true (by first | (with_reducible assumption) | assumption)
         have q324 : x12_1 < (l0.length : Int) := of_decide_eq_true (by first | (with_reducible assumption) | assumption)
         obtain ⟨ad324, e324, hx324_0⟩ := Kd.at_int HR0.out x12_1 p324 q324
         cases e324
         replace hx324_0 := (HB.out.cell (World.block_lt_of_cell? w _ hx324_0)).trans hx324_0
         replace p324 := eq_true p324
         replace q324 := eq_true q324
         go_wp2_with (first | ((with_reducible refine gate_builtin (b := .append) (xs := #[.tmp 33, .tmp 37]) rfl ?_); at_builtin; refine Kd.R_append (Kd.int .u32) (w0 := w) w.heap.size rfl (.tmp 33) (.tmp 37) 26 87 (.int .u32 0) 4 rfl Tryz.underlying26 info87 rfl (by decide) (by omega) u5 x5_1 ((((rd l0 x12_1) + 1000000000) - x6_1) % 4294967296) [.int .u32 ((((rd l0 x12_1) + 1000000000) - x6_1) % 4294967296)] (fun k_ => (w.heap.size ≤ k_)) (fun _ => False) rfl rfl ?aP (fun _ hk => hk.elim) ?aF ?aO ?aB ?aS ?aL ?_; (case aP => exact rfl); (case aB => exact (by repeat (first | (with_reducible first | exact HB.out | apply below_alloc | apply pw_below_drewN | apply below_drew1) | exact HB.out))); (case aF => exact (fun k_ hk => (Nat.le_trans (below_size (by repeat (first | (with_reducible first | exact HB.out | apply below_alloc | apply pw_below_drewN | apply below_drew1) | exact HB.out))) hk))); (case aO => exact (by (with_reducible repeat (first | apply Kd.R_alloc | apply Kd.R_drewN | apply Kd.R_drew)); exact HO_5.out)); (case aS => exact (below_size (by repeat (first | (with_reducible first | exact HB.out | apply below_alloc | apply pw_below_drewN | apply below_drew1) | exact HB.out)))); (case aL => have := LMc13.out; omega); intro v333 w14 ho hb hg hat; rw [← Ny332.out] at ho; have n0_ := Aside0.mk (hb); have n1_ := Aside0.mk (ho); clear HB; clear HO_5; have HB := n0_; have HO334 := n1_; clear n0_ n1_; clear ho hb hg hat))
         go_roundg k1
         case measure => have := HK1.out; omega
         case rel => exact ⟨(y332), (1), (wrap64 (x12_1 + 1)), (by first | rfl | (simp; done) | (simp [*]; done)), (by first | rfl | (simp; done) | (simp [*]; done)), H', ⟨by have := HK1.out; omega⟩, ⟨by (with_reducible repeat (first | apply Kd.R_alloc | apply Kd.R_drewN | apply Kd.R_drew)); exact HO334.out⟩, ⟨by repeat (first | (with_reducible first | exact HB.out | apply below_alloc | apply pw_below_drewN | apply below_drew1) | exact HB.out)⟩⟩
        ·rw [if_neg c13] at H
         exact absurd H (by simp)
       ·rw [if_neg c12] at H
        have c12b0 : decide ((rd l0 x12_1) < x6_1) = false := decide_eq_false c12
        clear c12
        by_cases c15 : x5_1.length < 35184372088832
        ·rw [if_pos c15] at H
         have LMc15 := Aside0.mk c15
         clear c15
         obtain ⟨y335, hy335⟩ : ∃ y_ : List Int, y_ = (x5_1 ++ [((rd l0 x12_1) - x6_1) % 4294967296]) := ⟨_, rfl⟩
         replace H : (spec_NatSub.l0 k1 l1 y335 0 l0 (l0.length : Int) (wrap64 (x12_1 + 1))) = some r := by first | (rw [hy335]; with_reducible exact H) | (have H2_ := (Option.bind_some _ _).symm.trans H; rw [hy335]; with_reducible exact H2_) | (have H2_ := (Option.bind_some _ _).symm.trans H; with_reducible exact H2_) | with_reducible exact H | (rw [hy335]; exact H) | exact H
         have Ny335 := Aside0.mk hy335
         clear hy335
         have H' := Aside0.mk H
         clear H
         have p324 : 0 ≤ (x12_1 : Int) := of_decide_eq_true (by first | (with_reducible assumption) | assumption)
         have q324 : x12_1 < (l0.length : Int) := of_decide_eq_true (by first | (with_reducible assumption) | assumption)
         obtain ⟨ad324, e324, hx324_0⟩ := Kd.at_int HR0.out x12_1 p324 q324
         cases e324
         replace hx324_0 := (HB.out.cell (World.block_lt_of_cell? w _ hx324_0)).trans hx324_0
         replace p324 := eq_true p324
         replace q324 := eq_true q324
         go_wp2_with (first | ((with_reducible refine gate_builtin (b := .append) (xs := #[.tmp 33, .tmp 37]) rfl ?_); at_builtin; refine Kd.R_append (Kd.int .u32) (w0 := w) w.heap.size rfl (.tmp 33) (.tmp 37) 26 87 (.int .u32 0) 4 rfl Tryz.underlying26 info87 rfl (by decide) (by omega) u5 x5_1 (((rd l0 x12_1) - x6_1) % 4294967296) [.int .u32 (((rd l0 x12_1) - x6_1) % 4294967296)] (fun k_ => (w.heap.size ≤ k_)) (fun _ => False) rfl rfl ?aP (fun _ hk => hk.elim) ?aF ?aO ?aB ?aS ?aL ?_; (case aP => exact rfl); (case aB => exact (by repeat (first | (with_reducible first | exact HB.out | apply below_alloc | apply pw_below_drewN | apply below_drew1) | exact HB.out))); (case aF => exact (fun k_ hk => (Nat.le_trans (below_size (by repeat (first | (with_reducible first | exact HB.out | apply below_alloc | apply pw_below_drewN | apply below_drew1) | exact HB.out))) hk))); (case aO => exact (by (with_reducible repeat (first | apply Kd.R_alloc | apply Kd.R_drewN | apply Kd.R_drew)); exact HO_5.out)); (case aS => exact (below_size (by repeat (first | (with_reducible first | exact HB.out | apply below_alloc | apply pw_below_drewN | apply below_drew1) | exact HB.out)))); (case aL => have := LMc15.out; omega); intro v336 w16 ho hb hg hat; rw [← Ny335.out] at ho; have n0_ := Aside0.mk (hb); have n1_ := Aside0.mk (ho); clear HB; clear HO_5; have HB := n0_; have HO337 := n1_; clear n0_ n1_; clear ho hb hg hat))
         go_roundg k1
         case measure => have := HK1.out; omega
         case rel => exact ⟨(y335), (0), (wrap64 (x12_1 + 1)), (by first | rfl | (simp; done) | (simp [*]; done)), (by first | rfl | (simp; done) | (simp [*]; done)), H', ⟨by have := HK1.out; omega⟩, ⟨by (with_reducible repeat (first | apply Kd.R_alloc | apply Kd.R_drewN | apply Kd.R_drew)); exact HO337.out⟩, ⟨by repeat (first | (with_reducible first | exact HB.out | apply below_alloc | apply pw_below_drewN | apply below_drew1) | exact HB.out)⟩⟩
        ·rw [if_neg c15] at H
         exact absurd H (by simp)
     ·rw [if_neg c5] at H
      exact absurd H (by simp)
    ·rw [if_neg c4] at H
     exact absurd H (by simp)
   ·rw [if_neg c3] at H
    have c3b0 : decide (x12_1 < (l0.length : Int)) = false := decide_eq_false c3
    clear c3
    replace H := Option.bind_eq_some_iff.mp H
    obtain ⟨t321, A170, H⟩ := H
    replace H : (some t321) = some r := H
    have A17 := Aside0.mk A170
    clear A170
    obtain rfl := Option.some.inj H
    obtain ⟨Ao18, co18, eo18⟩ := Kd.R_slice HO_5.out
    subst eo18
    go_wp2_with (first | ((with_reducible refine gate_callee (f := 53) rfl ?_); refine goesL_ (some 41) rfl rfl Tryz.func53 (by kernel_rfl) rfl #[.slice Ao18 x5_1.length co18] rfl (by (try simp only [List.map_toArray, List.map_cons, List.map_nil]); first | done | rfl | (simp only [List.length_drop, List.length_take]; rfl)) ?_; (with_reducible refine (spec_natTrim.calls k1 (fun k_ => some k_ = (.slice Ao18 x5_1.length co18 : Value).ownBlock) _ _ x5_1 t321 _ ?side1 A17.out).mono ?_); (case side1 => exact Kd.R_V (Kd.R_tight rfl (HO_5.out))); rintro e w19 ⟨v322, rfl, ho0, hb⟩; refine ⟨_, rfl, ?_⟩; have n0_ := Aside0.mk (Kd.R_below (by (with_reducible repeat (first | apply Kd.R_alloc | apply Kd.R_drewN | apply Kd.R_drew)); exact HO_5.out) hb); have n1_ := Aside0.mk (Kd.V_lower (Kd.V_mono (ok' := fun k_ => (w.heap.size ≤ k_)) ho0 (fun k_ hk_ => Or.elim hk_ (fun hs_ => ((HO_5.out).1 k_ hs_.symm)) (fun hn_ => (Nat.le_trans (below_size (by repeat (first | (with_reducible first | exact HB.out | apply below_alloc | apply pw_below_drewN | apply below_drew1) | exact HB.out))) hn_)))) (below_size (by repeat (first | (with_reducible first | exact HB.out | apply below_alloc | apply pw_below_drewN | apply below_drew1) | exact HB.out)))); have n2_ := Aside0.mk (below_step (by repeat (first | (with_reducible first | exact HB.out | apply below_alloc | apply pw_below_drewN | apply below_drew1) | exact HB.out)) hb); clear HO_5; clear HB; have HO_5 := n0_; have HO323 := n1_; have HB := n2_; clear n0_ n1_ n2_; (try clear hb); (try clear hb2); (try clear hk); (try clear hi); (try clear ho0)))
    go_ret
    exact ⟨_, by first | rfl | (simp [errW_none, errW_some] <;> rfl) | (simp [*, errW_none, errW_some] <;> rfl), by (with_reducible repeat (first | apply Kd.V_alloc | apply Kd.V_drewN | apply Kd.V_drew)); exact HO323.out, by repeat (first | (with_reducible first | exact HB.out | apply below_alloc | apply pw_below_drewN | apply below_drew1) | exact HB.out)⟩
end Go.Proofs.YtilmldfbmmcchaaGreatDoor.PFnDecPowInt
