/- Natural numbers of nine digits a limb: sums, how many digits. What the functions compute, and that they compute it. Natural numbers of nine digits a limb, as lists: powers of ten, small numbers, powers, comparison, sums, differences. Natural numbers of nine digits a limb, as lists: sums, differences, short division. Conditions: each theorem bears its own. -/
import Derived.Test.YtilmldfbmmcchaaGreatDoorZ3
import Derived.Test.YtilmldfbmmcchaaGreatDoorZ4
import Derived.Test.YtilmldfbmmcchaaGreatDoorZ5
set_option linter.unusedVariables false
set_option linter.unusedSimpArgs false
namespace Go.Proofs.YtilmldfbmmcchaaGreatDoor.PFnDecPowInt
open Go.RowKit Go.Proofs.YtilmldfbmmcchaaGreatDoorW.PrintWords Go.Proofs.YtilmldfbmmcchaaGreatDoorW.PrintLast Go.Proofs.YtilmldfbmmcchaaGreatDoorW.PrintMore
mutual
def spec_NatAdd.l0 : Nat → List Int → List Int → List Int → Int → Int → Option (List Int)
 | 0, _, _, _, _, _ => none
 | k + 1, x0, x1, x5, x6, x7 => if x7 < (x0.length : Int) then (spec_NatAdd.j1 k x0 x1 x5 x6 x7 true) else (if x7 < (x1.length : Int) then (spec_NatAdd.j1 k x0 x1 x5 x6 x7 true) else (spec_NatAdd.j1 k x0 x1 x5 x6 x7 (decide (x6 > 0))))
def spec_NatAdd.j1 : Nat → List Int → List Int → List Int → Int → Int → Bool → Option (List Int)
 | 0, _, _, _, _, _, _ => none
 | k + 1, x0, x1, x5, x6, x7, x21 => if x21 = true then (if x7 < (x0.length : Int) then (if 0 ≤ x7 then (if x7 < (x1.length : Int) then (if x5.length < 35184372088832 then (spec_NatAdd.l0 k x0 x1 (x5 ++ [((x6 + (rd x0 x7) + (rd x1 x7)) % 4294967296) % 1000000000]) (((x6 + (rd x0 x7) + (rd x1 x7)) % 4294967296) / 1000000000) (wrap64 (x7 + 1))) else (none)) else (if x5.length < 35184372088832 then (spec_NatAdd.l0 k x0 x1 (x5 ++ [((x6 + (rd x0 x7)) % 4294967296) % 1000000000]) (((x6 + (rd x0 x7)) % 4294967296) / 1000000000) (wrap64 (x7 + 1))) else (none))) else (none)) else (if x7 < (x1.length : Int) then (if 0 ≤ x7 then (if x5.length < 35184372088832 then (spec_NatAdd.l0 k x0 x1 (x5 ++ [((x6 + (rd x1 x7)) % 4294967296) % 1000000000]) (((x6 + (rd x1 x7)) % 4294967296) / 1000000000) (wrap64 (x7 + 1))) else (none)) else (none)) else (if x5.length < 35184372088832 then (spec_NatAdd.l0 k x0 x1 (x5 ++ [Int.tmod x6 1000000000]) ((Int.tdiv x6 1000000000) % 4294967296) (wrap64 (x7 + 1))) else (none)))) else (some x5)
end
def spec_NatAdd.f (k : Nat) (l0 : List Int) (l1 : List Int) : Option (List Int) := spec_NatAdd.l0 k l0 l1 ([] : List Int) 0 0
set_option maxHeartbeats 8000000 in
set_option maxRecDepth 100000 in
theorem spec_NatAdd.calls (k : Nat) (A0 : Option Addr) (c0 : Nat) (l0 : List Int) (A1 : Option Addr) (c1 : Nat) (l1 : List Int) (r : List Int) (w : World) (hr0 : Kd.C (Kd.int .u32) w A0 l0.length l0) (hc0 : l0.length ≤ c0) (hr1 : Kd.C (Kd.int .u32) w A1 l1.length l1) (hc1 : l1.length ≤ c1) (h : spec_NatAdd.f k l0 l1 = some r) :
  Calls Tryz.prog 49 #[.slice A0 l0.length c0, .slice A1 l1.length c1] w fun e w' => ∃ v0_ : Value, e = .returned (v0_) ∧ Kd.R (Kd.int .u32) 87 w' w.heap.size (fun _ => True) v0_ r ∧ Below w.heap.size w w' := by
 have HR0 := Aside0.mk hr0
 have HC0 := Aside0.mk hc0
 clear hr0 hc0
 have HR1 := Aside0.mk hr1
 have HC1 := Aside0.mk hc1
 clear hr1 hc1
 have HB := Aside0.mk (Below.refl w.heap.size w)
 have H : (spec_NatAdd.l0 k l0 l1 ([] : List Int) 0 0) = some r := h
 clear h
 have H' := Aside0.mk H
 clear H
 go_enter Tryz.func49, Tryz.ntmps49
 go_wp2
 go_loopg [5, 6, 7] k (fun kq v5 v6 v7 w' => ∃ (x5_1 : List Int) (x6_1 : Int) (x7_1 : Int), v6 = .int .u32 x6_1 ∧ v7 = .int .i64 x7_1 ∧ Aside0 (spec_NatAdd.l0 kq l0 l1 x5_1 x6_1 x7_1 = some r) ∧ Aside0 (kq ≤ k) ∧ Aside0 (Kd.R (Kd.int .u32) 87 w' w.heap.size (fun _ => True) v5 x5_1) ∧ Aside0 (Below w.heap.size w w'))
 case atStart => exact ⟨(([] : List Int)), (0), (0), (by first | rfl | (simp; done) | (simp [*]; done)), (by first | rfl | (simp; done) | (simp [*]; done)), H', ⟨Nat.le_refl _⟩, ⟨by first | exact Kd.R_nil _ _ _ _ _ | exact Kd.N_nil _ _ _ _ _ | exact Kd.V_nil _ _ _ _ _ | exact Kd.Q_nil _ _ _ _ _ | exact Kd.S_nil _ _ _ _ _⟩, ⟨by repeat (first | (with_reducible first | exact HB.out | apply below_alloc | apply pw_below_drewN | apply below_drew1) | exact HB.out)⟩⟩
 case round =>
  clear H'
  try clear c1
  try clear p2
  obtain ⟨x5_1, x6_1, x7_1, rfl, rfl, HA, HK1, HO_5, HB⟩ := hrel
  cases gk with
  | zero => exact absurd HA.out (by simp [spec_NatAdd.l0])
  | succ k1 =>
   have H := HA.out
   clear HA
   simp only [spec_NatAdd.l0] at H
   have HC3 := Aside0.mk H
   clear H
   go_upto_region 4 with (fail)
   go_cut [21] (fun v21 wc => ∃ (kq : Nat) (x21_2 : Bool), v21 = .bool x21_2 ∧ Aside0 (spec_NatAdd.j1 kq l0 l1 x5_1 x6_1 x7_1 x21_2 = some r) ∧ Aside0 (kq ≤ k1) ∧ Aside0 (Kd.R (Kd.int .u32) 87 wc w.heap.size (fun _ => True) u5 x5_1) ∧ Aside0 (Below w.heap.size w wc))
   case first =>
    have H := HC3.out
    clear HC3
    by_cases c4 : x7_1 < (l0.length : Int)
    ·rw [if_pos c4] at H
     have c4b0 : decide (x7_1 < (l0.length : Int)) = true := decide_eq_true c4
     clear c4
     (first | rw [c4b0] | (simp only [i64_w, i32_w]; rw [c4b0]) | skip)
     have H' := Aside0.mk H
     clear H
     go_wp2
     go_meet
     case rel => exact ⟨_, (true), (by first | rfl | (simp; done) | (simp [*]; done)), H', ⟨by have := HK1.out; first | omega | exact Nat.le_refl _⟩, ⟨by (with_reducible repeat (first | apply Kd.R_alloc | apply Kd.R_drewN | apply Kd.R_drew)); exact HO_5.out⟩, ⟨by repeat (first | (with_reducible first | exact HB.out | apply below_alloc | apply pw_below_drewN | apply below_drew1) | exact HB.out)⟩⟩
    ·rw [if_neg c4] at H
     have c4b0 : decide (x7_1 < (l0.length : Int)) = false := decide_eq_false c4
     clear c4
     (first | rw [c4b0] | (simp only [i64_w, i32_w]; rw [c4b0]) | skip)
     by_cases c5 : x7_1 < (l1.length : Int)
     ·rw [if_pos c5] at H
      have c5b0 : decide (x7_1 < (l1.length : Int)) = true := decide_eq_true c5
      clear c5
      have H' := Aside0.mk H
      clear H
      go_wp2
      go_meet
      case rel => exact ⟨_, (true), (by first | rfl | (simp; done) | (simp [*]; done)), H', ⟨by have := HK1.out; first | omega | exact Nat.le_refl _⟩, ⟨by (with_reducible repeat (first | apply Kd.R_alloc | apply Kd.R_drewN | apply Kd.R_drew)); exact HO_5.out⟩, ⟨by repeat (first | (with_reducible first | exact HB.out | apply below_alloc | apply pw_below_drewN | apply below_drew1) | exact HB.out)⟩⟩
     ·rw [if_neg c5] at H
      have c5b0 : decide (x7_1 < (l1.length : Int)) = false := decide_eq_false c5
      clear c5
      have H' := Aside0.mk H
      clear H
      go_wp2
      go_meet
      case rel => exact ⟨_, (decide (x6_1 > 0)), (by first | rfl | (simp; done) | (simp [*]; done)), H', ⟨by have := HK1.out; first | omega | exact Nat.le_refl _⟩, ⟨by (with_reducible repeat (first | apply Kd.R_alloc | apply Kd.R_drewN | apply Kd.R_drew)); exact HO_5.out⟩, ⟨by repeat (first | (with_reducible first | exact HB.out | apply below_alloc | apply pw_below_drewN | apply below_drew1) | exact HB.out)⟩⟩
   case rest =>
    clear HC3
    try clear c1
    try clear p2
    try clear c4
    try clear c4b0
    try clear c5
    try clear c5b0
    try clear p2
    obtain ⟨kq, x21_2, rfl, HA, HJ2, HO_5, HB⟩ := hcut
    cases kq with
    | zero => exact absurd HA.out (by simp [spec_NatAdd.j1])
    | succ kj2 =>
     have H := HA.out
     clear HA
     simp only [spec_NatAdd.j1] at H
     by_cases c6 : x21_2 = true
     ·subst c6
      have H1 : (if x7_1 < (l0.length : Int) then (if 0 ≤ x7_1 then (if x7_1 < (l1.length : Int) then (if x5_1.length < 35184372088832 then (spec_NatAdd.l0 kj2 l0 l1 (x5_1 ++ [((x6_1 + (rd l0 x7_1) + (rd l1 x7_1)) % 4294967296) % 1000000000]) (((x6_1 + (rd l0 x7_1) + (rd l1 x7_1)) % 4294967296) / 1000000000) (wrap64 (x7_1 + 1))) else (none)) else (if x5_1.length < 35184372088832 then (spec_NatAdd.l0 kj2 l0 l1 (x5_1 ++ [((x6_1 + (rd l0 x7_1)) % 4294967296) % 1000000000]) (((x6_1 + (rd l0 x7_1)) % 4294967296) / 1000000000) (wrap64 (x7_1 + 1))) else (none))) else (none)) else (if x7_1 < (l1.length : Int) then (if 0 ≤ x7_1 then (if x5_1.length < 35184372088832 then (spec_NatAdd.l0 kj2 l0 l1 (x5_1 ++ [((x6_1 + (rd l1 x7_1)) % 4294967296) % 1000000000]) (((x6_1 + (rd l1 x7_1)) % 4294967296) / 1000000000) (wrap64 (x7_1 + 1))) else (none)) else (none)) else (if x5_1.length < 35184372088832 then (spec_NatAdd.l0 kj2 l0 l1 (x5_1 ++ [Int.tmod x6_1 1000000000]) ((Int.tdiv x6_1 1000000000) % 4294967296) (wrap64 (x7_1 + 1))) else (none)))) = some r := by rw [if_pos rfl] at H; exact H
      clear H
      have H := H1
      clear H1
      by_cases c7 : x7_1 < (l0.length : Int)
      ·rw [if_pos c7] at H
       have c7b0 : decide (x7_1 < (l0.length : Int)) = true := decide_eq_true c7
       clear c7
       by_cases c8 : 0 ≤ x7_1
       ·rw [if_pos c8] at H
        have c8b0 : decide (0 ≤ x7_1) = true := decide_eq_true c8
        clear c8
        by_cases c9 : x7_1 < (l1.length : Int)
        ·rw [if_pos c9] at H
         have c9b0 : decide (x7_1 < (l1.length : Int)) = true := decide_eq_true c9
         clear c9
         by_cases c10 : x5_1.length < 35184372088832
         ·rw [if_pos c10] at H
          have LMc10 := Aside0.mk c10
          clear c10
          obtain ⟨y401, hy401⟩ : ∃ y_ : List Int, y_ = (x5_1 ++ [((x6_1 + (rd l0 x7_1) + (rd l1 x7_1)) % 4294967296) % 1000000000]) := ⟨_, rfl⟩
          replace H : (spec_NatAdd.l0 kj2 l0 l1 y401 (((x6_1 + (rd l0 x7_1) + (rd l1 x7_1)) % 4294967296) / 1000000000) (wrap64 (x7_1 + 1))) = some r := by first | (rw [hy401]; with_reducible exact H) | (have H2_ := (Option.bind_some _ _).symm.trans H; rw [hy401]; with_reducible exact H2_) | (have H2_ := (Option.bind_some _ _).symm.trans H; with_reducible exact H2_) | with_reducible exact H | (rw [hy401]; exact H) | exact H
          have Ny401 := Aside0.mk hy401
          clear hy401
          have H' := Aside0.mk H
          clear H
          have p399 : 0 ≤ (x7_1 : Int) := of_decide_eq_true (by first | (with_reducible assumption) | assumption)
          have q399 : x7_1 < (l0.length : Int) := of_decide_eq_true (by first | (with_reducible assumption) | assumption)
          obtain ⟨ad399, e399, hx399_0⟩ := Kd.at_int HR0.out x7_1 p399 q399
          cases e399
          replace hx399_0 := (HB.out.cell (World.block_lt_of_cell? w _ hx399_0)).trans hx399_0
          replace p399 := eq_true p399
          replace q399 := eq_true q399
          have p400 : 0 ≤ (x7_1 : Int) := of_decide_eq_true (by first | (with_reducible assumption) | assumption)
          have q400 : x7_1 < (l1.length : Int) := of_decide_eq_true (by first | (with_reducible assumption) | assumption)
          obtain ⟨ad400, e400, hx400_0⟩ := Kd.at_int HR1.out x7_1 p400 q400
          cases e400
          replace hx400_0 := (HB.out.cell (World.block_lt_of_cell? w _ hx400_0)).trans hx400_0
          replace p400 := eq_true p400
          replace q400 := eq_true q400
          go_wp2_with (first | ((with_reducible refine gate_builtin (b := .append) (xs := #[.tmp 44, .tmp 47]) rfl ?_); (try (refine gate_guard (by rfl) ?_; dsimp only)); at_builtin; refine Kd.R_append (Kd.int .u32) (w0 := w) w.heap.size rfl (.tmp 44) (.tmp 47) 26 87 (.int .u32 0) 4 rfl Tryz.underlying26 info87 rfl (by decide) (by omega) u5 x5_1 (((x6_1 + (rd l0 x7_1) + (rd l1 x7_1)) % 4294967296) % 1000000000) [.int .u32 (((x6_1 + (rd l0 x7_1) + (rd l1 x7_1)) % 4294967296) % 1000000000)] (fun _ => True) (fun _ => False) rfl rfl ?aP (fun _ hk => hk.elim) ?aF ?aO ?aB ?aS ?aL ?_; (case aP => exact rfl); (case aB => exact (by repeat (first | (with_reducible first | exact HB.out | apply below_alloc | apply pw_below_drewN | apply below_drew1) | exact HB.out))); (case aF => exact (fun _ _ => trivial)); (case aO => exact (by (with_reducible repeat (first | apply Kd.R_alloc | apply Kd.R_drewN | apply Kd.R_drew)); exact HO_5.out)); (case aS => exact (below_size (by repeat (first | (with_reducible first | exact HB.out | apply below_alloc | apply pw_below_drewN | apply below_drew1) | exact HB.out)))); (case aL => have := LMc10.out; omega); intro v402 w11 ho hb hg hat; rw [← Ny401.out] at ho; have n0_ := Aside0.mk (hb); have n1_ := Aside0.mk (ho); clear HB; clear HO_5; have HB := n0_; have HO403 := n1_; clear n0_ n1_; clear ho hb hg hat))
          go_roundg kj2
          case measure => have := HK1.out; have := HJ2.out; omega
          case rel => exact ⟨(y401), (((x6_1 + (rd l0 x7_1) + (rd l1 x7_1)) % 4294967296) / 1000000000), (wrap64 (x7_1 + 1)), (by first | rfl | (simp; done) | (simp [*]; done)), (by first | rfl | (simp; done) | (simp [*]; done)), H', ⟨by have := HK1.out; have := HJ2.out; omega⟩, ⟨by (with_reducible repeat (first | apply Kd.R_alloc | apply Kd.R_drewN | apply Kd.R_drew)); exact HO403.out⟩, ⟨by repeat (first | (with_reducible first | exact HB.out | apply below_alloc | apply pw_below_drewN | apply below_drew1) | exact HB.out)⟩⟩
         ·rw [if_neg c10] at H
          exact absurd H (by simp)
        ·rw [if_neg c9] at H
         have c9b0 : decide (x7_1 < (l1.length : Int)) = false := decide_eq_false c9
         clear c9
         by_cases c12 : x5_1.length < 35184372088832
         ·rw [if_pos c12] at H
          have LMc12 := Aside0.mk c12
          clear c12
          obtain ⟨y404, hy404⟩ : ∃ y_ : List Int, y_ = (x5_1 ++ [((x6_1 + (rd l0 x7_1)) % 4294967296) % 1000000000]) := ⟨_, rfl⟩
          replace H : (spec_NatAdd.l0 kj2 l0 l1 y404 (((x6_1 + (rd l0 x7_1)) % 4294967296) / 1000000000) (wrap64 (x7_1 + 1))) = some r := by first | (rw [hy404]; with_reducible exact H) | (have H2_ := (Option.bind_some _ _).symm.trans H; rw [hy404]; with_reducible exact H2_) | (have H2_ := (Option.bind_some _ _).symm.trans H; with_reducible exact H2_) | with_reducible exact H | (rw [hy404]; exact H) | exact H
          have Ny404 := Aside0.mk hy404
          clear hy404
          have H' := Aside0.mk H
          clear H
          have p399 : 0 ≤ (x7_1 : Int) := of_decide_eq_true (by first | (with_reducible assumption) | assumption)
          have q399 : x7_1 < (l0.length : Int) := of_decide_eq_true (by first | (with_reducible assumption) | assumption)
          obtain ⟨ad399, e399, hx399_0⟩ := Kd.at_int HR0.out x7_1 p399 q399
          cases e399
          replace hx399_0 := (HB.out.cell (World.block_lt_of_cell? w _ hx399_0)).trans hx399_0
          replace p399 := eq_true p399
          replace q399 := eq_true q399
          go_wp2_with (first | ((with_reducible refine gate_builtin (b := .append) (xs := #[.tmp 44, .tmp 47]) rfl ?_); (try (refine gate_guard (by rfl) ?_; dsimp only)); at_builtin; refine Kd.R_append (Kd.int .u32) (w0 := w) w.heap.size rfl (.tmp 44) (.tmp 47) 26 87 (.int .u32 0) 4 rfl Tryz.underlying26 info87 rfl (by decide) (by omega) u5 x5_1 (((x6_1 + (rd l0 x7_1)) % 4294967296) % 1000000000) [.int .u32 (((x6_1 + (rd l0 x7_1)) % 4294967296) % 1000000000)] (fun _ => True) (fun _ => False) rfl rfl ?aP (fun _ hk => hk.elim) ?aF ?aO ?aB ?aS ?aL ?_; (case aP => exact rfl); (case aB => exact (by repeat (first | (with_reducible first | exact HB.out | apply below_alloc | apply pw_below_drewN | apply below_drew1) | exact HB.out))); (case aF => exact (fun _ _ => trivial)); (case aO => exact (by (with_reducible repeat (first | apply Kd.R_alloc | apply Kd.R_drewN | apply Kd.R_drew)); exact HO_5.out)); (case aS => exact (below_size (by repeat (first | (with_reducible first | exact HB.out | apply below_alloc | apply pw_below_drewN | apply below_drew1) | exact HB.out)))); (case aL => have := LMc12.out; omega); intro v405 w13 ho hb hg hat; rw [← Ny404.out] at ho; have n0_ := Aside0.mk (hb); have n1_ := Aside0.mk (ho); clear HB; clear HO_5; have HB := n0_; have HO406 := n1_; clear n0_ n1_; clear ho hb hg hat))
          go_roundg kj2
          case measure => have := HK1.out; have := HJ2.out; omega
          case rel => exact ⟨(y404), (((x6_1 + (rd l0 x7_1)) % 4294967296) / 1000000000), (wrap64 (x7_1 + 1)), (by first | rfl | (simp; done) | (simp [*]; done)), (by first | rfl | (simp; done) | (simp [*]; done)), H', ⟨by have := HK1.out; have := HJ2.out; omega⟩, ⟨by (with_reducible repeat (first | apply Kd.R_alloc | apply Kd.R_drewN | apply Kd.R_drew)); exact HO406.out⟩, ⟨by repeat (first | (with_reducible first | exact HB.out | apply below_alloc | apply pw_below_drewN | apply below_drew1) | exact HB.out)⟩⟩
         ·rw [if_neg c12] at H
          exact absurd H (by simp)
       ·rw [if_neg c8] at H
        exact absurd H (by simp)
      ·rw [if_neg c7] at H
       have c7b0 : decide (x7_1 < (l0.length : Int)) = false := decide_eq_false c7
       clear c7
       by_cases c14 : x7_1 < (l1.length : Int)
       ·rw [if_pos c14] at H
        have c14b0 : decide (x7_1 < (l1.length : Int)) = true := decide_eq_true c14
        clear c14
        by_cases c15 : 0 ≤ x7_1
        ·rw [if_pos c15] at H
         have c15b0 : decide (0 ≤ x7_1) = true := decide_eq_true c15
         clear c15
         by_cases c16 : x5_1.length < 35184372088832
         ·rw [if_pos c16] at H
          have LMc16 := Aside0.mk c16
          clear c16
          obtain ⟨y408, hy408⟩ : ∃ y_ : List Int, y_ = (x5_1 ++ [((x6_1 + (rd l1 x7_1)) % 4294967296) % 1000000000]) := ⟨_, rfl⟩
          replace H : (spec_NatAdd.l0 kj2 l0 l1 y408 (((x6_1 + (rd l1 x7_1)) % 4294967296) / 1000000000) (wrap64 (x7_1 + 1))) = some r := by first | (rw [hy408]; with_reducible exact H) | (have H2_ := (Option.bind_some _ _).symm.trans H; rw [hy408]; with_reducible exact H2_) | (have H2_ := (Option.bind_some _ _).symm.trans H; with_reducible exact H2_) | with_reducible exact H | (rw [hy408]; exact H) | exact H
          have Ny408 := Aside0.mk hy408
          clear hy408
          have H' := Aside0.mk H
          clear H
          have p407 : 0 ≤ (x7_1 : Int) := of_decide_eq_true (by first | (with_reducible assumption) | assumption)
          have q407 : x7_1 < (l1.length : Int) := of_decide_eq_true (by first | (with_reducible assumption) | assumption)
          obtain ⟨ad407, e407, hx407_0⟩ := Kd.at_int HR1.out x7_1 p407 q407
          cases e407
          replace hx407_0 := (HB.out.cell (World.block_lt_of_cell? w _ hx407_0)).trans hx407_0
          replace p407 := eq_true p407
          replace q407 := eq_true q407
          go_wp2_with (first | ((with_reducible refine gate_builtin (b := .append) (xs := #[.tmp 44, .tmp 47]) rfl ?_); (try (refine gate_guard (by rfl) ?_; dsimp only)); at_builtin; refine Kd.R_append (Kd.int .u32) (w0 := w) w.heap.size rfl (.tmp 44) (.tmp 47) 26 87 (.int .u32 0) 4 rfl Tryz.underlying26 info87 rfl (by decide) (by omega) u5 x5_1 (((x6_1 + (rd l1 x7_1)) % 4294967296) % 1000000000) [.int .u32 (((x6_1 + (rd l1 x7_1)) % 4294967296) % 1000000000)] (fun _ => True) (fun _ => False) rfl rfl ?aP (fun _ hk => hk.elim) ?aF ?aO ?aB ?aS ?aL ?_; (case aP => exact rfl); (case aB => exact (by repeat (first | (with_reducible first | exact HB.out | apply below_alloc | apply pw_below_drewN | apply below_drew1) | exact HB.out))); (case aF => exact (fun _ _ => trivial)); (case aO => exact (by (with_reducible repeat (first | apply Kd.R_alloc | apply Kd.R_drewN | apply Kd.R_drew)); exact HO_5.out)); (case aS => exact (below_size (by repeat (first | (with_reducible first | exact HB.out | apply below_alloc | apply pw_below_drewN | apply below_drew1) | exact HB.out)))); (case aL => have := LMc16.out; omega); intro v409 w17 ho hb hg hat; rw [← Ny408.out] at ho; have n0_ := Aside0.mk (hb); have n1_ := Aside0.mk (ho); clear HB; clear HO_5; have HB := n0_; have HO410 := n1_; clear n0_ n1_; clear ho hb hg hat))
          go_roundg kj2
          case measure => have := HK1.out; have := HJ2.out; omega
          case rel => exact ⟨(y408), (((x6_1 + (rd l1 x7_1)) % 4294967296) / 1000000000), (wrap64 (x7_1 + 1)), (by first | rfl | (simp; done) | (simp [*]; done)), (by first | rfl | (simp; done) | (simp [*]; done)), H', ⟨by have := HK1.out; have := HJ2.out; omega⟩, ⟨by (with_reducible repeat (first | apply Kd.R_alloc | apply Kd.R_drewN | apply Kd.R_drew)); exact HO410.out⟩, ⟨by repeat (first | (with_reducible first | exact HB.out | apply below_alloc | apply pw_below_drewN | apply below_drew1) | exact HB.out)⟩⟩
         ·rw [if_neg c16] at H
          exact absurd H (by simp)
        ·rw [if_neg c15] at H
         exact absurd H (by simp)
       ·rw [if_neg c14] at H
        have c14b0 : decide (x7_1 < (l1.length : Int)) = false := decide_eq_false c14
        clear c14
        by_cases c18 : x5_1.length < 35184372088832
        ·rw [if_pos c18] at H
         have LMc18 := Aside0.mk c18
         clear c18
         obtain ⟨y411, hy411⟩ : ∃ y_ : List Int, y_ = (x5_1 ++ [Int.tmod x6_1 1000000000]) := ⟨_, rfl⟩
         replace H : (spec_NatAdd.l0 kj2 l0 l1 y411 ((Int.tdiv x6_1 1000000000) % 4294967296) (wrap64 (x7_1 + 1))) = some r := by first | (rw [hy411]; with_reducible exact H) | (have H2_ := (Option.bind_some _ _).symm.trans H; rw [hy411]; with_reducible exact H2_) | (have H2_ := (Option.bind_some _ _).symm.trans H; with_reducible exact H2_) | with_reducible exact H | (rw [hy411]; exact H) | exact H
         have Ny411 := Aside0.mk hy411
         clear hy411
         have H' := Aside0.mk H
         clear H
         go_wp2_with (first | ((with_reducible refine gate_builtin (b := .append) (xs := #[.tmp 44, .tmp 47]) rfl ?_); (try (refine gate_guard (by rfl) ?_; dsimp only)); at_builtin; refine Kd.R_append (Kd.int .u32) (w0 := w) w.heap.size rfl (.tmp 44) (.tmp 47) 26 87 (.int .u32 0) 4 rfl Tryz.underlying26 info87 rfl (by decide) (by omega) u5 x5_1 (Int.tmod x6_1 1000000000) [.int .u32 (Int.tmod x6_1 1000000000)] (fun _ => True) (fun _ => False) rfl rfl ?aP (fun _ hk => hk.elim) ?aF ?aO ?aB ?aS ?aL ?_; (case aP => exact rfl); (case aB => exact (by repeat (first | (with_reducible first | exact HB.out | apply below_alloc | apply pw_below_drewN | apply below_drew1) | exact HB.out))); (case aF => exact (fun _ _ => trivial)); (case aO => exact (by (with_reducible repeat (first | apply Kd.R_alloc | apply Kd.R_drewN | apply Kd.R_drew)); exact HO_5.out)); (case aS => exact (below_size (by repeat (first | (with_reducible first | exact HB.out | apply below_alloc | apply pw_below_drewN | apply below_drew1) | exact HB.out)))); (case aL => have := LMc18.out; omega); intro v412 w19 ho hb hg hat; rw [← Ny411.out] at ho; have n0_ := Aside0.mk (hb); have n1_ := Aside0.mk (ho); clear HB; clear HO_5; have HB := n0_; have HO413 := n1_; clear n0_ n1_; clear ho hb hg hat))
         go_roundg kj2
         case measure => have := HK1.out; have := HJ2.out; omega
         case rel => exact ⟨(y411), ((Int.tdiv x6_1 1000000000) % 4294967296), (wrap64 (x7_1 + 1)), (by first | rfl | (simp; done) | (simp [*]; done)), (by first | rfl | (simp; done) | (simp [*]; done)), H', ⟨by have := HK1.out; have := HJ2.out; omega⟩, ⟨by (with_reducible repeat (first | apply Kd.R_alloc | apply Kd.R_drewN | apply Kd.R_drew)); exact HO413.out⟩, ⟨by repeat (first | (with_reducible first | exact HB.out | apply below_alloc | apply pw_below_drewN | apply below_drew1) | exact HB.out)⟩⟩
        ·rw [if_neg c18] at H
         exact absurd H (by simp)
     ·replace c6 := Bool.eq_false_iff.mpr c6
      subst c6
      have H1 : (some x5_1) = some r := by rw [if_neg (show ¬ (false = true) by decide)] at H; exact H
      clear H
      have H := H1
      clear H1
      obtain rfl := Option.some.inj H
      go_wp2
      go_ret
      exact ⟨_, by first | rfl | (simp [errW_none, errW_some] <;> rfl) | (simp [*, errW_none, errW_some] <;> rfl), by (with_reducible repeat (first | apply Kd.R_alloc | apply Kd.R_drewN | apply Kd.R_drew)); exact HO_5.out, by repeat (first | (with_reducible first | exact HB.out | apply below_alloc | apply pw_below_drewN | apply below_drew1) | exact HB.out)⟩
def spec_Nat_Digits.f (k : Nat) (l0 : List Int) : Option (Int) := if (l0.length : Int) = 0 then (some 0) else ((spec_Nat_String.f k l0).bind fun t453 => (some (t453.size : Int)))
set_option maxHeartbeats 8000000 in
set_option maxRecDepth 100000 in
theorem spec_Nat_Digits.calls (k : Nat) (A0 : Option Addr) (c0 : Nat) (l0 : List Int) (r : Int) (w : World) (hr0 : Kd.C (Kd.int .u32) w A0 l0.length l0) (hc0 : l0.length ≤ c0) (h : spec_Nat_Digits.f k l0 = some r) :
  Calls Tryz.prog 51 #[.slice A0 l0.length c0] w fun e w' => e = .returned (.int .i64 r) ∧ Below w.heap.size w w' := by
 have HR0 := Aside0.mk hr0
 have HC0 := Aside0.mk hc0
 clear hr0 hc0
 have HB := Aside0.mk (Below.refl w.heap.size w)
 have H : (if (l0.length : Int) = 0 then (some 0) else ((spec_Nat_String.f k l0).bind fun t453 => (some (t453.size : Int)))) = some r := h
 clear h
 by_cases c2 : (l0.length : Int) = 0
 ·rw [if_pos c2] at H
  have c2b0 : ((l0.length : Int) == 0) = true := beq_iff_eq.mpr c2
  have c2b1 : ((l0.length : Int) != 0) = false := bne_eq_false_iff_eq.mpr c2
  clear c2
  obtain rfl := Option.some.inj H
  go_enter Tryz.func51, Tryz.ntmps51
  go_wp2
  go_ret
  exact ⟨by first | rfl | (simp [errW_none, errW_some] <;> rfl) | (simp [*, errW_none, errW_some] <;> rfl), by repeat (first | (with_reducible first | exact HB.out | apply below_alloc | apply pw_below_drewN | apply below_drew1) | exact HB.out)⟩
 ·rw [if_neg c2] at H
  have c2b0 : ((l0.length : Int) == 0) = false := beq_eq_false_iff_ne.mpr c2
  have c2b1 : ((l0.length : Int) != 0) = true := bne_iff_ne.mpr c2
  have c2b2 : ¬ (l0 = []) := fun h_ => c2 (by rw [h_]; rfl)
  replace H := Option.bind_eq_some_iff.mp H
  obtain ⟨t453, A30, H⟩ := H
  replace H : (some (t453.size : Int)) = some r := H
  have A3 := Aside0.mk A30
  clear A30
  obtain rfl := Option.some.inj H
  go_enter Tryz.func51, Tryz.ntmps51
  go_wp2_with (first | ((with_reducible refine gate_callee (f := 61) rfl ?_); refine goesL_ (some 7) rfl rfl Tryz.func61 (by kernel_rfl) rfl #[.slice A0 l0.length c0] rfl (by (try simp only [List.map_toArray, List.map_cons, List.map_nil]); first | done | rfl | (simp only [List.length_drop, List.length_take]; rfl)) ?_; (with_reducible refine (spec_Nat_String.calls k _ _ l0 t453 _ ?side1 ?side2 A3.out).mono ?_); (case side1 => repeat (first | exact HR0.out | (with_reducible refine Kd.C_alloc ?_ _) | (with_reducible refine Kd.C_drewN ?_ _) | (with_reducible refine Kd.C_drew ?_))); (case side2 => exact HC0.out); rintro e w4 ⟨rfl, hb⟩; refine ⟨_, rfl, ?_⟩; have n0_ := Aside0.mk (below_step (by repeat (first | (with_reducible first | exact HB.out | apply below_alloc | apply pw_below_drewN | apply below_drew1) | exact HB.out)) hb); clear HB; have HB := n0_; clear n0_; (try clear hb); (try clear hb2); (try clear hk); (try clear hi)))
  go_ret
  exact ⟨by first | rfl | (simp [errW_none, errW_some] <;> rfl) | (simp [*, errW_none, errW_some] <;> rfl), by repeat (first | (with_reducible first | exact HB.out | apply below_alloc | apply pw_below_drewN | apply below_drew1) | exact HB.out)⟩
theorem rd_out (l : List Int) (i : Nat) (h : l.length ≤ i) : rd l (i : Int) = 0 := by
 simp only [rd, Int.toNat_natCast, List.getD_eq_getElem?_getD]
 rw [List.getElem?_eq_none h]; rfl
theorem val_drop (l : List Int) (i : Nat) : val (l.drop i) = rd l (i : Int) + 1000000000 * val (l.drop (i + 1)) := by
 by_cases h : i < l.length
 ·rw [drop_rd l i h]; rfl
 ·rw [rd_out l i (by omega), List.drop_of_length_le (by omega), List.drop_of_length_le (by omega)]; rfl
theorem val_take_drop (l : List Int) (i : Nat) (h : i ≤ l.length) : val l = val (l.take i) + P9 i * val (l.drop i) := by
 conv => lhs; rw [← List.take_append_drop i l, val_append, List.length_take, Nat.min_eq_left h]
theorem P9_cast (k : Nat) : P9 k = ((1000000000 ^ k : Nat) : Int) := by unfold P9; rw [Int.natCast_pow]; rfl
theorem limbs_of_len {l : List Int} (h : Lm l) (n : Nat) (hl : l.length = n) (hv : n = 0 ∨ P9 (n - 1) ≤ val l) : limbs (val l).toNat = l := by
 refine limbs_val h fun hne => ?_
 intro h0
 have hp : 0 < l.length := List.length_pos_iff.2 hne
 obtain ⟨m, hm⟩ : ∃ m, l.length = m + 1 := ⟨l.length - 1, by omega⟩
 have hlast : rd l (m : Int) = l.getLast hne := by
  simp only [rd, Int.toNat_natCast, List.getD_eq_getElem?_getD]
  rw [List.getLast_eq_getElem, List.getElem?_eq_getElem (by omega)]
  simp only [Option.getD_some]
  congr 1; omega
 have e := val_take_drop l m (by omega)
 rw [val_drop l m, hlast, h0, List.drop_of_length_le (by omega)] at e
 have e2 : val l = val (l.take m) := by rw [e]; simp [val]
 have h2 := val_lt (h.take m)
 rw [List.length_take, Nat.min_eq_left (by omega)] at h2
 rcases hv with hv | hv
 ·omega
 ·rw [← hl, hm, Nat.add_sub_cancel] at hv
  omega
theorem ten_le {i : Nat} (h : i ≤ 8) : ((10 ^ i : Nat) : Int) ≤ 100000000 := by
 have : (10 : Nat) ^ i ≤ 10 ^ 8 := Nat.pow_le_pow_right (by omega) h
 rw [show (10 : Nat) ^ 8 = 100000000 from rfl] at this
 omega
theorem ten_step {i : Nat} (h : i ≤ 7) : (((10 ^ i : Nat) : Int) * 10) % 4294967296 = ((10 ^ (i + 1) : Nat) : Int) := by
 have := ten_le (i := i) (by omega)
 rw [Nat.pow_succ]
 omega
theorem pow10_l (n : Nat) (hn : n ≤ 9000) (L : List Int) (hL : L.length = n / 9 + 1) (d : Nat) : ∀ i : Nat, i + d = n % 9 → Ev (fun k => spec_Pow10.l0 k (n : Int) L ((10 ^ i : Nat) : Int) i) (L.set (n / 9) ((10 ^ (n % 9) : Nat) : Int)) := by
 have e0 : Int.tmod (n : Int) 9 = ((n % 9 : Nat) : Int) := by rw [Int.tmod_eq_emod_of_nonneg (by omega)]; omega
 have e1 : wrap64 (Int.tdiv (n : Int) 9) = ((n / 9 : Nat) : Int) := by rw [Int.tdiv_eq_ediv_of_nonneg (by omega), wrap64_small (by omega) (by omega)]; omega
 induction d with
 | zero =>
  intro i hi
  obtain rfl : i = n % 9 := by omega
  refine Ev.step (f := fun _ => some (L.set (n / 9) ((10 ^ (n % 9) : Nat) : Int))) (fun k => ?_) (Ev.now _)
  rw [spec_Pow10.l0, e0, if_neg (by omega), e1, if_pos (by omega), if_pos (by omega), Int.toNat_natCast]
 | succ d ih =>
  intro i hi
  refine Ev.step (fun k => ?_) (ih (i + 1) (by omega))
  rw [spec_Pow10.l0, e0, if_pos (by omega), ten_step (by omega), w64_one i (by omega)]
theorem pow10N (n : Nat) (hn : n ≤ 9000) : Ev (fun k => spec_Pow10.f k (n : Int)) (limbs (10 ^ n)) := by
 have e1 : wrap64 (Int.tdiv (n : Int) 9) = ((n / 9 : Nat) : Int) := by rw [Int.tdiv_eq_ediv_of_nonneg (by omega), wrap64_small (by omega) (by omega)]; omega
 have h := pow10_l n hn (List.replicate (n / 9 + 1) 0) (by rw [List.length_replicate]) (n % 9) 0 (by omega)
 have hb := ten_le (i := n % 9) (by omega)
 have hp : 0 < (10 : Nat) ^ (n % 9) := Nat.pow_pos (by omega)
 have hL : Lm ((List.replicate (n / 9 + 1) 0).set (n / 9) ((10 ^ (n % 9) : Nat) : Int)) := (Lm.zeros _).set _ (by omega) (by omega)
 have hv := val_set (List.replicate (n / 9 + 1) 0) (n / 9) ((10 ^ (n % 9) : Nat) : Int) (by rw [List.length_replicate]; omega)
 rw [val_zeros, rd_zeros, Int.zero_add, Int.sub_zero, P9_cast, ← Int.natCast_mul] at hv
 have e : 1000000000 ^ (n / 9) * 10 ^ (n % 9) = 10 ^ n := by
  rw [show (1000000000 : Nat) = 10 ^ 9 from rfl, ← Nat.pow_mul, ← Nat.pow_add, Nat.div_add_mod]
 rw [e] at hv
 have hlim := limbs_of_len hL (n / 9 + 1) (by rw [List.length_set, List.length_replicate]) (.inr (by
  rw [hv, Nat.add_sub_cancel, P9_cast, ← e]
  exact Int.ofNat_le.2 (Nat.le_mul_of_pos_right _ hp)))
 rw [hv, Int.toNat_natCast] at hlim
 rw [hlim]
 refine Ev.congr (fun k => ?_) h
 rw [spec_Pow10.f, if_neg (by omega), e1, w64_one (n / 9) (by omega), if_pos (by omega), Int.toNat_natCast, if_pos (by omega)]
 rfl
theorem from_l (x : Nat) : ∀ L : List Int, x < 18446744073709551616 → L.length + (limbs x).length ≤ 1000 → Ev (fun k => spec_NatFrom.l0 k (x : Int) L) (L ++ limbs x) := by
 induction x using Nat.strongRecOn with
 | _ x ih =>
  intro L hx hl
  by_cases h0 : x = 0
  ·subst h0
   rw [limbs_zero, List.append_nil]
   refine Ev.step (f := fun _ => some L) (fun k => ?_) (Ev.now _)
   rw [spec_NatFrom.l0, if_neg (by simp)]
  ·have hlp := limbs_pos h0
   rw [hlp] at hl ⊢
   rw [List.length_cons] at hl
   have h := ih (x / 1000000000) (by omega) (L ++ [((x % 1000000000 : Nat) : Int)]) (by omega) (by rw [List.length_append, List.length_singleton]; omega)
   rw [List.append_assoc] at h
   refine Ev.step (fun k => ?_) h
   have e1 : IntKind.u64.wrap (Int.tdiv (x : Int) 1000000000) = ((x / 1000000000 : Nat) : Int) := by rw [Int.tdiv_eq_ediv_of_nonneg (by omega), u64_small (by omega) (by omega)]; omega
   have e2 : Int.tmod (x : Int) 1000000000 % 4294967296 = ((x % 1000000000 : Nat) : Int) := by rw [Int.tmod_eq_emod_of_nonneg (by omega)]; omega
   rw [spec_NatFrom.l0, if_pos (by omega), if_pos (by omega), e1, e2]
theorem fromN (x : Nat) (hx : x < 18446744073709551616) : Ev (fun k => spec_NatFrom.f k (x : Int)) (limbs x) := by
 have hl : (limbs x).length ≤ 3 := limbs_length_le x 3 (Nat.lt_trans hx (by decide))
 have h := from_l x [] hx (by simp; omega)
 rw [List.nil_append] at h
 exact h
theorem pow_l (a n : Nat) (ha : ∀ j, j ≤ n → a ^ j < 1000000000 ^ 50000) (d : Nat) : ∀ j : Nat, j + d = n → n ≤ 100000 → Ev (fun k => spec_NatPow.l0 k (limbs a) ((d : Nat) : Int) (limbs (a ^ j))) (limbs (a ^ n)) := by
 induction d with
 | zero =>
  intro j hj _
  obtain rfl : j = n := by omega
  refine Ev.step (f := fun _ => some (limbs (a ^ j))) (fun k => ?_) (Ev.now _)
  rw [spec_NatPow.l0, if_neg (by simp)]
 | succ d ih =>
  intro j hj hn
  have h1 : a < 1000000000 ^ 50000 := by have := ha 1 (by omega); rwa [Nat.pow_one] at this
  have M := mulN (a ^ j) a (ha j (by omega)) h1
  rw [← Nat.pow_succ] at M
  have e : wrap64 (((d + 1 : Nat) : Int) - 1) = (d : Int) := by rw [wrap64_small (by omega) (by omega)]; omega
  refine Ev.step (f := fun k => (spec_NatMul.f k (limbs (a ^ j)) (limbs a)).bind fun t => spec_NatPow.l0 k (limbs a) (d : Int) t) (fun k => ?_) (Ev.bind M (ih (j + 1) (by omega) hn))
  rw [spec_NatPow.l0, if_pos (by omega), e]
theorem powN (a n : Nat) (hn : n ≤ 100000) (ha : ∀ j, j ≤ n → a ^ j < 1000000000 ^ 50000) : Ev (fun k => spec_NatPow.f k (limbs a) (n : Int)) (limbs (a ^ n)) := by
 have h := pow_l a n ha n 0 (by omega) hn
 have h1 : limbs (a ^ 0) = limbs 1 := by rw [Nat.pow_zero]
 rw [h1] at h
 exact Ev.bind (f := fun k t => spec_NatPow.l0 k (limbs a) (n : Int) t) (fromN 1 (by decide)) h
def cmp3 (a b : Nat) : Int := if a < b then -1 else if a = b then 0 else 1
theorem limbs_len_lt {a b : Nat} (h : (limbs a).length < (limbs b).length) : a < b := by
 refine Nat.lt_of_not_le fun hle => ?_
 have h1 := val_lt (limbs_lm a)
 rw [val_limbs, P9_cast] at h1
 have h2 := limbs_length_le b (limbs a).length (Nat.lt_of_le_of_lt hle (Int.ofNat_lt.1 h1))
 omega
theorem cmp_step {p a b x y R : Int} (ha0 : 0 ≤ a) (ha : a < p) (hb0 : 0 ≤ b) (hb : b < p) (hxy : x < y) : a + p * (x + 1000000000 * R) < b + p * (y + 1000000000 * R) := by
 have h1 : p * (x + 1) ≤ p * y := Int.mul_le_mul_of_nonneg_left (by omega) (by omega)
 have e1 : p * (x + 1000000000 * R) = p * (x + 1) - p + p * (1000000000 * R) := by grind
 have e2 : p * (y + 1000000000 * R) = p * y + p * (1000000000 * R) := by grind
 rw [e1, e2]
 omega
theorem cmp_l (l0 l1 : List Int) (h0 : Lm l0) (h1 : Lm l1) (n : Nat) (e0 : l0.length = n) (e1 : l1.length = n) (hn : n ≤ 1000000) (j : Nat) : j ≤ n → l0.drop j = l1.drop j →
  Ev (fun k => spec_NatCmp.l0 k l0 l1 ((j : Int) - 1)) (cmp3 (val l0).toNat (val l1).toNat) := by
 induction j with
 | zero =>
  intro _ he
  rw [List.drop_zero, List.drop_zero] at he
  subst he
  rw [cmp3, if_neg (by omega), if_pos rfl]
  refine Ev.step (f := fun _ => some 0) (fun k => ?_) (Ev.now _)
  rw [spec_NatCmp.l0, if_neg (by simp)]
 | succ j ih =>
  intro hj he
  have ej : ((j + 1 : Nat) : Int) - 1 = (j : Int) := by omega
  have ew : wrap64 ((j : Int) - 1) = (j : Int) - 1 := wrap64_small (by omega) (by omega)
  by_cases hx : rd l0 (j : Int) = rd l1 (j : Int)
  ·have hd : l0.drop j = l1.drop j := by rw [drop_rd l0 j (by omega), drop_rd l1 j (by omega), hx, he]
   refine Ev.step (fun k => ?_) (ih (by omega) hd)
   rw [ej, spec_NatCmp.l0, if_pos (by omega), if_pos (by omega), if_pos (by omega), if_pos (by omega), if_pos hx, ew]
  ·have v0 := val_take_drop l0 j (by omega)
   have v1 := val_take_drop l1 j (by omega)
   rw [val_drop] at v0 v1
   rw [he] at v0
   have t0 := val_lt (h0.take j)
   have t1 := val_lt (h1.take j)
   have p0 := val_nonneg (h0.take j)
   have p1 := val_nonneg (h1.take j)
   rw [List.length_take, Nat.min_eq_left (by omega)] at t0 t1
   have n0 := val_nonneg h0
   have n1 := val_nonneg h1
   by_cases hlt : rd l0 (j : Int) < rd l1 (j : Int)
   ·have hc := cmp_step (R := val (l1.drop (j + 1))) p0 t0 p1 t1 hlt
    rw [← v0, ← v1] at hc
    rw [cmp3, if_pos (by omega)]
    refine Ev.step (f := fun _ => some (-1)) (fun k => ?_) (Ev.now _)
    rw [ej, spec_NatCmp.l0, if_pos (by omega), if_pos (by omega), if_pos (by omega), if_pos (by omega), if_neg hx, if_pos hlt]
   ·have hc := cmp_step (R := val (l1.drop (j + 1))) p1 t1 p0 t0 (show rd l1 (j : Int) < rd l0 (j : Int) by omega)
    rw [← v0, ← v1] at hc
    rw [cmp3, if_neg (by omega), if_neg (by omega)]
    refine Ev.step (f := fun _ => some 1) (fun k => ?_) (Ev.now _)
    rw [ej, spec_NatCmp.l0, if_pos (by omega), if_pos (by omega), if_pos (by omega), if_pos (by omega), if_neg hx, if_neg hlt]
theorem cmpN (a b : Nat) (ha : a < 1000000000 ^ 100000) : Ev (fun k => spec_NatCmp.f k (limbs a) (limbs b)) (cmp3 a b) := by
 have hl := limbs_length_le a 100000 ha
 by_cases he : (limbs a).length = (limbs b).length
 ·have ew : wrap64 (((limbs a).length : Int) - 1) = ((limbs a).length : Int) - 1 := wrap64_small (by omega) (by omega)
  have h := cmp_l (limbs a) (limbs b) (limbs_lm a) (limbs_lm b) (limbs a).length rfl he.symm (by omega) (limbs a).length (Nat.le_refl _) (by rw [List.drop_length, he, List.drop_length])
  rw [val_limbs, val_limbs, Int.toNat_natCast, Int.toNat_natCast] at h
  refine Ev.congr (fun k => ?_) h
  rw [spec_NatCmp.f, if_pos (by rw [he]), ew]
 ·by_cases hlt : (limbs a).length < (limbs b).length
  ·rw [cmp3, if_pos (limbs_len_lt hlt)]
   refine Ev.congr (f := fun _ => some (-1)) (fun k => ?_) (Ev.now _)
   rw [spec_NatCmp.f, if_neg (by omega), if_pos (by omega)]
  ·have := limbs_len_lt (a := b) (b := a) (by omega)
   rw [cmp3, if_neg (by omega), if_neg (by omega)]
   refine Ev.congr (f := fun _ => some 1) (fun k => ?_) (Ev.now _)
   rw [spec_NatCmp.f, if_neg (by omega), if_neg (by omega)]
theorem limbs_drop (i : Nat) : ∀ n : Nat, (limbs n).drop i = limbs (n / 1000000000 ^ i) := by
 induction i with
 | zero => intro n; simp
 | succ i ih =>
  intro n
  by_cases h : n = 0
  ·subst h; rw [limbs_zero]; simp [limbs_zero]
  ·rw [limbs_pos h, List.drop_succ_cons, ih, Nat.div_div_eq_div_mul, Nat.pow_succ, Nat.mul_comm]
theorem drop_pos {n i : Nat} (h : i < (limbs n).length) : 1 ≤ val ((limbs n).drop i) := by
 rw [limbs_drop, val_limbs]
 have hne : limbs (n / 1000000000 ^ i) ≠ [] := by
  rw [← limbs_drop]
  intro e
  have := congrArg List.length e
  rw [List.length_drop, List.length_nil] at this
  exact absurd this (Nat.sub_ne_zero_of_lt h)
 have : n / 1000000000 ^ i ≠ 0 := fun e => hne (by rw [e]; exact limbs_zero)
 exact Int.ofNat_le.2 (Nat.pos_of_ne_zero this)
theorem add_inv {v p c x y A B t s : Int} (h : v + p * (c + (x + 1000000000 * A) + (y + 1000000000 * B)) = t) (hs : s = c + x + y) : (v + p * (s % 1000000000)) + p * 1000000000 * (s / 1000000000 + A + B) = t := by
 have e : s = 1000000000 * (s / 1000000000) + s % 1000000000 := by omega
 rw [← h, show c + (x + 1000000000 * A) + (y + 1000000000 * B) = s + 1000000000 * (A + B) by omega]
 conv => rhs; rw [e]
 grind
theorem add_low {v p R t : Int} (h : v + p * R = t) (hv : 0 ≤ v) (hp : 0 < p) (hR : 1 ≤ R) : p ≤ t := by
 have : p * 1 ≤ p * R := Int.mul_le_mul_of_nonneg_left hR (by omega)
 omega
theorem add_dig {c x y s : Int} (hc : c = 0 ∨ c = 1) (hx0 : 0 ≤ x) (hx : x < 1000000000) (hy0 : 0 ≤ y) (hy : y < 1000000000) (hs : s = c + x + y) :
  0 ≤ s % 1000000000 ∧ s % 1000000000 < 1000000000 ∧ (s / 1000000000 = 0 ∨ s / 1000000000 = 1) ∧ (c + x + y) % 4294967296 = s ∧ (y = 0 → (c + x) % 4294967296 = s) ∧ (x = 0 → (c + y) % 4294967296 = s) ∧ (x = 0 → y = 0 → Int.tmod c 1000000000 = s % 1000000000 ∧ Int.tdiv c 1000000000 % 4294967296 = s / 1000000000) := by
 refine ⟨by omega, by omega, by omega, by omega, fun _ => by omega, fun _ => by omega, fun _ _ => ?_⟩
 rw [Int.tmod_eq_emod_of_nonneg (by omega), Int.tdiv_eq_ediv_of_nonneg (by omega)]
 constructor <;> omega
set_option maxRecDepth 10000 in
theorem add_l (a b : Nat) (M : Nat) (hMa : (limbs a).length ≤ M) (hMb : (limbs b).length ≤ M) (hMx : M = (limbs a).length ∨ M = (limbs b).length) (hM : M ≤ 1000000) (d : Nat) : ∀ (i : Nat) (out : List Int) (c : Int), i + d = M + 1 → Lm out → out.length = i → (c = 0 ∨ c = 1) → (i = M + 1 → c = 0) →
  val out + P9 i * (c + val ((limbs a).drop i) + val ((limbs b).drop i)) = ((a + b : Nat) : Int) → (i = 0 ∨ P9 (i - 1) ≤ ((a + b : Nat) : Int)) →
  Ev (fun k => spec_NatAdd.l0 k (limbs a) (limbs b) out c i) (limbs (a + b)) := by
 have hstop : ∀ (i : Nat) (out : List Int), (limbs a).length ≤ i → (limbs b).length ≤ i → Lm out → out.length = i → val out + P9 i * (0 + val ((limbs a).drop i) + val ((limbs b).drop i)) = ((a + b : Nat) : Int) → (i = 0 ∨ P9 (i - 1) ≤ ((a + b : Nat) : Int)) → Ev (fun k => spec_NatAdd.l0 k (limbs a) (limbs b) out 0 i) (limbs (a + b)) := by
  intro i out h1 h2 hO hl hinv hlow
  rw [List.drop_of_length_le h1, List.drop_of_length_le h2] at hinv
  have hv : val out = ((a + b : Nat) : Int) := by simp only [val] at hinv; rw [← hinv]; simp
  have hlim := limbs_of_len hO i hl (by rw [hv]; exact hlow)
  rw [hv, Int.toNat_natCast] at hlim
  rw [hlim]
  refine Ev.step (f := fun k => spec_NatAdd.j1 k (limbs a) (limbs b) out 0 (i : Int) false) (fun k => ?_) (Ev.step (f := fun _ => some out) (fun k => ?_) (Ev.now _))
  ·rw [spec_NatAdd.l0, if_neg (by omega), if_neg (by omega)]; rfl
  ·rw [spec_NatAdd.j1, if_neg (by simp)]
 induction d with
 | zero =>
  intro i out c hi hO hl hc hcM
  obtain rfl : c = 0 := hcM (by omega)
  exact hstop i out (by omega) (by omega) hO hl
 | succ d ih =>
  intro i out c hi hO hl hc hcM
  have a1 : i ≤ 1000000 := by omega
  have a2 : out.length < 35184372088832 := by omega
  have a3 : i + 1 + d = M + 1 := by omega
  have a4 : i + 1 = M + 1 → (limbs a).length ≤ i ∧ (limbs b).length ≤ i := fun _ => by omega
  have a5 : i < M → i < (limbs a).length ∨ i < (limbs b).length := fun _ => by omega
  have a6 : ¬ i < M → (limbs a).length ≤ i ∧ (limbs b).length ≤ i := fun _ => by omega
  clear hi hcM hMa hMb hMx hM
  intro hinv hlow
  by_cases hgo : i < M ∨ c = 1
  ·have hx := (limbs_lm a).at_ i
   have hy := (limbs_lm b).at_ i
   have hxo := rd_out (limbs a) i
   have hyo := rd_out (limbs b) i
   have da := val_drop (limbs a) i
   have db := val_drop (limbs b) i
   obtain ⟨x, hxv⟩ : ∃ x, rd (limbs a) (i : Int) = x := ⟨_, rfl⟩
   obtain ⟨y, hyv⟩ : ∃ y, rd (limbs b) (i : Int) = y := ⟨_, rfl⟩
   rw [hxv] at hx hxo da
   rw [hyv] at hy hyo db
   obtain ⟨s, hs⟩ : ∃ s, s = c + x + y := ⟨_, rfl⟩
   obtain ⟨g1, g2, g3, g4, g5, g6, g7⟩ := add_dig hc hx.1 hx.2 hy.1 hy.2 hs
   have hR : 1 ≤ c + val ((limbs a).drop i) + val ((limbs b).drop i) := by
    have n0 := val_nonneg ((limbs_lm a).drop i)
    have n1 := val_nonneg ((limbs_lm b).drop i)
    rcases hgo with h | h
    ·rcases a5 h with e | e
     ·have := drop_pos (n := a) (i := i) e; clear hinv hlow; omega
     ·have := drop_pos (n := b) (i := i) e; clear hinv hlow; omega
    ·clear hinv hlow; omega
   have hlow' := add_low hinv (val_nonneg hO) (P9_pos i) hR
   rw [da, db] at hinv
   have hinv' := add_inv hinv hs
   have hO' : Lm (out ++ [s % 1000000000]) := hO.append (Lm.cons g1 g2 Lm.nil)
   have hv' : val (out ++ [s % 1000000000]) = val out + P9 i * (s % 1000000000) := by rw [val_append, hl]; simp [val]
   rw [← hv', ← P9_succ] at hinv'
   have hcM' : i + 1 = M + 1 → s / 1000000000 = 0 := by
    intro e
    have hx0 := hxo (a4 e).1
    have hy0 := hyo (a4 e).2
    rw [hs, hx0, hy0]
    rcases hc with h | h <;> rw [h] <;> decide
   have IH := ih (i + 1) (out ++ [s % 1000000000]) (s / 1000000000) a3 hO' (by rw [List.length_append, hl]; rfl) g3 hcM' hinv' (.inr (by rw [Nat.add_sub_cancel]; exact hlow'))
   have ew := w64_one i a1
   clear hinv hinv' hlow hlow' ih hstop da db hR hO' hv' hcM'
   refine Ev.step (f := fun k => spec_NatAdd.j1 k (limbs a) (limbs b) out c (i : Int) true) (fun k => ?_) (Ev.step (fun k => ?_) IH)
   ·rw [spec_NatAdd.l0]
    by_cases h1 : (i : Int) < ((limbs a).length : Int)
    ·rw [if_pos h1]
    ·rw [if_neg h1]
     by_cases h2 : (i : Int) < ((limbs b).length : Int)
     ·rw [if_pos h2]
     ·rw [if_neg h2]
      have : c = 1 := by
       rcases hgo with h | h
       ·rcases a5 h with e | e
        ·exact absurd (Int.ofNat_lt.2 e) h1
        ·exact absurd (Int.ofNat_lt.2 e) h2
       ·exact h
      rw [this]; rfl
   ·rw [spec_NatAdd.j1, if_pos rfl, ew, hxv, hyv]
    by_cases h1 : (i : Int) < ((limbs a).length : Int)
    ·rw [if_pos h1, if_pos (Int.natCast_nonneg _)]
     by_cases h2 : (i : Int) < ((limbs b).length : Int)
     ·rw [if_pos h2, if_pos a2, g4]
     ·rw [if_neg h2, if_pos a2, g5 (hyo (Int.ofNat_le.1 (Int.not_lt.1 h2)))]
    ·rw [if_neg h1]
     by_cases h2 : (i : Int) < ((limbs b).length : Int)
     ·rw [if_pos h2, if_pos (Int.natCast_nonneg _), if_pos a2, g6 (hxo (Int.ofNat_le.1 (Int.not_lt.1 h1)))]
     ·have g := g7 (hxo (Int.ofNat_le.1 (Int.not_lt.1 h1))) (hyo (Int.ofNat_le.1 (Int.not_lt.1 h2)))
      rw [if_neg h2, if_pos a2, g.1, g.2]
  ·obtain rfl : c = 0 := by rcases hc with h | h; exact h; exact absurd (.inr h) hgo
   have a7 := a6 (fun h => hgo (.inl h))
   exact hstop i out a7.1 a7.2 hO hl hinv hlow
theorem addN (a b : Nat) (ha : a < 1000000000 ^ 100000) (hb : b < 1000000000 ^ 100000) : Ev (fun k => spec_NatAdd.f k (limbs a) (limbs b)) (limbs (a + b)) := by
 have la := limbs_length_le a 100000 ha
 have lb := limbs_length_le b 100000 hb
 have h := add_l a b (max (limbs a).length (limbs b).length) (Nat.le_max_left _ _) (Nat.le_max_right _ _) (by omega) (by omega) (max (limbs a).length (limbs b).length + 1) 0 [] 0 (by omega) Lm.nil rfl (.inl rfl) (fun _ => rfl) (by rw [List.drop_zero, List.drop_zero, val_limbs, val_limbs, P9_zero]; simp [val]) (.inl rfl)
 exact h
theorem sub_inv {v p b x y A B t e : Int} (h : v + p * ((x + 1000000000 * A) - (y + 1000000000 * B) - b) = t) (b' : Int) (he : e = x - y - b + 1000000000 * b') : (v + p * e) + p * 1000000000 * (A - B - b') = t := by
 rw [← h, he]
 grind
set_option maxRecDepth 10000 in
theorem sub_l (a b : Nat) (hab : b ≤ a) (hl1 : (limbs b).length ≤ (limbs a).length) (hM : (limbs a).length ≤ 100000) (d : Nat) : ∀ (i : Nat) (out : List Int) (bw : Int), i + d = (limbs a).length → Lm out → out.length = i → (bw = 0 ∨ bw = 1) →
  val out + P9 i * (val ((limbs a).drop i) - val ((limbs b).drop i) - bw) = ((a - b : Nat) : Int) →
  Ev (fun k => spec_NatSub.l0 k (limbs b) out bw (limbs a) ((limbs a).length : Int) i) (limbs (a - b)) := by
 induction d with
 | zero =>
  intro i out bw hi hO hl hb
  have a1 : (limbs a).length ≤ i := by omega
  have a2 : (limbs b).length ≤ i := by omega
  have a3 : i ≤ 100000 := by omega
  have a4 : ¬ ((i : Int) < ((limbs a).length : Int)) := by omega
  clear hi
  intro hinv
  rw [List.drop_of_length_le a1, List.drop_of_length_le a2] at hinv
  have hv0 := val_nonneg hO
  have hv1 := val_lt hO
  rw [hl] at hv1
  have hbw : bw = 0 := by
   rcases hb with h | h
   ·exact h
   ·subst h
    exfalso
    simp only [val] at hinv
    have : P9 i * (0 - 0 - 1) = - P9 i := by grind
    rw [this] at hinv
    omega
  subst hbw
  have hv : val out = ((a - b : Nat) : Int) := by simp only [val] at hinv; rw [← hinv]; simp
  have ht := trim_ev i out hl (by omega) hO
  rw [hv, Int.toNat_natCast] at ht
  refine Ev.step (f := fun k => spec_natTrim.f k out) (fun k => ?_) ht
  rw [spec_NatSub.l0, if_neg a4]
  exact Option.bind_fun_some _
 | succ d ih =>
  intro i out bw hi hO hl hb
  have a1 : (i : Int) < ((limbs a).length : Int) := by omega
  have a2 : out.length < 35184372088832 := by omega
  have a3 : i + 1 + d = (limbs a).length := by omega
  have a4 : i ≤ 1000000 := by omega
  clear hi
  intro hinv
  have hx := (limbs_lm a).at_ i
  have hy := (limbs_lm b).at_ i
  have hyo := rd_out (limbs b) i
  have da := val_drop (limbs a) i
  have db := val_drop (limbs b) i
  obtain ⟨x, hxv⟩ : ∃ x, rd (limbs a) (i : Int) = x := ⟨_, rfl⟩
  obtain ⟨y, hyv⟩ : ∃ y, rd (limbs b) (i : Int) = y := ⟨_, rfl⟩
  rw [hxv] at hx da
  rw [hyv] at hy hyo db
  rw [da, db] at hinv
  have ew := w64_one i a4
  have key : ∀ (e b' : Int), e = x - y - bw + 1000000000 * b' → 0 ≤ e → e < 1000000000 → (b' = 0 ∨ b' = 1) → Ev (fun k => spec_NatSub.l0 k (limbs b) (out ++ [e]) b' (limbs a) ((limbs a).length : Int) ((i + 1 : Nat) : Int)) (limbs (a - b)) := by
   intro e b' he h0 h1 hb'
   have hi' := sub_inv hinv b' he
   have hv' : val (out ++ [e]) = val out + P9 i * e := by rw [val_append, hl]; simp [val]
   rw [← hv', ← P9_succ] at hi'
   exact ih (i + 1) (out ++ [e]) b' a3 (hO.append (Lm.cons h0 h1 Lm.nil)) (by rw [List.length_append, hl]; rfl) hb' hi'
  clear ih hinv da db
  by_cases hin : (i : Int) < ((limbs b).length : Int)
  ·have em : (bw + y) % 4294967296 = bw + y := by rcases hb with h | h <;> rw [h] <;> omega
   by_cases hlt : x < bw + y
   ·have e2 : (x + 1000000000 - (bw + y)) % 4294967296 = x - y - bw + 1000000000 * 1 := by rcases hb with h | h <;> rw [h] at hlt ⊢ <;> omega
    refine Ev.step (fun k => ?_) (key (x - y - bw + 1000000000 * 1) 1 rfl (by rcases hb with h | h <;> rw [h] at hlt ⊢ <;> omega) (by omega) (.inr rfl))
    rw [spec_NatSub.l0, if_pos a1, if_pos (Int.natCast_nonneg _), if_pos a1, if_pos hin, hxv, hyv, em, if_pos hlt, if_pos a2, ew, e2]
   ·have e2 : (x - (bw + y)) % 4294967296 = x - y - bw + 1000000000 * 0 := by rcases hb with h | h <;> rw [h] at hlt ⊢ <;> omega
    refine Ev.step (fun k => ?_) (key (x - y - bw + 1000000000 * 0) 0 rfl (by omega) (by rcases hb with h | h <;> rw [h] at hlt ⊢ <;> omega) (.inl rfl))
    rw [spec_NatSub.l0, if_pos a1, if_pos (Int.natCast_nonneg _), if_pos a1, if_pos hin, hxv, hyv, em, if_neg hlt, if_pos a2, ew, e2]
  ·have hy0 : y = 0 := hyo (Int.ofNat_le.1 (Int.not_lt.1 hin))
   by_cases hlt : x < bw
   ·have e2 : (x + 1000000000 - bw) % 4294967296 = x - y - bw + 1000000000 * 1 := by rw [hy0]; rcases hb with h | h <;> rw [h] at hlt ⊢ <;> omega
    refine Ev.step (fun k => ?_) (key (x - y - bw + 1000000000 * 1) 1 rfl (by rw [hy0]; rcases hb with h | h <;> rw [h] at hlt ⊢ <;> omega) (by omega) (.inr rfl))
    rw [spec_NatSub.l0, if_pos a1, if_pos (Int.natCast_nonneg _), if_pos a1, if_neg hin, hxv, if_pos hlt, if_pos a2, ew, e2]
   ·have e2 : (x - bw) % 4294967296 = x - y - bw + 1000000000 * 0 := by rw [hy0]; rcases hb with h | h <;> rw [h] at hlt ⊢ <;> omega
    refine Ev.step (fun k => ?_) (key (x - y - bw + 1000000000 * 0) 0 rfl (by rw [hy0]; omega) (by rw [hy0]; rcases hb with h | h <;> rw [h] at hlt ⊢ <;> omega) (.inl rfl))
    rw [spec_NatSub.l0, if_pos a1, if_pos (Int.natCast_nonneg _), if_pos a1, if_neg hin, hxv, if_neg hlt, if_pos a2, ew, e2]
theorem subN (a b : Nat) (hab : b ≤ a) (ha : a < 1000000000 ^ 100000) : Ev (fun k => spec_NatSub.f k (limbs a) (limbs b)) (limbs (a - b)) := by
 have la := limbs_length_le a 100000 ha
 have hl1 : (limbs b).length ≤ (limbs a).length := by
  refine Nat.le_of_not_lt fun h => ?_
  exact absurd (limbs_len_lt h) (Nat.not_lt.2 hab)
 exact sub_l a b hab hl1 la (limbs a).length 0 [] 0 (by omega) Lm.nil rfl (.inl rfl) (by rw [List.drop_zero, List.drop_zero, val_limbs, val_limbs, P9_zero, Int.natCast_sub hab]; simp [val])
end Go.Proofs.YtilmldfbmmcchaaGreatDoor.PFnDecPowInt
