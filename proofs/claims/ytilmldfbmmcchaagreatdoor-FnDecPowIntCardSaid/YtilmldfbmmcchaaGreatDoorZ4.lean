/- Natural numbers of nine digits a limb: the text, small ones, powers. What the functions compute, and that they compute it. Conditions: each theorem bears its own. -/
import Derived.Test.YtilmldfbmmcchaaGreatDoorZ2
set_option linter.unusedVariables false
set_option linter.unusedSimpArgs false
namespace Go.Proofs.YtilmldfbmmcchaaGreatDoor.PFnDecPowInt
open Go.RowKit Go.Proofs.YtilmldfbmmcchaaGreatDoorW.PrintWords Go.Proofs.YtilmldfbmmcchaaGreatDoorW.PrintLast Go.Proofs.YtilmldfbmmcchaaGreatDoorW.PrintMore
mutual
def spec_Nat_String.l0 : Nat → List Int → List Int → List Int → Int → Int → Option (ByteArray)
 | 0, _, _, _, _, _ => none
 | k + 1, x0, x3, x9, x10, x11 => if x11 < x10 then (if 0 ≤ x11 then (if x11 < (x9.length : Int) then (spec_Nat_String.l1 k x0 x3 x11 (rd x9 x11) 0 x9 x10 x11) else (none)) else (none)) else (if (x3.length : Int) = 0 then (some (⟨#[48]⟩ : ByteArray)) else (spec_Nat_String.l2 k x3 0 (wrap64 ((x3.length : Int) - 1))))
def spec_Nat_String.l1 : Nat → List Int → List Int → Int → Int → Int → List Int → Int → Int → Option (ByteArray)
 | 0, _, _, _, _, _, _, _, _ => none
 | k + 1, x0, x3, x4, x5, x6, x9, x10, x11 => if x6 < 9 then (if x5 > 0 then (if x3.length < 140737488355328 then (spec_Nat_String.l1 k x0 (x3 ++ [(48 + (Int.tmod x5 10)) % 256]) x4 ((Int.tdiv x5 10) % 4294967296) (wrap64 (x6 + 1)) x9 x10 x11) else (none)) else (if (wrap64 (x4 + 1)) < (x0.length : Int) then (if x3.length < 140737488355328 then (spec_Nat_String.l1 k x0 (x3 ++ [(48 + (Int.tmod x5 10)) % 256]) x4 ((Int.tdiv x5 10) % 4294967296) (wrap64 (x6 + 1)) x9 x10 x11) else (none)) else (spec_Nat_String.l0 k x0 x3 x9 x10 (wrap64 (x11 + 1))))) else (spec_Nat_String.l0 k x0 x3 x9 x10 (wrap64 (x11 + 1)))
def spec_Nat_String.l2 : Nat → List Int → Int → Int → Option (ByteArray)
 | 0, _, _, _ => none
 | k + 1, x3, x7, x8 => if x7 < x8 then (if 0 ≤ x8 then (if x8 < (x3.length : Int) then (if 0 ≤ x7 then (if x7 < (x3.length : Int) then (spec_Nat_String.l2 k ((x3.set (x7 : Int).toNat (rd x3 x8)).set (x8 : Int).toNat (rd x3 x7)) (wrap64 (x7 + 1)) (wrap64 (x8 - 1))) else (none)) else (none)) else (none)) else (none)) else (some (strOfNums x3))
end
def spec_Nat_String.f (k : Nat) (l0 : List Int) : Option (ByteArray) := spec_Nat_String.l0 k l0 ([] : List Int) l0 (l0.length : Int) 0
def spec_Nat_String.T16 : Bool × List (List Nat × List Nat) := (true, [([], []), ([], []), ([], []), ([], []), ([], []), ([], []), ([4, 5], [4, 5]), ([6], [6]), ([], []), ([], []), ([8, 9], [8, 9]), ([10], [10]), ([0, 1, 0, 1, 4, 5, 6, 7, 11], [0, 1]), ([12, 7, 0, 1, 4, 5, 6, 7, 11], [7, 12]), ([2, 3, 0, 1, 2, 3, 4, 5, 6, 7, 8, 9, 10, 11, 12, 13], [2, 3]), ([14, 11, 13, 0, 1, 2, 3, 4, 5, 6, 7, 8, 9, 10, 11, 12, 13], [11, 14])])
def spec_Nat_String.B16 : List Nat := [0, 0, 0, 0, 0, 0, 48, 112, 0, 0, 768, 1792, 4083, 8179, 16383, 32767]
theorem spec_Nat_String.tab16 : rtab .any (opsOf Tryz.f61 16) = spec_Nat_String.T16 := by kernel_rfl
theorem spec_Nat_String.bits16 : waitsOk spec_Nat_String.T16.2 spec_Nat_String.B16 = true := by kernel_rfl
set_option maxHeartbeats 8000000 in
set_option maxRecDepth 100000 in
theorem spec_Nat_String.calls (k : Nat) (A0 : Option Addr) (c0 : Nat) (l0 : List Int) (r : ByteArray) (w : World) (hr0 : Kd.C (Kd.int .u32) w A0 l0.length l0) (hc0 : l0.length ≤ c0) (h : spec_Nat_String.f k l0 = some r) :
  Calls Tryz.prog 61 #[.slice A0 l0.length c0] w fun e w' => e = .returned (.string r) ∧ Below w.heap.size w w' := by
 have HR0 := Aside0.mk hr0
 have HC0 := Aside0.mk hc0
 clear hr0 hc0
 have HB := Aside0.mk (Below.refl w.heap.size w)
 have H : (spec_Nat_String.l0 k l0 ([] : List Int) l0 (l0.length : Int) 0) = some r := h
 clear h
 have H' := Aside0.mk H
 clear H
 go_enter Tryz.func61, Tryz.ntmps61
 go_wp2
 go_loopg [3, 11] k (fun kq v3 v11 w' => ∃ (x3_1 : List Int) (x11_1 : Int), v11 = .int .i64 x11_1 ∧ Aside0 (spec_Nat_String.l0 kq l0 x3_1 l0 (l0.length : Int) x11_1 = some r) ∧ Aside0 (kq ≤ k) ∧ Aside0 (Kd.R (Kd.int .u8) 5 w' w.heap.size (fun _ => True) v3 x3_1) ∧ Aside0 (Below w.heap.size w w'))
 case atStart => exact ⟨(([] : List Int)), (0), (by first | rfl | (simp; done) | (simp [*]; done)), H', ⟨Nat.le_refl _⟩, ⟨by first | exact Kd.R_nil _ _ _ _ _ | exact Kd.N_nil _ _ _ _ _ | exact Kd.V_nil _ _ _ _ _ | exact Kd.Q_nil _ _ _ _ _ | exact Kd.S_nil _ _ _ _ _⟩, ⟨by repeat (first | (with_reducible first | exact HB.out | apply below_alloc | apply pw_below_drewN | apply below_drew1) | exact HB.out)⟩⟩
 case round =>
  clear H'
  obtain ⟨x3_1, x11_1, rfl, HA, HK1, HO_3, HB⟩ := hrel
  cases gk with
  | zero => exact absurd HA.out (by simp [spec_Nat_String.l0])
  | succ k1 =>
   have H := HA.out
   clear HA
   simp only [spec_Nat_String.l0] at H
   by_cases c2 : x11_1 < (l0.length : Int)
   ·rw [if_pos c2] at H
    have c2b0 : decide (x11_1 < (l0.length : Int)) = true := decide_eq_true c2
    clear c2
    by_cases c3 : 0 ≤ x11_1
    ·rw [if_pos c3] at H
     have c3b0 : decide (0 ≤ x11_1) = true := decide_eq_true c3
     clear c3
     by_cases c4 : x11_1 < (l0.length : Int)
     ·rw [if_pos c4] at H
      have c4b0 : decide (x11_1 < (l0.length : Int)) = true := decide_eq_true c4
      clear c4
      have H' := Aside0.mk H
      clear H
      have p270 : 0 ≤ (x11_1 : Int) := of_decide_eq_true (by first | (with_reducible assumption) | assumption)
      have q270 : x11_1 < (l0.length : Int) := of_decide_eq_true (by first | (with_reducible assumption) | assumption)
      obtain ⟨ad270, e270, hx270_0⟩ := Kd.at_int HR0.out x11_1 p270 q270
      cases e270
      replace hx270_0 := (HB.out.cell (World.block_lt_of_cell? w _ hx270_0)).trans hx270_0
      replace p270 := eq_true p270
      replace q270 := eq_true q270
      go_wp2
      go_loopg [3, 5, 6] k1 (fun kq v3 v5 v6 w' => ∃ (x3_2 : List Int) (x5_2 : Int) (x6_2 : Int), v5 = .int .u32 x5_2 ∧ v6 = .int .i64 x6_2 ∧ Aside0 (spec_Nat_String.l1 kq l0 x3_2 x11_1 x5_2 x6_2 l0 (l0.length : Int) x11_1 = some r) ∧ Aside0 (kq ≤ k1) ∧ Aside0 (Kd.R (Kd.int .u8) 5 w' w.heap.size (fun _ => True) v3 x3_2) ∧ Aside0 (Below w.heap.size w w'))
      case atStart => exact ⟨(x3_1), (rd l0 x11_1), (0), (by first | rfl | (simp; done) | (simp [*]; done)), (by first | rfl | (simp; done) | (simp [*]; done)), H', ⟨Nat.le_refl _⟩, ⟨by (with_reducible repeat (first | apply Kd.R_alloc | apply Kd.R_drewN | apply Kd.R_drew)); exact HO_3.out⟩, ⟨by repeat (first | (with_reducible first | exact HB.out | apply below_alloc | apply pw_below_drewN | apply below_drew1) | exact HB.out)⟩⟩
      case round =>
       clear H'
       try clear c2
       try clear c2b0
       try clear p2
       try clear q2
       try clear hx2
       try clear c3
       try clear c3b0
       try clear c4
       try clear c4b0
       try clear hx270_0
       try clear p270
       try clear q270
       obtain ⟨x3_2, x5_2, x6_2, rfl, rfl, HA, HK2, HO_3, HB⟩ := hrel
       cases gk with
       | zero => exact absurd HA.out (by simp [spec_Nat_String.l1])
       | succ k2 =>
        have H := HA.out
        clear HA
        simp only [spec_Nat_String.l1] at H
        by_cases c5 : x6_2 < 9
        ·rw [if_pos c5] at H
         have c5b0 : decide (x6_2 < 9) = true := decide_eq_true c5
         clear c5
         by_cases c6 : x5_2 > 0
         ·rw [if_pos c6] at H
          have c6b0 : decide (0 < x5_2) = true := decide_eq_true c6
          clear c6
          by_cases c7 : x3_2.length < 140737488355328
          ·rw [if_pos c7] at H
           have LMc7 := Aside0.mk c7
           clear c7
           obtain ⟨y271, hy271⟩ : ∃ y_ : List Int, y_ = (x3_2 ++ [(48 + (Int.tmod x5_2 10)) % 256]) := ⟨_, rfl⟩
           replace H : (spec_Nat_String.l1 k2 l0 y271 x11_1 ((Int.tdiv x5_2 10) % 4294967296) (wrap64 (x6_2 + 1)) l0 (l0.length : Int) x11_1) = some r := by first | (rw [hy271]; with_reducible exact H) | (have H2_ := (Option.bind_some _ _).symm.trans H; rw [hy271]; with_reducible exact H2_) | (have H2_ := (Option.bind_some _ _).symm.trans H; with_reducible exact H2_) | with_reducible exact H | (rw [hy271]; exact H) | exact H
           have Ny271 := Aside0.mk hy271
           clear hy271
           have H' := Aside0.mk H
           clear H
           go_wp2_with (first | ((with_reducible refine gate_builtin (b := .append) (xs := #[.tmp 31, .tmp 36]) rfl ?_); (try (refine gate_guard (by rfl) ?_; dsimp only)); at_builtin; refine Kd.R_append (Kd.int .u8) (w0 := w) w.heap.size rfl (.tmp 31) (.tmp 36) 65 5 (.int .u8 0) 1 rfl Tryz.underlying65 info5 rfl (by decide) (by omega) u3 x3_2 ((48 + (Int.tmod x5_2 10)) % 256) [.int .u8 ((48 + (Int.tmod x5_2 10)) % 256)] (fun _ => True) (fun _ => False) rfl rfl ?aP (fun _ hk => hk.elim) ?aF ?aO ?aB ?aS ?aL ?_; (case aP => exact rfl); (case aB => exact (by repeat (first | (with_reducible first | exact HB.out | apply below_alloc | apply pw_below_drewN | apply below_drew1) | exact HB.out))); (case aF => exact (fun _ _ => trivial)); (case aO => exact (by (with_reducible repeat (first | apply Kd.R_alloc | apply Kd.R_drewN | apply Kd.R_drew)); exact HO_3.out)); (case aS => exact (below_size (by repeat (first | (with_reducible first | exact HB.out | apply below_alloc | apply pw_below_drewN | apply below_drew1) | exact HB.out)))); (case aL => have := LMc7.out; omega); intro v272 w8 ho hb hg hat; rw [← Ny271.out] at ho; have n0_ := Aside0.mk (hb); have n1_ := Aside0.mk (ho); clear HB; clear HO_3; have HB := n0_; have HO273 := n1_; clear n0_ n1_; clear ho hb hg hat))
           go_roundg k2
           case measure => have := HK1.out; have := HK2.out; omega
           case rel => exact ⟨(y271), ((Int.tdiv x5_2 10) % 4294967296), (wrap64 (x6_2 + 1)), (by first | rfl | (simp; done) | (simp [*]; done)), (by first | rfl | (simp; done) | (simp [*]; done)), H', ⟨by have := HK1.out; have := HK2.out; omega⟩, ⟨by (with_reducible repeat (first | apply Kd.R_alloc | apply Kd.R_drewN | apply Kd.R_drew)); exact HO273.out⟩, ⟨by repeat (first | (with_reducible first | exact HB.out | apply below_alloc | apply pw_below_drewN | apply below_drew1) | exact HB.out)⟩⟩
          ·rw [if_neg c7] at H
           exact absurd H (by simp)
         ·rw [if_neg c6] at H
          have c6b0 : decide (0 < x5_2) = false := decide_eq_false c6
          clear c6
          by_cases c9 : (wrap64 (x11_1 + 1)) < (l0.length : Int)
          ·rw [if_pos c9] at H
           have c9b0 : decide ((wrap64 (x11_1 + 1)) < (l0.length : Int)) = true := decide_eq_true c9
           clear c9
           by_cases c10 : x3_2.length < 140737488355328
           ·rw [if_pos c10] at H
            have LMc10 := Aside0.mk c10
            clear c10
            obtain ⟨y274, hy274⟩ : ∃ y_ : List Int, y_ = (x3_2 ++ [(48 + (Int.tmod x5_2 10)) % 256]) := ⟨_, rfl⟩
            replace H : (spec_Nat_String.l1 k2 l0 y274 x11_1 ((Int.tdiv x5_2 10) % 4294967296) (wrap64 (x6_2 + 1)) l0 (l0.length : Int) x11_1) = some r := by first | (rw [hy274]; with_reducible exact H) | (have H2_ := (Option.bind_some _ _).symm.trans H; rw [hy274]; with_reducible exact H2_) | (have H2_ := (Option.bind_some _ _).symm.trans H; with_reducible exact H2_) | with_reducible exact H | (rw [hy274]; exact H) | exact H
            have Ny274 := Aside0.mk hy274
            clear hy274
            have H' := Aside0.mk H
            clear H
            go_wp2_with (first | ((with_reducible refine gate_builtin (b := .append) (xs := #[.tmp 31, .tmp 36]) rfl ?_); (try (refine gate_guard (by rfl) ?_; dsimp only)); at_builtin; refine Kd.R_append (Kd.int .u8) (w0 := w) w.heap.size rfl (.tmp 31) (.tmp 36) 65 5 (.int .u8 0) 1 rfl Tryz.underlying65 info5 rfl (by decide) (by omega) u3 x3_2 ((48 + (Int.tmod x5_2 10)) % 256) [.int .u8 ((48 + (Int.tmod x5_2 10)) % 256)] (fun _ => True) (fun _ => False) rfl rfl ?aP (fun _ hk => hk.elim) ?aF ?aO ?aB ?aS ?aL ?_; (case aP => exact rfl); (case aB => exact (by repeat (first | (with_reducible first | exact HB.out | apply below_alloc | apply pw_below_drewN | apply below_drew1) | exact HB.out))); (case aF => exact (fun _ _ => trivial)); (case aO => exact (by (with_reducible repeat (first | apply Kd.R_alloc | apply Kd.R_drewN | apply Kd.R_drew)); exact HO_3.out)); (case aS => exact (below_size (by repeat (first | (with_reducible first | exact HB.out | apply below_alloc | apply pw_below_drewN | apply below_drew1) | exact HB.out)))); (case aL => have := LMc10.out; omega); intro v275 w11 ho hb hg hat; rw [← Ny274.out] at ho; have n0_ := Aside0.mk (hb); have n1_ := Aside0.mk (ho); clear HB; clear HO_3; have HB := n0_; have HO276 := n1_; clear n0_ n1_; clear ho hb hg hat))
            go_roundg k2
            case measure => have := HK1.out; have := HK2.out; omega
            case rel => exact ⟨(y274), ((Int.tdiv x5_2 10) % 4294967296), (wrap64 (x6_2 + 1)), (by first | rfl | (simp; done) | (simp [*]; done)), (by first | rfl | (simp; done) | (simp [*]; done)), H', ⟨by have := HK1.out; have := HK2.out; omega⟩, ⟨by (with_reducible repeat (first | apply Kd.R_alloc | apply Kd.R_drewN | apply Kd.R_drew)); exact HO276.out⟩, ⟨by repeat (first | (with_reducible first | exact HB.out | apply below_alloc | apply pw_below_drewN | apply below_drew1) | exact HB.out)⟩⟩
           ·rw [if_neg c10] at H
            exact absurd H (by simp)
          ·rw [if_neg c9] at H
           have c9b0 : decide ((wrap64 (x11_1 + 1)) < (l0.length : Int)) = false := decide_eq_false c9
           clear c9
           have H' := Aside0.mk H
           clear H
           go_wp2
           go_roundg k2
           case measure => have := HK1.out; have := HK2.out; omega
           case rel => exact ⟨(x3_2), (wrap64 (x11_1 + 1)), (by first | rfl | (simp; done) | (simp [*]; done)), H', ⟨by have := HK1.out; have := HK2.out; omega⟩, ⟨by (with_reducible repeat (first | apply Kd.R_alloc | apply Kd.R_drewN | apply Kd.R_drew)); exact HO_3.out⟩, ⟨by repeat (first | (with_reducible first | exact HB.out | apply below_alloc | apply pw_below_drewN | apply below_drew1) | exact HB.out)⟩⟩
        ·rw [if_neg c5] at H
         have c5b0 : decide (x6_2 < 9) = false := decide_eq_false c5
         clear c5
         have H' := Aside0.mk H
         clear H
         go_wp2
         go_roundg k2
         case measure => have := HK1.out; have := HK2.out; omega
         case rel => exact ⟨(x3_2), (wrap64 (x11_1 + 1)), (by first | rfl | (simp; done) | (simp [*]; done)), H', ⟨by have := HK1.out; have := HK2.out; omega⟩, ⟨by (with_reducible repeat (first | apply Kd.R_alloc | apply Kd.R_drewN | apply Kd.R_drew)); exact HO_3.out⟩, ⟨by repeat (first | (with_reducible first | exact HB.out | apply below_alloc | apply pw_below_drewN | apply below_drew1) | exact HB.out)⟩⟩
     ·rw [if_neg c4] at H
      exact absurd H (by simp)
    ·rw [if_neg c3] at H
     exact absurd H (by simp)
   ·rw [if_neg c2] at H
    have c2b0 : decide (x11_1 < (l0.length : Int)) = false := decide_eq_false c2
    clear c2
    by_cases c12 : (x3_1.length : Int) = 0
    ·rw [if_pos c12] at H
     have c12b0 : ((x3_1.length : Int) == 0) = true := beq_iff_eq.mpr c12
     have c12b1 : ((x3_1.length : Int) != 0) = false := bne_eq_false_iff_eq.mpr c12
     clear c12
     obtain rfl := Option.some.inj H
     obtain ⟨Ao13, co13, eo13⟩ := Kd.R_slice HO_3.out
     subst eo13
     go_wp2
     go_ret
     exact ⟨by first | rfl | (simp [errW_none, errW_some] <;> rfl) | (simp [*, errW_none, errW_some] <;> rfl), by repeat (first | (with_reducible first | exact HB.out | apply below_alloc | apply pw_below_drewN | apply below_drew1) | exact HB.out)⟩
    ·rw [if_neg c12] at H
     have c12b0 : ((x3_1.length : Int) == 0) = false := beq_eq_false_iff_ne.mpr c12
     have c12b1 : ((x3_1.length : Int) != 0) = true := bne_iff_ne.mpr c12
     have c12b2 : ¬ (x3_1 = []) := fun h_ => c12 (by rw [h_]; rfl)
     have H' := Aside0.mk H
     clear H
     obtain ⟨Ao14, co14, eo14⟩ := Kd.R_slice HO_3.out
     subst eo14
     go_wp2
     go_loopg [7, 8] k1 (fun kq v7 v8 w' => ∃ (x3_2 : List Int) (x7_2 : Int) (x8_2 : Int), v7 = .int .i64 x7_2 ∧ v8 = .int .i64 x8_2 ∧ Aside0 (spec_Nat_String.l2 kq x3_2 x7_2 x8_2 = some r) ∧ Aside0 (kq ≤ k1) ∧ Aside0 (Kd.R (Kd.int .u8) 5 w' w.heap.size (fun _ => True) (.slice Ao14 x3_1.length co14) x3_2) ∧ Aside0 (Below w.heap.size w w'))
     case atStart => exact ⟨(x3_1), (0), (wrap64 ((x3_1.length : Int) - 1)), (by first | rfl | (simp; done) | (simp [*]; done)), (by first | rfl | (simp; done) | (simp [*]; done)), H', ⟨Nat.le_refl _⟩, ⟨by (with_reducible repeat (first | apply Kd.R_alloc | apply Kd.R_drewN | apply Kd.R_drew)); exact HO_3.out⟩, ⟨by repeat (first | (with_reducible first | exact HB.out | apply below_alloc | apply pw_below_drewN | apply below_drew1) | exact HB.out)⟩⟩
     case round =>
      clear H'
      try clear c1
      try clear c2
      try clear c2b0
      try clear p2
      try clear q2
      try clear hx2
      try clear c3
      try clear c3b0
      try clear c4
      try clear c4b0
      try clear c5
      try clear c5b0
      try clear c6
      try clear c6b0
      try clear p6
      try clear c7
      try clear c9
      try clear c9b0
      try clear c10
      try clear c12
      try clear c12b0
      try clear c12b1
      try clear c12b2
      try clear hx270_0
      try clear p2
      try clear p270
      try clear q2
      try clear q270
      obtain ⟨x3_2, x7_2, x8_2, rfl, rfl, HA, HK2, HO_3, HB⟩ := hrel
      have hl3_2 := (Kd.R_reads' HO_3.out).1
      rw [hl3_2] at HO_3
      (try simp only [hl3_2])
      cases gk with
      | zero => exact absurd HA.out (by simp [spec_Nat_String.l2])
      | succ k2 =>
       have H := HA.out
       clear HA
       simp only [spec_Nat_String.l2] at H
       by_cases c15 : x7_2 < x8_2
       ·rw [if_pos c15] at H
        have c15b0 : decide (x7_2 < x8_2) = true := decide_eq_true c15
        clear c15
        by_cases c16 : 0 ≤ x8_2
        ·rw [if_pos c16] at H
         have c16b0 : decide (0 ≤ x8_2) = true := decide_eq_true c16
         clear c16
         by_cases c17 : x8_2 < (x3_2.length : Int)
         ·rw [if_pos c17] at H
          have c17b0 : decide (x8_2 < (x3_2.length : Int)) = true := decide_eq_true c17
          clear c17
          by_cases c18 : 0 ≤ x7_2
          ·rw [if_pos c18] at H
           have c18b0 : decide (0 ≤ x7_2) = true := decide_eq_true c18
           clear c18
           by_cases c19 : x7_2 < (x3_2.length : Int)
           ·rw [if_pos c19] at H
            have c19b0 : decide (x7_2 < (x3_2.length : Int)) = true := decide_eq_true c19
            clear c19
            obtain ⟨y279, hy279⟩ : ∃ y_ : List Int, y_ = (x3_2.set (x7_2 : Int).toNat (rd x3_2 x8_2)) := ⟨_, rfl⟩
            replace H : (spec_Nat_String.l2 k2 (y279.set (x8_2 : Int).toNat (rd x3_2 x7_2)) (wrap64 (x7_2 + 1)) (wrap64 (x8_2 - 1))) = some r := by first | (rw [hy279]; with_reducible exact H) | (have H2_ := (Option.bind_some _ _).symm.trans H; rw [hy279]; with_reducible exact H2_) | (have H2_ := (Option.bind_some _ _).symm.trans H; with_reducible exact H2_) | with_reducible exact H | (rw [hy279]; exact H) | exact H
            have Ny279 := Aside0.mk hy279
            clear hy279
            obtain ⟨y280, hy280⟩ : ∃ y_ : List Int, y_ = (y279.set (x8_2 : Int).toNat (rd x3_2 x7_2)) := ⟨_, rfl⟩
            replace H : (spec_Nat_String.l2 k2 y280 (wrap64 (x7_2 + 1)) (wrap64 (x8_2 - 1))) = some r := by first | (rw [hy280]; with_reducible exact H) | (have H2_ := (Option.bind_some _ _).symm.trans H; rw [hy280]; with_reducible exact H2_) | (have H2_ := (Option.bind_some _ _).symm.trans H; with_reducible exact H2_) | with_reducible exact H | (rw [hy280]; exact H) | exact H
            have Ny280 := Aside0.mk hy280
            clear hy280
            have H' := Aside0.mk H
            clear H
            try go_wp2
            have n0_ := Aside0.mk (Kd.R_drew HO_3.out)
            have n1_ := Aside0.mk (below_drew1 HB.out)
            clear HO_3
            clear HB
            have HO_3 := n0_
            have HB := n1_
            clear n0_ n1_
            have p277 : 0 ≤ (x8_2 : Int) := of_decide_eq_true (by first | (with_reducible assumption) | assumption)
            have q277 : x8_2 < (x3_2.length : Int) := of_decide_eq_true (by first | (with_reducible assumption) | assumption)
            obtain ⟨ad277, e277, hx277_0⟩ := Kd.at_int (Kd.R_reads' HO_3.out).2.2 x8_2 p277 q277
            cases e277
            replace p277 := eq_true p277
            replace q277 := eq_true q277
            have p278 : 0 ≤ (x7_2 : Int) := of_decide_eq_true (by first | (with_reducible assumption) | assumption)
            have q278 : x7_2 < (x3_2.length : Int) := of_decide_eq_true (by first | (with_reducible assumption) | assumption)
            obtain ⟨ad278, e278, hx278_0⟩ := Kd.at_int (Kd.R_reads' HO_3.out).2.2 x7_2 p278 q278
            obtain rfl : ad277 = ad278 := (by injection e278)
            replace p278 := eq_true p278
            replace q278 := eq_true q278
            have p20 : 0 ≤ (x7_2 : Int) := of_decide_eq_true (by first | (with_reducible assumption) | assumption)
            have q20 : (x7_2 : Int) < ((x3_2.length : Int) : Int) := of_decide_eq_true (by first | (with_reducible assumption) | assumption)
            obtain ⟨go20, co20, eo20, gb20, gl20, cl20, HG20⟩ := Kd.R_form HO_3.out (by omega)
            (first | cases eo20 | (injection eo20 with ea_ en_ ec_; (first | subst ea_ | (injection ea_ with ea_; subst ea_)); subst ec_; clear en_))
            have GB20 := Aside0.mk gb20
            have GG20 := Aside0.mk HG20
            clear gb20 gl20 HG20
            (first | simp only [add_plain] at hx277_0 | skip)
            (first | simp only [add_plain] at hx278_0 | skip)
            obtain ⟨hx20_0, hf20_0⟩ := Kd.R_celln 0 HO_3.out (x7_2 : Int) p20 q20
            replace p20 := eq_true p20
            replace q20 := eq_true q20
            have HP23 := Kd.R_putn HO_3.out (x7_2 : Int) (rd x3_2 x8_2)
            rw [← Ny279.out] at HP23
            have HQ23 := Aside0.mk HP23
            clear HP23
            have p21 : 0 ≤ (x8_2 : Int) := of_decide_eq_true (by first | (with_reducible assumption) | assumption)
            have q21 : (x8_2 : Int) < ((x3_2.length : Int) : Int) := of_decide_eq_true (by first | (with_reducible assumption) | assumption)
            obtain ⟨hx21_0, hf21_0⟩ := Kd.R_celln 0 HQ23.out (x8_2 : Int) p21 q21
            replace p21 := eq_true p21
            replace q21 := eq_true q21
            have HP24 := Kd.R_putn HQ23.out (x8_2 : Int) (rd x3_2 x7_2)
            rw [← Ny280.out] at HP24
            have HQ24 := Aside0.mk HP24
            clear HP24
            refine start_ (n := 16) (S := fun w' => w'.cell? ⟨go20, (x8_2).toNat, none⟩ = some (.int .u8 (rd x3_2 x8_2)) ∧ w'.cell? ⟨go20, (x7_2).toNat, none⟩ = some (.int .u8 (rd x3_2 x7_2))) (ds := [13, 15]) #[false, false, false, false, false, false, false, false, false, false, false, false, false, false, false, false] (by kernel_rfl) rfl rfl ⟨hx277_0, hx278_0⟩ (fun hHeld => ?_); refine with_tabW spec_Nat_String.tab16 spec_Nat_String.bits16 (fun HT_ HW_ => ?_)
            generalize wr.drew = w22 at HO_3 HB GG20 HQ23 HQ24 hf20_0 hf21_0 hx20_0 hx21_0 hx277_0 hx278_0 hHeld ⊢
            refine pure_ (i := 0) (N := some 54) (v := ?_) (a' := ?_) #[true, false, false, false, false, false, false, false, false, false, false, false, false, false, false, false] rfl rfl (any_of HT_.out (by kernel_rfl)) (fun _ _ _ h => h) (Or.inl ⟨by rfl, ?_⟩) ?_ ?_
            rotate_left
            ·intro w'
             go_simp
             with_reducible rfl
            rotate_left
            ·simp only [Act.put, List.setIfInBounds_toArray, List.set_cons_zero, List.set_cons_succ, i64_w, i32_w]
             rfl
            refine pure_ (i := 1) (N := some 55) (v := ?_) (a' := ?_) #[true, true, false, false, false, false, false, false, false, false, false, false, false, false, false, false] rfl rfl (any_of HT_.out (by kernel_rfl)) (fun _ _ _ h => h) (Or.inl ⟨by rfl, ?_⟩) ?_ ?_
            rotate_left
            ·intro w'
             go_simp
             with_reducible rfl
            rotate_left
            ·simp only [Act.put, List.setIfInBounds_toArray, List.set_cons_zero, List.set_cons_succ, i64_w, i32_w]
             rfl
            refine pure_ (i := 2) (N := some 56) (v := ?_) (a' := ?_) #[true, true, true, false, false, false, false, false, false, false, false, false, false, false, false, false] rfl rfl (any_of HT_.out (by kernel_rfl)) (fun _ _ _ h => h) (Or.inl ⟨by rfl, ?_⟩) ?_ ?_
            rotate_left
            ·intro w'
             go_simp
             with_reducible rfl
            rotate_left
            ·simp only [Act.put, List.setIfInBounds_toArray, List.set_cons_zero, List.set_cons_succ, i64_w, i32_w]
             rfl
            refine pure_ (i := 3) (N := some 57) (v := ?_) (a' := ?_) #[true, true, true, true, false, false, false, false, false, false, false, false, false, false, false, false] rfl rfl (any_of HT_.out (by kernel_rfl)) (fun _ _ _ h => h) (Or.inl ⟨by rfl, ?_⟩) ?_ ?_
            rotate_left
            ·intro w'
             go_simp
             with_reducible rfl
            rotate_left
            ·simp only [Act.put, List.setIfInBounds_toArray, List.set_cons_zero, List.set_cons_succ, i64_w, i32_w]
             rfl
            refine pure_ (i := 4) (N := some 58) (v := ?_) (a' := ?_) #[true, true, true, true, true, false, false, false, false, false, false, false, false, false, false, false] rfl rfl (any_of HT_.out (by kernel_rfl)) (fun _ _ _ h => h) (Or.inl ⟨by rfl, ?_⟩) ?_ ?_
            rotate_left
            ·intro w'
             go_simp
             with_reducible rfl
            rotate_left
            ·simp only [Act.put, List.setIfInBounds_toArray, List.set_cons_zero, List.set_cons_succ, i64_w, i32_w]
             rfl
            refine pure_ (i := 5) (N := some 59) (v := ?_) (a' := ?_) #[true, true, true, true, true, true, false, false, false, false, false, false, false, false, false, false] rfl rfl (any_of HT_.out (by kernel_rfl)) (fun _ _ _ h => h) (Or.inl ⟨by rfl, ?_⟩) ?_ ?_
            rotate_left
            ·intro w'
             go_simp
             with_reducible rfl
            rotate_left
            ·simp only [Act.put, List.setIfInBounds_toArray, List.set_cons_zero, List.set_cons_succ, i64_w, i32_w]
             rfl
            refine pure_ (i := 6) (N := some 60) (v := ?_) (a' := ?_) #[true, true, true, true, true, true, true, false, false, false, false, false, false, false, false, false] rfl rfl (any_of HT_.out (by kernel_rfl)) (fun _ _ _ h => h) (Or.inl ⟨by rfl, ?_⟩) ?_ ?_
            rotate_left
            ·intro w'
             go_simp
             with_reducible rfl
            rotate_left
            ·simp only [Act.put, List.setIfInBounds_toArray, List.set_cons_zero, List.set_cons_succ, i64_w, i32_w]
             rfl
            refine pure_ (i := 8) (N := some 62) (v := ?_) (a' := ?_) #[true, true, true, true, true, true, true, false, true, false, false, false, false, false, false, false] rfl rfl (any_of HT_.out (by kernel_rfl)) (fun _ _ _ h => h) (Or.inl ⟨by rfl, ?_⟩) ?_ ?_
            rotate_left
            ·intro w'
             go_simp
             with_reducible rfl
            rotate_left
            ·simp only [Act.put, List.setIfInBounds_toArray, List.set_cons_zero, List.set_cons_succ, i64_w, i32_w]
             rfl
            refine pure_ (i := 9) (N := some 63) (v := ?_) (a' := ?_) #[true, true, true, true, true, true, true, false, true, true, false, false, false, false, false, false] rfl rfl (any_of HT_.out (by kernel_rfl)) (fun _ _ _ h => h) (Or.inl ⟨by rfl, ?_⟩) ?_ ?_
            rotate_left
            ·intro w'
             go_simp
             with_reducible rfl
            rotate_left
            ·simp only [Act.put, List.setIfInBounds_toArray, List.set_cons_zero, List.set_cons_succ, i64_w, i32_w]
             rfl
            refine pure_ (i := 10) (N := some 64) (v := ?_) (a' := ?_) #[true, true, true, true, true, true, true, false, true, true, true, false, false, false, false, false] rfl rfl (any_of HT_.out (by kernel_rfl)) (fun _ _ _ h => h) (Or.inl ⟨by rfl, ?_⟩) ?_ ?_
            rotate_left
            ·intro w'
             go_simp
             with_reducible rfl
            rotate_left
            ·simp only [Act.put, List.setIfInBounds_toArray, List.set_cons_zero, List.set_cons_succ, i64_w, i32_w]
             rfl
            refine take_ (i := 7) (N := some 61) (v := ?_) (a' := ?_) #[true, true, true, true, true, true, true, true, true, true, true, false, false, false, false, false] rfl rfl (take_ofW HT_.out HW_.out (by kernel_rfl)) (fun _ _ _ h => h) (Or.inl ⟨by rfl, ?_⟩) hHeld ?_ ?_
            rotate_left
            ·rintro w' ⟨s0, s1⟩
             go_simp
             with_reducible rfl
            rotate_left
            ·simp only [Act.put, List.setIfInBounds_toArray, List.set_cons_zero, List.set_cons_succ, i64_w, i32_w]
             rfl
            refine take_ (i := 11) (N := some 65) (v := ?_) (a' := ?_) #[true, true, true, true, true, true, true, true, true, true, true, true, false, false, false, false] rfl rfl (take_ofW HT_.out HW_.out (by kernel_rfl)) (fun _ _ _ h => h) (Or.inl ⟨by rfl, ?_⟩) hHeld ?_ ?_
            rotate_left
            ·rintro w' ⟨s0, s1⟩
             go_simp
             with_reducible rfl
            rotate_left
            ·simp only [Act.put, List.setIfInBounds_toArray, List.set_cons_zero, List.set_cons_succ, i64_w, i32_w]
             rfl
            refine pure_ (i := 12) (N := some 66) (v := ?_) (a' := ?_) #[true, true, true, true, true, true, true, true, true, true, true, true, true, false, false, false] rfl rfl (any_of HT_.out (by kernel_rfl)) (fun _ _ _ h => h) (Or.inl ⟨by rfl, ?_⟩) ?_ ?_
            rotate_left
            ·intro w'
             go_simp
             with_reducible rfl
            rotate_left
            ·simp only [Act.put, List.setIfInBounds_toArray, List.set_cons_zero, List.set_cons_succ, i64_w, i32_w]
             rfl
            refine last_ (i := 13) (N := none) #[true, true, true, true, true, true, true, true, true, true, true, true, true, true, false, false] rfl rfl (one_of HT_.out (by kernel_rfl)) (by decide) (fun K hK => ?_)
            refine skip_ (w1 := ?_) (by rfl) rfl ?_ ?_
            rotate_left
            ·go_simp
             rfl
            refine hK.out _ _ ?_
            clear hK K
            refine pure_ (i := 14) (N := some 67) (v := ?_) (a' := ?_) #[true, true, true, true, true, true, true, true, true, true, true, true, true, true, true, false] rfl rfl (any_of HT_.out (by kernel_rfl)) (fun _ _ _ h => h) (Or.inl ⟨by rfl, ?_⟩) ?_ ?_
            rotate_left
            ·intro w'
             go_simp
             with_reducible rfl
            rotate_left
            ·simp only [Act.put, List.setIfInBounds_toArray, List.set_cons_zero, List.set_cons_succ, i64_w, i32_w]
             rfl
            refine last_ (i := 15) (N := none) #[true, true, true, true, true, true, true, true, true, true, true, true, true, true, true, true] rfl rfl (one_of HT_.out (by kernel_rfl)) (by decide) (fun K hK => ?_)
            refine skip_ (w1 := ?_) (by rfl) rfl ?_ ?_
            rotate_left
            ·go_simp
             rfl
            refine hK.out _ _ ?_
            clear hK K
            refine done_ (done_of HT_.out (by kernel_rfl)) ?_
            try go_wp2
            (try simp only [← hl3_2])
            go_roundg k2
            case measure => have := HK1.out; have := HK2.out; omega
            case rel => exact ⟨(y280), (wrap64 (x7_2 + 1)), (wrap64 (x8_2 - 1)), (by first | rfl | (simp; done) | (simp [*]; done)), (by first | rfl | (simp; done) | (simp [*]; done)), H', ⟨by have := HK1.out; have := HK2.out; omega⟩, ⟨by (try simp only [hl3_2]); (with_reducible repeat (first | apply Kd.R_alloc | apply Kd.R_drewN | apply Kd.R_drew)); exact HQ24.out⟩, ⟨by repeat (first | (with_reducible first | exact HB.out | apply below_alloc | apply pw_below_drewN | apply below_drew1 | refine below_set ?_ GB20.out | refine below_set ?_ GB20.out) | exact HB.out)⟩⟩
           ·rw [if_neg c19] at H
            exact absurd H (by simp)
          ·rw [if_neg c18] at H
           exact absurd H (by simp)
         ·rw [if_neg c17] at H
          exact absurd H (by simp)
        ·rw [if_neg c16] at H
         exact absurd H (by simp)
       ·rw [if_neg c15] at H
        have c15b0 : decide (x7_2 < x8_2) = false := decide_eq_false c15
        clear c15
        obtain rfl := Option.some.inj H
        have hcv25 := own_string (P := Tryz.prog) Tryz.underlying65 Tryz.underlying5 Tryz.underlying9 (Kd.own_of_R HO_3.out)
        go_wp2
        go_ret
        exact ⟨by first | rfl | (simp [errW_none, errW_some] <;> rfl) | (simp [*, errW_none, errW_some] <;> rfl), by repeat (first | (with_reducible first | exact HB.out | apply below_alloc | apply pw_below_drewN | apply below_drew1) | exact HB.out)⟩
def spec_NatFrom.l0 : Nat → Int → List Int → Option (List Int)
 | 0, _, _ => none
 | k + 1, x0, x3 => if x0 > 0 then (if x3.length < 35184372088832 then (spec_NatFrom.l0 k (IntKind.u64.wrap (Int.tdiv x0 1000000000)) (x3 ++ [(Int.tmod x0 1000000000) % 4294967296])) else (none)) else (some x3)
def spec_NatFrom.f (k : Nat) (a0 : Int) : Option (List Int) := spec_NatFrom.l0 k a0 ([] : List Int)
set_option maxHeartbeats 8000000 in
set_option maxRecDepth 100000 in
theorem spec_NatFrom.calls (k : Nat) (a0 : Int) (r : List Int) (w : World) (h : spec_NatFrom.f k a0 = some r) :
  Calls Tryz.prog 45 #[.int .u64 a0] w fun e w' => ∃ v0_ : Value, e = .returned (v0_) ∧ Kd.R (Kd.int .u32) 87 w' w.heap.size (fun _ => True) v0_ r ∧ Below w.heap.size w w' := by
 have HB := Aside0.mk (Below.refl w.heap.size w)
 have H : (spec_NatFrom.l0 k a0 ([] : List Int)) = some r := h
 clear h
 have H' := Aside0.mk H
 clear H
 go_enter Tryz.func45, Tryz.ntmps45
 go_wp2
 go_loopg [0, 3] k (fun kq v0 v3 w' => ∃ (x0_1 : Int) (x3_1 : List Int), v0 = .int .u64 x0_1 ∧ Aside0 (spec_NatFrom.l0 kq x0_1 x3_1 = some r) ∧ Aside0 (kq ≤ k) ∧ Aside0 (Kd.R (Kd.int .u32) 87 w' w.heap.size (fun _ => True) v3 x3_1) ∧ Aside0 (Below w.heap.size w w'))
 case atStart => exact ⟨(a0), (([] : List Int)), (by first | rfl | (simp; done) | (simp [*]; done)), H', ⟨Nat.le_refl _⟩, ⟨by first | exact Kd.R_nil _ _ _ _ _ | exact Kd.N_nil _ _ _ _ _ | exact Kd.V_nil _ _ _ _ _ | exact Kd.Q_nil _ _ _ _ _ | exact Kd.S_nil _ _ _ _ _⟩, ⟨by repeat (first | (with_reducible first | exact HB.out | apply below_alloc | apply pw_below_drewN | apply below_drew1) | exact HB.out)⟩⟩
 case round =>
  clear H'
  obtain ⟨x0_1, x3_1, rfl, HA, HK1, HO_3, HB⟩ := hrel
  cases gk with
  | zero => exact absurd HA.out (by simp [spec_NatFrom.l0])
  | succ k1 =>
   have H := HA.out
   clear HA
   simp only [spec_NatFrom.l0] at H
   by_cases c2 : x0_1 > 0
   ·rw [if_pos c2] at H
    have c2b0 : decide (0 < x0_1) = true := decide_eq_true c2
    clear c2
    by_cases c3 : x3_1.length < 35184372088832
    ·rw [if_pos c3] at H
     have LMc3 := Aside0.mk c3
     clear c3
     obtain ⟨y295, hy295⟩ : ∃ y_ : List Int, y_ = (x3_1 ++ [(Int.tmod x0_1 1000000000) % 4294967296]) := ⟨_, rfl⟩
     replace H : (spec_NatFrom.l0 k1 (IntKind.u64.wrap (Int.tdiv x0_1 1000000000)) y295) = some r := by first | (rw [hy295]; with_reducible exact H) | (have H2_ := (Option.bind_some _ _).symm.trans H; rw [hy295]; with_reducible exact H2_) | (have H2_ := (Option.bind_some _ _).symm.trans H; with_reducible exact H2_) | with_reducible exact H | (rw [hy295]; exact H) | exact H
     have Ny295 := Aside0.mk hy295
     clear hy295
     have H' := Aside0.mk H
     clear H
     go_wp2_with (first | ((with_reducible refine gate_builtin (b := .append) (xs := #[.tmp 8, .tmp 12]) rfl ?_); at_builtin; refine Kd.R_append (Kd.int .u32) (w0 := w) w.heap.size rfl (.tmp 8) (.tmp 12) 26 87 (.int .u32 0) 4 rfl Tryz.underlying26 info87 rfl (by decide) (by omega) u3 x3_1 ((Int.tmod x0_1 1000000000) % 4294967296) [.int .u32 ((Int.tmod x0_1 1000000000) % 4294967296)] (fun _ => True) (fun _ => False) rfl rfl ?aP (fun _ hk => hk.elim) ?aF ?aO ?aB ?aS ?aL ?_; (case aP => exact rfl); (case aB => exact (by repeat (first | (with_reducible first | exact HB.out | apply below_alloc | apply pw_below_drewN | apply below_drew1) | exact HB.out))); (case aF => exact (fun _ _ => trivial)); (case aO => exact (by (with_reducible repeat (first | apply Kd.R_alloc | apply Kd.R_drewN | apply Kd.R_drew)); exact HO_3.out)); (case aS => exact (below_size (by repeat (first | (with_reducible first | exact HB.out | apply below_alloc | apply pw_below_drewN | apply below_drew1) | exact HB.out)))); (case aL => have := LMc3.out; omega); intro v296 w4 ho hb hg hat; rw [← Ny295.out] at ho; have n0_ := Aside0.mk (hb); have n1_ := Aside0.mk (ho); clear HB; clear HO_3; have HB := n0_; have HO297 := n1_; clear n0_ n1_; clear ho hb hg hat))
     go_roundg k1
     case measure => have := HK1.out; omega
     case rel => exact ⟨(IntKind.u64.wrap (Int.tdiv x0_1 1000000000)), (y295), (by first | rfl | (simp; done) | (simp [*]; done)), H', ⟨by have := HK1.out; omega⟩, ⟨by (with_reducible repeat (first | apply Kd.R_alloc | apply Kd.R_drewN | apply Kd.R_drew)); exact HO297.out⟩, ⟨by repeat (first | (with_reducible first | exact HB.out | apply below_alloc | apply pw_below_drewN | apply below_drew1) | exact HB.out)⟩⟩
    ·rw [if_neg c3] at H
     exact absurd H (by simp)
   ·rw [if_neg c2] at H
    have c2b0 : decide (0 < x0_1) = false := decide_eq_false c2
    clear c2
    obtain rfl := Option.some.inj H
    go_wp2
    go_ret
    exact ⟨_, by first | rfl | (simp [errW_none, errW_some] <;> rfl) | (simp [*, errW_none, errW_some] <;> rfl), by (with_reducible repeat (first | apply Kd.R_alloc | apply Kd.R_drewN | apply Kd.R_drew)); exact HO_3.out, by repeat (first | (with_reducible first | exact HB.out | apply below_alloc | apply pw_below_drewN | apply below_drew1) | exact HB.out)⟩
def spec_NatPow.l0 : Nat → List Int → Int → List Int → Option (List Int)
 | 0, _, _, _ => none
 | k + 1, x0, x1, x5 => if x1 > 0 then ((spec_NatMul.f k x5 x0).bind fun t301 => (spec_NatPow.l0 k x0 (wrap64 (x1 - 1)) t301)) else (some x5)
def spec_NatPow.f (k : Nat) (l0 : List Int) (a1 : Int) : Option (List Int) := (spec_NatFrom.f k 1).bind fun t298 => (spec_NatPow.l0 k l0 a1 t298)
set_option maxHeartbeats 8000000 in
set_option maxRecDepth 100000 in
theorem spec_NatPow.calls (k : Nat) (A0 : Option Addr) (c0 : Nat) (l0 : List Int) (a1 : Int) (r : List Int) (w : World) (hr0 : Kd.C (Kd.int .u32) w A0 l0.length l0) (hc0 : l0.length ≤ c0) (h : spec_NatPow.f k l0 a1 = some r) :
  Calls Tryz.prog 26 #[.slice A0 l0.length c0, .int .i64 a1] w fun e w' => ∃ v0_ : Value, e = .returned (v0_) ∧ Kd.V (Kd.int .u32) 87 w' w.heap.size (fun k_ => (w.heap.size ≤ k_)) v0_ r ∧ Below w.heap.size w w' := by
 have HR0 := Aside0.mk hr0
 have HC0 := Aside0.mk hc0
 clear hr0 hc0
 have HB := Aside0.mk (Below.refl w.heap.size w)
 have H : ((spec_NatFrom.f k 1).bind fun t298 => (spec_NatPow.l0 k l0 a1 t298)) = some r := h
 clear h
 replace H := Option.bind_eq_some_iff.mp H
 obtain ⟨t298, A30, H⟩ := H
 replace H : (spec_NatPow.l0 k l0 a1 t298) = some r := H
 have A3 := Aside0.mk A30
 clear A30
 have H' := Aside0.mk H
 clear H
 go_enter Tryz.func26, Tryz.ntmps26
 go_wp2_with (first | ((with_reducible refine gate_callee (f := 45) rfl ?_); refine goesL_ (some 6) rfl rfl Tryz.func45 (by kernel_rfl) rfl #[.int .u64 1] rfl (by (try simp only [List.map_toArray, List.map_cons, List.map_nil]); first | done | rfl | (simp only [List.length_drop, List.length_take]; rfl)) ?_; (with_reducible refine (spec_NatFrom.calls k 1 t298 _ A3.out).mono ?_); rintro e w4 ⟨v299, rfl, ho0, hb⟩; refine ⟨_, rfl, ?_⟩; have n0_ := Aside0.mk (Kd.R_lower (Kd.R_newM (M := fun k_ => (w.heap.size ≤ k_)) ho0 (below_size (by repeat (first | (with_reducible first | exact HB.out | apply below_alloc | apply pw_below_drewN | apply below_drew1) | exact HB.out))) (fun k_ h_ => h_)) (below_size (by repeat (first | (with_reducible first | exact HB.out | apply below_alloc | apply pw_below_drewN | apply below_drew1) | exact HB.out)))); have n1_ := Aside0.mk (below_step (by repeat (first | (with_reducible first | exact HB.out | apply below_alloc | apply pw_below_drewN | apply below_drew1) | exact HB.out)) hb); clear HB; have HO300 := n0_; have HB := n1_; clear n0_ n1_; (try clear hb); (try clear hb2); (try clear hk); (try clear hi); (try clear ho0)))
 go_loopg [1, 5] k (fun kq v1 v5 w' => ∃ (x1_1 : Int) (x5_1 : List Int), v1 = .int .i64 x1_1 ∧ Aside0 (spec_NatPow.l0 kq l0 x1_1 x5_1 = some r) ∧ Aside0 (kq ≤ k) ∧ Aside0 (Kd.V (Kd.int .u32) 87 w' w.heap.size (fun k_ => (w.heap.size ≤ k_)) v5 x5_1) ∧ Aside0 (Below w.heap.size w w'))
 case atStart => exact ⟨(a1), (t298), (by first | rfl | (simp; done) | (simp [*]; done)), H', ⟨Nat.le_refl _⟩, ⟨Kd.R_V (by (with_reducible repeat (first | apply Kd.R_alloc | apply Kd.R_drewN | apply Kd.R_drew)); exact Kd.R_mono HO300.out (fun _ hk => hk.1))⟩, ⟨by repeat (first | (with_reducible first | exact HB.out | apply below_alloc | apply pw_below_drewN | apply below_drew1) | exact HB.out)⟩⟩
 case round =>
  clear H'
  try clear c2
  try clear p2
  try clear c4
  obtain ⟨x1_1, x5_1, rfl, HA, HK1, HO_5, HB⟩ := hrel
  cases gk with
  | zero => exact absurd HA.out (by simp [spec_NatPow.l0])
  | succ k1 =>
   have H := HA.out
   clear HA
   simp only [spec_NatPow.l0] at H
   by_cases c5 : x1_1 > 0
   ·rw [if_pos c5] at H
    have c5b0 : decide (0 < x1_1) = true := decide_eq_true c5
    clear c5
    replace H := Option.bind_eq_some_iff.mp H
    obtain ⟨t301, A60, H⟩ := H
    replace H : (spec_NatPow.l0 k1 l0 (wrap64 (x1_1 - 1)) t301) = some r := H
    have A6 := Aside0.mk A60
    clear A60
    have H' := Aside0.mk H
    clear H
    obtain ⟨Ao7, co7, eo7⟩ := Kd.V_slice HO_5.out
    subst eo7
    go_wp2_with (first | ((with_reducible refine gate_callee (f := 29) rfl ?_); refine goesL_ (some 13) rfl rfl Tryz.func29 (by kernel_rfl) rfl #[.slice Ao7 x5_1.length co7, .slice A0 l0.length c0] rfl (by (try simp only [List.map_toArray, List.map_cons, List.map_nil]); first | done | rfl | (simp only [List.length_drop, List.length_take]; rfl)) ?_; (with_reducible refine (spec_NatMul.calls k1 _ _ x5_1 _ _ l0 t301 _ ?side1 ?side2 ?side3 ?side4 A6.out).mono ?_); (case side1 => repeat (first | exact (Kd.V_reads' HO_5.out).2.2 | (with_reducible refine Kd.C_alloc ?_ _) | (with_reducible refine Kd.C_drewN ?_ _) | (with_reducible refine Kd.C_drew ?_))); (case side2 => exact (Kd.V_reads' HO_5.out).2.1); (case side3 => repeat (first | exact (Kd.C_below HR0.out HB.out) | (with_reducible refine Kd.C_alloc ?_ _) | (with_reducible refine Kd.C_drewN ?_ _) | (with_reducible refine Kd.C_drew ?_))); (case side4 => exact HC0.out); rintro e w8 ⟨v302, rfl, ho0, hb⟩; refine ⟨_, rfl, ?_⟩; have n0_ := Aside0.mk (Kd.V_below (by (with_reducible repeat (first | apply Kd.V_alloc | apply Kd.V_drewN | apply Kd.V_drew)); exact HO_5.out) hb); have n1_ := Aside0.mk (Kd.V_lower (Kd.V_mono (ok' := fun k_ => (w.heap.size ≤ k_)) ho0 (fun k_ hk_ => (Nat.le_trans (below_size (by repeat (first | (with_reducible first | exact HB.out | apply below_alloc | apply pw_below_drewN | apply below_drew1) | exact HB.out))) hk_))) (below_size (by repeat (first | (with_reducible first | exact HB.out | apply below_alloc | apply pw_below_drewN | apply below_drew1) | exact HB.out)))); have n2_ := Aside0.mk (below_step (by repeat (first | (with_reducible first | exact HB.out | apply below_alloc | apply pw_below_drewN | apply below_drew1) | exact HB.out)) hb); clear HO_5; clear HB; have HO_5 := n0_; have HO303 := n1_; have HB := n2_; clear n0_ n1_ n2_; (try clear hb); (try clear hb2); (try clear hk); (try clear hi); (try clear ho0)))
    go_roundg k1
    case measure => have := HK1.out; omega
    case rel => exact ⟨(wrap64 (x1_1 - 1)), (t301), (by first | rfl | (simp; done) | (simp [*]; done)), H', ⟨by have := HK1.out; omega⟩, ⟨by (with_reducible repeat (first | apply Kd.V_alloc | apply Kd.V_drewN | apply Kd.V_drew)); exact HO303.out⟩, ⟨by repeat (first | (with_reducible first | exact HB.out | apply below_alloc | apply pw_below_drewN | apply below_drew1) | exact HB.out)⟩⟩
   ·rw [if_neg c5] at H
    have c5b0 : decide (0 < x1_1) = false := decide_eq_false c5
    clear c5
    obtain rfl := Option.some.inj H
    go_wp2
    go_ret
    exact ⟨_, by first | rfl | (simp [errW_none, errW_some] <;> rfl) | (simp [*, errW_none, errW_some] <;> rfl), by (with_reducible repeat (first | apply Kd.V_alloc | apply Kd.V_drewN | apply Kd.V_drew)); exact HO_5.out, by repeat (first | (with_reducible first | exact HB.out | apply below_alloc | apply pw_below_drewN | apply below_drew1) | exact HB.out)⟩
end Go.Proofs.YtilmldfbmmcchaaGreatDoor.PFnDecPowInt
