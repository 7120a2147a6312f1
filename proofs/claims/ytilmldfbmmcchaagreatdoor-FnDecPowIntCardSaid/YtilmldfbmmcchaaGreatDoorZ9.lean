/- Natural numbers of nine digits a limb, read from their digits. What the functions compute, and that they compute it. Blocks of words in memory: what a block holds, what a store makes of it, and which blocks a call may have written. No conditions. Words of 64 bits: the product of two words, and the product with a carry. No conditions but that the words are words. Loops over rows of words: products and sums, word by word. Natural numbers as slices of words: new rows, leading zeros, one word, a product by a word. clear and copy on rows of words, as laws for a walk. Natural numbers as slices of words: without leading zeros. Natural numbers as slices of words: a product by a word and a sum with a word. Conditions: each theorem bears its own. -/
import Derived.Laws.Bits64b
import Derived.Laws.CopyOwn
import Derived.Laws.Externs
import Derived.Lib.Hide
import Derived.Lib.Mul64
import Derived.Lib.SliceRun
import Derived.Test.YtilmldfbmmcchaaGreatDoorZ2
import Derived.WalkLawsBesides
import Derived.WalkSpells
set_option linter.unusedVariables false
set_option linter.unusedSimpArgs false
namespace Go.Proofs.YtilmldfbmmcchaaGreatDoor.PFnDecPowInt
open Go.RowKit Go.Proofs.YtilmldfbmmcchaaGreatDoorW.PrintWords Go.Proofs.YtilmldfbmmcchaaGreatDoorW.PrintLast Go.Proofs.YtilmldfbmmcchaaGreatDoorW.PrintMore
mutual
def spec_NatOf.l0 : Nat → ByteArray → List Int → Int → Option (List Int × Bool)
 | 0, _, _, _ => none
 | k + 1, x0, x4, x5 => if x5 > 0 then (spec_NatOf.l1 k x0 x4 x5 0 (mx 0 (wrap64 (x5 - 9)))) else ((spec_natTrim.f k x4).bind fun t144 => (some (t144, (!x0.toList.isEmpty))))
def spec_NatOf.l1 : Nat → ByteArray → List Int → Int → Int → Int → Option (List Int × Bool)
 | 0, _, _, _, _, _ => none
 | k + 1, x0, x4, x5, x6, x7 => if x7 < x5 then (if 0 ≤ x7 then (if x7 < (x0.size : Int) then (if (bt x0 x7) < 48 then (some (([] : List Int), false)) else (if (bt x0 x7) > 57 then (some (([] : List Int), false)) else (spec_NatOf.l1 k x0 x4 x5 ((((x6 * 10) % 4294967296) + (((bt x0 x7) - 48) % 256)) % 4294967296) (wrap64 (x7 + 1))))) else (none)) else (none)) else (if x4.length < 35184372088832 then (spec_NatOf.l0 k x0 (x4 ++ [x6]) (wrap64 (x5 - 9))) else (none))
end
def spec_NatOf.f (k : Nat) (a0 : ByteArray) : Option (List Int × Bool) := spec_NatOf.l0 k a0 ([] : List Int) (a0.size : Int)
set_option maxHeartbeats 8000000 in
set_option maxRecDepth 100000 in
theorem spec_NatOf.calls (k : Nat) (a0 : ByteArray) (r1 : List Int) (r2 : Bool) (w : World) (h : spec_NatOf.f k a0 = some (r1, r2)) :
  Calls Tryz.prog 60 #[.string a0] w fun e w' => ∃ v0_ : Value, e = .returned (.tuple #[v0_, .bool r2]) ∧ Kd.V (Kd.int .u32) 87 w' w.heap.size (fun k_ => (w.heap.size ≤ k_)) v0_ r1 ∧ Below w.heap.size w w' := by
 have HB := Aside0.mk (Below.refl w.heap.size w)
 have H : (spec_NatOf.l0 k a0 ([] : List Int) (a0.size : Int)) = some (r1, r2) := h
 clear h
 have H' := Aside0.mk H
 clear H
 go_enter Tryz.func60, Tryz.ntmps60
 go_wp2
 go_loopg [4, 5] k (fun kq v4 v5 w' => ∃ (x4_1 : List Int) (x5_1 : Int), v5 = .int .i64 x5_1 ∧ Aside0 (spec_NatOf.l0 kq a0 x4_1 x5_1 = some (r1, r2)) ∧ Aside0 (kq ≤ k) ∧ Aside0 (Kd.R (Kd.int .u32) 87 w' w.heap.size (fun k_ => (w.heap.size ≤ k_)) v4 x4_1) ∧ Aside0 (Below w.heap.size w w'))
 case atStart => exact ⟨(([] : List Int)), ((a0.size : Int)), (by first | rfl | (simp; done) | (simp [*]; done)), H', ⟨Nat.le_refl _⟩, ⟨by first | exact Kd.R_nil _ _ _ _ _ | exact Kd.N_nil _ _ _ _ _ | exact Kd.V_nil _ _ _ _ _ | exact Kd.Q_nil _ _ _ _ _ | exact Kd.S_nil _ _ _ _ _⟩, ⟨by repeat (first | (with_reducible first | exact HB.out | apply below_alloc | apply pw_below_drewN | apply below_drew1) | exact HB.out)⟩⟩
 case round =>
  clear H'
  obtain ⟨x4_1, x5_1, rfl, HA, HK1, HO_4, HB⟩ := hrel
  cases gk with
  | zero => exact absurd HA.out (by simp [spec_NatOf.l0])
  | succ k1 =>
   have H := HA.out
   clear HA
   simp only [spec_NatOf.l0] at H
   by_cases c2 : x5_1 > 0
   ·rw [if_pos c2] at H
    have c2b0 : decide (0 < x5_1) = true := decide_eq_true c2
    clear c2
    obtain ⟨ji3, hji3⟩ : ∃ j_ : Int, (mx 0 (wrap64 (x5_1 - 9))) = j_ := ⟨_, rfl⟩
    replace H : (spec_NatOf.l1 k1 a0 x4_1 x5_1 0 ji3) = some (r1, r2) := by first | (rw [hji3] at H; exact H) | (simp only [hji3] at H ⊢; exact H)
    have hji3_ : (if 0 < (wrap64 (x5_1 - 9)) then (wrap64 (x5_1 - 9)) else 0) = ji3 := hji3
    have H' := Aside0.mk H
    clear H
    go_wp2
    go_loopg [6, 7] k1 (fun kq v6 v7 w' => ∃ (x6_2 : Int) (x7_2 : Int), v6 = .int .u32 x6_2 ∧ v7 = .int .i64 x7_2 ∧ Aside0 (spec_NatOf.l1 kq a0 x4_1 x5_1 x6_2 x7_2 = some (r1, r2)) ∧ Aside0 (kq ≤ k1) ∧ Aside0 (Kd.R (Kd.int .u32) 87 w' w.heap.size (fun k_ => (w.heap.size ≤ k_)) u4 x4_1) ∧ Aside0 (Below w.heap.size w w'))
    case atStart => exact ⟨(0), (ji3), (by first | rfl | (simp; done) | (simp [*]; done)), (by first | rfl | (simp; done) | (simp only [← hji3] <;> (first | rfl | simp)) | (simp [*]; done)), H', ⟨Nat.le_refl _⟩, ⟨by (with_reducible repeat (first | apply Kd.R_alloc | apply Kd.R_drewN | apply Kd.R_drew)); exact HO_4.out⟩, ⟨by repeat (first | (with_reducible first | exact HB.out | apply below_alloc | apply pw_below_drewN | apply below_drew1) | exact HB.out)⟩⟩
    case round =>
     clear H'
     try clear c2
     try clear c2b0
     try clear p2
     obtain ⟨x6_2, x7_2, rfl, rfl, HA, HK2, HO_4, HB⟩ := hrel
     cases gk with
     | zero => exact absurd HA.out (by simp [spec_NatOf.l1])
     | succ k2 =>
      have H := HA.out
      clear HA
      simp only [spec_NatOf.l1] at H
      by_cases c4 : x7_2 < x5_1
      ·rw [if_pos c4] at H
       have c4b0 : decide (x7_2 < x5_1) = true := decide_eq_true c4
       clear c4
       by_cases c5 : 0 ≤ x7_2
       ·rw [if_pos c5] at H
        have c5b0 : decide (0 ≤ x7_2) = true := decide_eq_true c5
        clear c5
        by_cases c6 : x7_2 < (a0.size : Int)
        ·rw [if_pos c6] at H
         have c6b0 : decide (x7_2 < (a0.size : Int)) = true := decide_eq_true c6
         clear c6
         by_cases c8 : (bt a0 x7_2) < 48
         ·rw [if_pos c8] at H
          have c8b0 : decide ((bt a0 x7_2) < 48) = true := decide_eq_true c8
          clear c8
          simp only [Option.some.injEq, Prod.mk.injEq] at H
          obtain ⟨rfl, rfl⟩ := H
          have p7 : 0 ≤ (x7_2 : Int) := of_decide_eq_true (by first | (with_reducible assumption) | assumption)
          have q7 : x7_2 < (a0.size : Int) := of_decide_eq_true (by first | (with_reducible assumption) | assumption)
          have hx7 := bt_at a0 x7_2
          replace p7 := eq_true p7
          replace q7 := eq_true q7
          go_wp2
          go_ret2
          exact ⟨.slice none 0 0, by first | rfl | (simp [errW_none, errW_some] <;> rfl) | (simp only [← hji3]; first | rfl | (simp [errW_none, errW_some] <;> rfl)) | (simp [*, errW_none, errW_some] <;> rfl), Kd.V_nil _ _ _ _ _, by repeat (first | (with_reducible first | exact HB.out | apply below_alloc | apply pw_below_drewN | apply below_drew1) | exact HB.out)⟩
         ·rw [if_neg c8] at H
          have c8b0 : decide ((bt a0 x7_2) < 48) = false := decide_eq_false c8
          clear c8
          by_cases c10 : (bt a0 x7_2) > 57
          ·rw [if_pos c10] at H
           have c10b0 : decide (57 < (bt a0 x7_2)) = true := decide_eq_true c10
           clear c10
           simp only [Option.some.injEq, Prod.mk.injEq] at H
           obtain ⟨rfl, rfl⟩ := H
           have p7 : 0 ≤ (x7_2 : Int) := of_decide_eq_true (by first | (with_reducible assumption) | assumption)
           have q7 : x7_2 < (a0.size : Int) := of_decide_eq_true (by first | (with_reducible assumption) | assumption)
           have hx7 := bt_at a0 x7_2
           replace p7 := eq_true p7
           replace q7 := eq_true q7
           have p9 : 0 ≤ (x7_2 : Int) := of_decide_eq_true (by first | (with_reducible assumption) | assumption)
           have q9 : x7_2 < (a0.size : Int) := of_decide_eq_true (by first | (with_reducible assumption) | assumption)
           have hx9 := bt_at a0 x7_2
           replace p9 := eq_true p9
           replace q9 := eq_true q9
           go_wp2
           go_ret2
           exact ⟨.slice none 0 0, by first | rfl | (simp [errW_none, errW_some] <;> rfl) | (simp only [← hji3]; first | rfl | (simp [errW_none, errW_some] <;> rfl)) | (simp [*, errW_none, errW_some] <;> rfl), Kd.V_nil _ _ _ _ _, by repeat (first | (with_reducible first | exact HB.out | apply below_alloc | apply pw_below_drewN | apply below_drew1) | exact HB.out)⟩
          ·rw [if_neg c10] at H
           have c10b0 : decide (57 < (bt a0 x7_2)) = false := decide_eq_false c10
           clear c10
           have H' := Aside0.mk H
           clear H
           have p7 : 0 ≤ (x7_2 : Int) := of_decide_eq_true (by first | (with_reducible assumption) | assumption)
           have q7 : x7_2 < (a0.size : Int) := of_decide_eq_true (by first | (with_reducible assumption) | assumption)
           have hx7 := bt_at a0 x7_2
           replace p7 := eq_true p7
           replace q7 := eq_true q7
           have p9 : 0 ≤ (x7_2 : Int) := of_decide_eq_true (by first | (with_reducible assumption) | assumption)
           have q9 : x7_2 < (a0.size : Int) := of_decide_eq_true (by first | (with_reducible assumption) | assumption)
           have hx9 := bt_at a0 x7_2
           replace p9 := eq_true p9
           replace q9 := eq_true q9
           have p11 : 0 ≤ (x7_2 : Int) := of_decide_eq_true (by first | (with_reducible assumption) | assumption)
           have q11 : x7_2 < (a0.size : Int) := of_decide_eq_true (by first | (with_reducible assumption) | assumption)
           have hx11 := bt_at a0 x7_2
           replace p11 := eq_true p11
           replace q11 := eq_true q11
           go_wp2
           go_roundg k2
           case measure => have := HK1.out; have := HK2.out; omega
           case rel => exact ⟨((((x6_2 * 10) % 4294967296) + (((bt a0 x7_2) - 48) % 256)) % 4294967296), (wrap64 (x7_2 + 1)), (by first | rfl | (simp; done) | (simp [*]; done)), (by first | rfl | (simp; done) | (simp [*]; done)), H', ⟨by have := HK1.out; have := HK2.out; omega⟩, ⟨by (with_reducible repeat (first | apply Kd.R_alloc | apply Kd.R_drewN | apply Kd.R_drew)); exact HO_4.out⟩, ⟨by repeat (first | (with_reducible first | exact HB.out | apply below_alloc | apply pw_below_drewN | apply below_drew1) | exact HB.out)⟩⟩
        ·rw [if_neg c6] at H
         exact absurd H (by simp)
       ·rw [if_neg c5] at H
        exact absurd H (by simp)
      ·rw [if_neg c4] at H
       have c4b0 : decide (x7_2 < x5_1) = false := decide_eq_false c4
       clear c4
       by_cases c12 : x4_1.length < 35184372088832
       ·rw [if_pos c12] at H
        have LMc12 := Aside0.mk c12
        clear c12
        obtain ⟨y147, hy147⟩ : ∃ y_ : List Int, y_ = (x4_1 ++ [x6_2]) := ⟨_, rfl⟩
        replace H : (spec_NatOf.l0 k2 a0 y147 (wrap64 (x5_1 - 9))) = some (r1, r2) := by first | (rw [hy147]; with_reducible exact H) | (have H2_ := (Option.bind_some _ _).symm.trans H; rw [hy147]; with_reducible exact H2_) | (have H2_ := (Option.bind_some _ _).symm.trans H; with_reducible exact H2_) | with_reducible exact H | (rw [hy147]; exact H) | exact H
        have Ny147 := Aside0.mk hy147
        clear hy147
        have H' := Aside0.mk H
        clear H
        go_wp2_with (first | ((with_reducible refine gate_builtin (b := .append) (xs := #[.tmp 40, .tmp 42]) rfl ?_); at_builtin; refine Kd.R_append (Kd.int .u32) (w0 := w) w.heap.size rfl (.tmp 40) (.tmp 42) 26 87 (.int .u32 0) 4 rfl Tryz.underlying26 info87 rfl (by decide) (by omega) u4 x4_1 x6_2 [.int .u32 x6_2] (fun k_ => (w.heap.size ≤ k_)) (fun _ => False) rfl rfl ?aP (fun _ hk => hk.elim) ?aF ?aO ?aB ?aS ?aL ?_; (case aP => exact rfl); (case aB => exact (by repeat (first | (with_reducible first | exact HB.out | apply below_alloc | apply pw_below_drewN | apply below_drew1) | exact HB.out))); (case aF => exact (fun k_ hk => (Nat.le_trans (below_size (by repeat (first | (with_reducible first | exact HB.out | apply below_alloc | apply pw_below_drewN | apply below_drew1) | exact HB.out))) hk))); (case aO => exact (by (with_reducible repeat (first | apply Kd.R_alloc | apply Kd.R_drewN | apply Kd.R_drew)); exact HO_4.out)); (case aS => exact (below_size (by repeat (first | (with_reducible first | exact HB.out | apply below_alloc | apply pw_below_drewN | apply below_drew1) | exact HB.out)))); (case aL => have := LMc12.out; omega); intro v148 w13 ho hb hg hat; rw [← Ny147.out] at ho; have n0_ := Aside0.mk (hb); have n1_ := Aside0.mk (ho); clear HB; clear HO_4; have HB := n0_; have HO149 := n1_; clear n0_ n1_; clear ho hb hg hat))
        go_roundg k2
        case measure => have := HK1.out; have := HK2.out; omega
        case rel => exact ⟨(y147), (wrap64 (x5_1 - 9)), (by first | rfl | (simp; done) | (simp [*]; done)), H', ⟨by have := HK1.out; have := HK2.out; omega⟩, ⟨by (with_reducible repeat (first | apply Kd.R_alloc | apply Kd.R_drewN | apply Kd.R_drew)); exact HO149.out⟩, ⟨by repeat (first | (with_reducible first | exact HB.out | apply below_alloc | apply pw_below_drewN | apply below_drew1) | exact HB.out)⟩⟩
       ·rw [if_neg c12] at H
        exact absurd H (by simp)
   ·rw [if_neg c2] at H
    have c2b0 : decide (0 < x5_1) = false := decide_eq_false c2
    clear c2
    replace H := Option.bind_eq_some_iff.mp H
    obtain ⟨t144, A140, H⟩ := H
    replace H : (some (t144, (!a0.toList.isEmpty))) = some (r1, r2) := H
    have A14 := Aside0.mk A140
    clear A140
    simp only [Option.some.injEq, Prod.mk.injEq] at H
    obtain ⟨rfl, rfl⟩ := H
    obtain ⟨Ao15, co15, eo15⟩ := Kd.R_slice HO_4.out
    subst eo15
    go_wp2_with (first | ((with_reducible refine gate_callee (f := 53) rfl ?_); refine goesL_ (some 45) rfl rfl Tryz.func53 (by kernel_rfl) rfl #[.slice Ao15 x4_1.length co15] rfl (by (try simp only [List.map_toArray, List.map_cons, List.map_nil]); first | done | rfl | (simp only [List.length_drop, List.length_take]; rfl)) ?_; (with_reducible refine (spec_natTrim.calls k1 (fun k_ => some k_ = (.slice Ao15 x4_1.length co15 : Value).ownBlock) _ _ x4_1 t144 _ ?side1 A14.out).mono ?_); (case side1 => exact Kd.R_V (Kd.R_tight rfl (HO_4.out))); rintro e w16 ⟨v145, rfl, ho0, hb⟩; refine ⟨_, rfl, ?_⟩; have n0_ := Aside0.mk (Kd.R_below (by (with_reducible repeat (first | apply Kd.R_alloc | apply Kd.R_drewN | apply Kd.R_drew)); exact HO_4.out) hb); have n1_ := Aside0.mk (Kd.V_lower (Kd.V_mono (ok' := fun k_ => (w.heap.size ≤ k_)) ho0 (fun k_ hk_ => Or.elim hk_ (fun hs_ => ((HO_4.out).1 k_ hs_.symm)) (fun hn_ => (Nat.le_trans (below_size (by repeat (first | (with_reducible first | exact HB.out | apply below_alloc | apply pw_below_drewN | apply below_drew1) | exact HB.out))) hn_)))) (below_size (by repeat (first | (with_reducible first | exact HB.out | apply below_alloc | apply pw_below_drewN | apply below_drew1) | exact HB.out)))); have n2_ := Aside0.mk (below_step (by repeat (first | (with_reducible first | exact HB.out | apply below_alloc | apply pw_below_drewN | apply below_drew1) | exact HB.out)) hb); clear HO_4; clear HB; have HO_4 := n0_; have HO146 := n1_; have HB := n2_; clear n0_ n1_ n2_; (try clear hb); (try clear hb2); (try clear hk); (try clear hi); (try clear ho0)))
    go_ret2
    exact ⟨_, by first | rfl | (simp [errW_none, errW_some] <;> rfl) | (simp [*, errW_none, errW_some] <;> rfl), by (with_reducible repeat (first | apply Kd.V_alloc | apply Kd.V_drewN | apply Kd.V_drew)); exact HO146.out, by repeat (first | (with_reducible first | exact HB.out | apply below_alloc | apply pw_below_drewN | apply below_drew1) | exact HB.out)⟩
end Go.Proofs.YtilmldfbmmcchaaGreatDoor.PFnDecPowInt
namespace Go.Proofs.YtilmldfbmmcchaaGreatDoor
open Go.RowKit
def BB : Nat := 18446744073709551616
theorem BB_eq : BB = 18446744073709551616 := rfl
theorem BB_pos : 0 < BB := by unfold BB; omega
def LL : Nat := 1000000000
theorem LL_eq : LL = 1000000000 := rfl
def capK : IntKind → Nat
 | .u8 => 256
 | .u32 => 4294967296
 | .u64 => BB
 | _ => 0
structure Blk (K : IntKind) (T : TypeId) (w : World) (g len : Nat) (F : Nat → Nat) : Prop where
 row : ∃ c : Array Value, w.heap[g]? = some (.cells c T (0, 0)) ∧ c.size = len ∧ ∀ j, j < len → c[j]? = some (.int K (F j : Nat))
 word : ∀ j, j < len → F j < capK K
 room : len ≤ LL
abbrev TW : TypeId := 94
abbrev BlkW := Blk .u64 TW
structure Fr (S : Nat → Prop) (w w' : World) : Prop where
 os : w'.os = w.os
 tape : w'.tape = w.tape
 output : w'.output = w.output
 size : w.heap.size ≤ w'.heap.size
 block : ∀ k, k < w.heap.size → ¬ S k → w'.heap[k]? = w.heap[k]?
abbrev NoS : Nat → Prop := fun _ => False
theorem Fr.refl (S : Nat → Prop) (w : World) : Fr S w w := ⟨rfl, rfl, rfl, Nat.le_refl _, fun _ _ _ => rfl⟩
theorem Fr.trans {S S' : Nat → Prop} {w w1 w2 : World} (h : Fr S w w1) (k : Fr S' w1 w2) (hs : ∀ i, i < w.heap.size → S' i → S i) : Fr S w w2 :=
 ⟨k.os.trans h.os, k.tape.trans h.tape, k.output.trans h.output, Nat.le_trans h.size k.size,
  fun i hi hn => (k.block i (Nat.lt_of_lt_of_le hi h.size) (fun x => hn (hs i hi x))).trans (h.block i hi hn)⟩
theorem Fr.trans' {S : Nat → Prop} {w w1 w2 : World} (h : Fr S w w1) (k : Fr S w1 w2) : Fr S w w2 := h.trans k fun _ _ x => x
theorem Fr.mono {S S' : Nat → Prop} {w w' : World} (h : Fr S w w') (hs : ∀ i, i < w.heap.size → S i → S' i) : Fr S' w w' :=
 ⟨h.os, h.tape, h.output, h.size, fun k hk hn => h.block k hk (fun x => hn (hs k hk x))⟩
theorem Fr.drew {S : Nat → Prop} {a w : World} (h : Fr S a w) : Fr S a w.drew := ⟨h.os, h.tape, h.output, h.size, h.block⟩
theorem Fr.drewN {S : Nat → Prop} {a w : World} (h : Fr S a w) (n : Nat) : Fr S a (w.drewN n) := ⟨h.os, h.tape, h.output, h.size, h.block⟩
theorem Fr.alloc {S : Nat → Prop} {a w : World} (h : Fr S a w) (o : Obj) : Fr S a (w.alloc o) :=
 ⟨h.os, h.tape, h.output, by have := h.size; simp; omega, fun k hk hn => by
  rw [← h.block k hk hn]; exact Below.heap_alloc _ _ _ (by have := h.size; omega)⟩
theorem Fr.setCell {S : Nat → Prop} {a w : World} (h : Fr S a w) (p : Addr) (v : Value) (hp : a.heap.size ≤ p.block ∨ S p.block) : Fr S a (w.setCell p v) :=
 ⟨h.os, h.tape, h.output, by simpa using h.size, fun k hk hn => by
  rw [← h.block k hk hn]; refine Below.heap_setCell _ _ _ _ ?_; rintro rfl; rcases hp with hp | hp; · omega
  ·exact hn hp⟩
theorem Fr.set (w : World) (p o : Nat) (v : Value) : Fr (fun k => k = p) w (w.setCell ⟨p, o, none⟩ v) := (Fr.refl (fun k => k = p) w).setCell ⟨p, o, none⟩ v (.inr rfl)
theorem Fr.below {w w' : World} (h : Fr NoS w w') : Below w.heap.size w w' := ⟨h.os, h.tape, h.output, h.size, fun k hk => h.block k hk (fun x => x)⟩
theorem Fr.of_below {S : Nat → Prop} {w w' : World} (h : Below w.heap.size w w') : Fr S w w' := ⟨h.os, h.tape, h.output, h.size, fun k hk _ => h.block k hk⟩
theorem Fr.lt {S : Nat → Prop} {w w' : World} (h : Fr S w w') {k : Nat} (hk : k < w.heap.size) : k < w'.heap.size := Nat.lt_of_lt_of_le hk h.size
theorem Fr.cell {S : Nat → Prop} {w w' : World} (h : Fr S w w') {p : Addr} (hp : p.block < w.heap.size) (hn : ¬ S p.block) : w'.cell? p = w.cell? p := World.cell?_of_block (w := w) (h.block p.block hp hn)
section
variable {K : IntKind} {T : TypeId} {w w' : World} {g len : Nat} {F : Nat → Nat}
theorem Blk.lt (h : Blk K T w g len F) : g < w.heap.size := by
 obtain ⟨c, hc, _⟩ := h.row
 exact (zLt hc)
theorem Blk.of_eq (h : Blk K T w g len F) (e : w'.heap[g]? = w.heap[g]?) : Blk K T w' g len F :=
 ⟨by obtain ⟨c, hc, r⟩ := h.row; exact ⟨c, e.trans hc, r⟩, h.word, h.room⟩
theorem Blk.fr {S : Nat → Prop} (h : Blk K T w g len F) (f : Fr S w w') (hn : ¬ S g) : Blk K T w' g len F := h.of_eq (f.block g h.lt hn)
theorem Blk.drew (h : Blk K T w g len F) : Blk K T w.drew g len F := h.of_eq rfl
theorem Blk.drewN (h : Blk K T w g len F) (n : Nat) : Blk K T (w.drewN n) g len F := h.of_eq rfl
theorem Blk.alloc (h : Blk K T w g len F) (o : Obj) : Blk K T (w.alloc o) g len F := h.of_eq (Below.heap_alloc _ _ _ h.lt)
theorem Blk.cell (h : Blk K T w g len F) {j : Nat} (hj : j < len) : w.cell? ⟨g, j, none⟩ = some (.int K (F j : Nat)) := by
 obtain ⟨c, hc, hs, hr⟩ := h.row
 simp [World.cell?, hc, hr j hj]
theorem Blk.free (h : Blk K T w g len F) (j : Nat) : w.frozen? ⟨g, j, none⟩ = false := by
 obtain ⟨c, hc, _⟩ := h.row
 simp [World.frozen?, hc]
def upd (F : Nat → Nat) (i x : Nat) : Nat → Nat := fun j => if j = i then x else F j
theorem upd_same (F : Nat → Nat) (i x : Nat) : upd F i x i = x := by simp [upd]
theorem upd_other (F : Nat → Nat) (i x j : Nat) (h : j ≠ i) : upd F i x j = F j := by simp [upd, h]
theorem Blk.store (h : Blk K T w g len F) {i x : Nat} (hx : x < capK K) : Blk K T (w.setCell ⟨g, i, none⟩ (.int K (x : Nat))) g len (upd F i x) := by
 obtain ⟨c, hc, hs, hr⟩ := h.row
 refine ⟨⟨c.setIfInBounds i (.int K (x : Nat)), ?_, by simp [hs], fun j hj => ?_⟩, fun j hj => ?_, h.room⟩
 ·simp [World.setCell, Array.getElem?_modify, hc]
 ·rw [Array.getElem?_setIfInBounds]
  by_cases e : i = j
  ·subst e; rw [if_pos rfl, if_pos (by omega), upd_same]
  ·rw [if_neg e, hr j hj, upd_other _ _ _ _ (fun x => e x.symm)]
 ·unfold upd; split
  ·exact hx
  ·exact h.word j hj
theorem Blk.other (h : Blk K T w g len F) {p : Addr} (hp : p.block ≠ g) (v : Value) : Blk K T (w.setCell p v) g len F :=
 h.of_eq (Below.heap_setCell _ _ _ _ (fun e => hp e.symm))
theorem Blk.congr {G : Nat → Nat} (h : Blk K T w g len F) (e : ∀ j, j < len → F j = G j) : Blk K T w g len G :=
 ⟨by obtain ⟨c, hc, hs, hr⟩ := h.row; exact ⟨c, hc, hs, fun j hj => by rw [hr j hj, e j hj]⟩, fun j hj => by rw [← e j hj]; exact h.word j hj, h.room⟩
theorem Blk.made (w : World) (n : Nat) (hn : n ≤ LL) (hK : 0 < capK K) : Blk K T (w.alloc (.cells (Array.replicate n (.int K 0)) T)) w.heap.size n (fun _ => 0) :=
 ⟨⟨Array.replicate n (.int K 0), heap_alloc_new w _, Array.size_replicate, fun j hj => by rw [Array.getElem?_replicate, if_pos hj]; rfl⟩, fun _ _ => hK, hn⟩
end
def Rd (K : IntKind) (T : TypeId) (w : World) (v : Value) (n : Nat) (F : Nat → Nat) : Prop :=
 (v = .slice none 0 0 ∧ n = 0) ∨ ∃ (g o c : Nat) (cs : Array Value), v = .slice (some ⟨g, o, none⟩) n c ∧ n ≤ c ∧ (n ≤ LL ∧ c ≤ 9223372036854775807) ∧ o ≤ LL ∧ w.heap[g]? = some (.cells cs T (0, 0)) ∧
  ∀ j, j < n → cs[o + j]? = some (.int K (F j : Nat)) ∧ F j < capK K
def Own (K : IntKind) (T : TypeId) (w : World) (v : Value) (n : Nat) (F : Nat → Nat) : Prop :=
 (v = .slice none 0 0 ∧ n = 0) ∨ ∃ g c : Nat, v = .slice (some ⟨g, 0, none⟩) n c ∧ n ≤ c ∧ Blk K T w g c F
abbrev RdW := Rd .u64 TW
abbrev OwnW := Own .u64 TW
section
variable {K : IntKind} {T : TypeId} {w w' : World} {v : Value} {n : Nat} {F : Nat → Nat}
theorem Own.rd (h : Own K T w v n F) : Rd K T w v n F := by
 rcases h with h | ⟨g, c, rfl, hn, hb⟩
 ·exact .inl h
 ·have hr := hb.room
  obtain ⟨cs, hc, hs, hr'⟩ := hb.row
  exact .inr ⟨g, 0, c, cs, rfl, hn, ⟨Nat.le_trans hn hr, by rw [LL_eq] at hr; omega⟩, Nat.zero_le _, hc, fun j hj => ⟨by rw [Nat.zero_add]; exact hr' j (by omega), hb.word j (by omega)⟩⟩
theorem Rd.lt (h : Rd K T w v n F) {k : Nat} (hk : v.ownBlock = some k) : k < w.heap.size := by
 rcases h with ⟨rfl, _⟩ | ⟨g, o, c, cs, rfl, _, _, _, hc, _⟩
 ·simp [Value.ownBlock] at hk
 ·simp [Value.ownBlock] at hk; subst hk; exact (zLt hc)
theorem Rd.of_eq (h : Rd K T w v n F) (e : ∀ k, v.ownBlock = some k → w'.heap[k]? = w.heap[k]?) : Rd K T w' v n F := by
 rcases h with h | ⟨g, o, c, cs, rfl, h1, h2, h3, hc, hr⟩
 ·exact .inl h
 ·exact .inr ⟨g, o, c, cs, rfl, h1, h2, h3, (e g rfl).trans hc, hr⟩
theorem Rd.fr {S : Nat → Prop} (h : Rd K T w v n F) (f : Fr S w w') (hn : ∀ k, v.ownBlock = some k → ¬ S k) : Rd K T w' v n F := h.of_eq fun k hk => f.block k (h.lt hk) (hn k hk)
theorem Own.lt (h : Own K T w v n F) {k : Nat} (hk : v.ownBlock = some k) : k < w.heap.size := h.rd.lt hk
theorem Own.of_eq (h : Own K T w v n F) (e : ∀ k, v.ownBlock = some k → w'.heap[k]? = w.heap[k]?) : Own K T w' v n F := by
 rcases h with h | ⟨g, c, rfl, h1, hb⟩
 ·exact .inl h
 ·exact .inr ⟨g, c, rfl, h1, hb.of_eq (e g rfl)⟩
theorem Own.fr {S : Nat → Prop} (h : Own K T w v n F) (f : Fr S w w') (hn : ∀ k, v.ownBlock = some k → ¬ S k) : Own K T w' v n F := h.of_eq fun k hk => f.block k (h.lt hk) (hn k hk)
theorem Rd.word (h : Rd K T w v n F) {j : Nat} (hj : j < n) : F j < capK K := by
 rcases h with ⟨_, rfl⟩ | ⟨g, o, c, cs, rfl, h1, h2, h3, hc, hr⟩
 ·omega
 ·exact (hr j hj).2
theorem Rd.le (h : Rd K T w v n F) : n ≤ LL := by
 rcases h with ⟨_, rfl⟩ | ⟨g, o, c, cs, rfl, h1, h2, h3, hc, hr⟩
 ·exact Nat.zero_le _
 ·exact h2.1
theorem cell_of_heap {g o : Nat} {cs : Array Value} {T : TypeId} {fr : Nat × Nat} {u : Value} (h : w.heap[g]? = some (.cells cs T fr)) (hu : cs[o]? = some u) : w.cell? ⟨g, o, none⟩ = some u := by
 simp [World.cell?, h, hu]
end
def Vb (b : Nat) (F : Nat → Nat) (o : Nat) : Nat → Nat
 | 0 => 0
 | n + 1 => Vb b F o n + b ^ n * F (o + n)
section
variable {b : Nat} {F G : Nat → Nat} {o o' n : Nat}
theorem V_zero (b : Nat) (F : Nat → Nat) (o : Nat) : Vb b F o 0 = 0 := rfl
theorem V_succ (b : Nat) (F : Nat → Nat) (o n : Nat) : Vb b F o (n + 1) = Vb b F o n + b ^ n * F (o + n) := rfl
theorem V_congr (h : ∀ j, j < n → F (o + j) = G (o' + j)) : Vb b F o n = Vb b G o' n := by
 induction n with
 | zero => rfl
 | succ n ih => rw [V_succ, V_succ, ih (fun j hj => h j (by omega)), h n (by omega)]
theorem V_lt (h : ∀ j, j < n → F (o + j) < b) : Vb b F o n < b ^ n := by
 induction n with
 | zero => simp [Vb]
 | succ n ih =>
  have h1 := ih (fun j hj => h j (by omega))
  have h2 : F (o + n) + 1 ≤ b := h n (by omega)
  rw [V_succ, Nat.pow_succ]
  calc Vb b F o n + b ^ n * F (o + n) < b ^ n + b ^ n * F (o + n) := by omega
   _ = b ^ n * (F (o + n) + 1) := by rw [Nat.mul_add]; omega
   _ ≤ b ^ n * b := Nat.mul_le_mul_left _ h2
theorem V_add (b : Nat) (F : Nat → Nat) (o m n : Nat) : Vb b F o (m + n) = Vb b F o m + b ^ m * Vb b F (o + m) n := by
 induction n with
 | zero => simp [Vb]
 | succ n ih => rw [← Nat.add_assoc, V_succ, ih, V_succ, Nat.mul_add, Nat.pow_add, ← Nat.mul_assoc, Nat.add_assoc o m n]; omega
theorem V_upd_succ (b : Nat) (F : Nat → Nat) (o n x : Nat) : Vb b (upd F (o + n) x) o (n + 1) = Vb b F o n + b ^ n * x := by
 rw [V_succ, upd_same, V_congr (F := upd F (o + n) x) (G := F) (o' := o) (fun j hj => upd_other _ _ _ _ (by omega))]
theorem split_word (p : Nat) : p % BB + BB * (p / BB) = p := Nat.mod_add_div p BB
theorem V_one (b : Nat) (F : Nat → Nat) (o : Nat) : Vb b F o 1 = F o := by simp [Vb]
def Top (F : Nat → Nat) (n : Nat) : Prop := n = 0 ∨ 0 < F (n - 1)
theorem V_top (h : 0 < F (o + n)) : b ^ n ≤ Vb b F o (n + 1) := by
 rw [V_succ]
 have := Nat.mul_le_mul_left (b ^ n) h
 omega
theorem V_zeros (h : ∀ j, j < n → F (o + j) = 0) : Vb b F o n = 0 := by
 induction n with
 | zero => rfl
 | succ n ih => rw [V_succ, ih (fun j hj => h j (by omega)), h n (by omega)]; rfl
end
theorem Rd.shape {K : IntKind} {T : TypeId} {w : World} {v : Value} {n : Nat} {F : Nat → Nat} (h : Rd K T w v n F) : ∃ A c, v = .slice A n c ∧ n ≤ c ∧ c ≤ 9223372036854775807 := by
 rcases h with ⟨rfl, rfl⟩ | ⟨g, o, c, cs, rfl, h1, h2, _⟩
 ·exact ⟨none, 0, rfl, by omega, by omega⟩
 ·exact ⟨_, c, rfl, h1, h2.2⟩
theorem bodyPostD_ret {P : Program} {fn : Func} {R : Ending → World → Prop} {a : Act} {w : World} {v : Value} (hr : (results fn a.tmps).run P w = .ok v w) (hd : a.defers = []) (hR : R (.returned v) w) : bodyPostD P fn R .ret a w := by
 show Leaves P fn a.tmps R a.defers .returning w
 rw [hd]
 exact ⟨v, hr, hR⟩
theorem ret1 {k : IntKind} {a b : Int} (h : a = b) : Ending.returned (.int k a) = .returned (.int k b) := by rw [h]
theorem ret2 {k l : IntKind} {a b c d : Int} (h : a = b) (h' : c = d) : Ending.returned (.tuple #[.int k a, .int l c]) = .returned (.tuple #[.int k b, .int l d]) := by rw [h, h']
theorem int_eq {k : IntKind} {a b : Int} (h : a = b) : Value.int k a = .int k b := by rw [h]
end Go.Proofs.YtilmldfbmmcchaaGreatDoor
namespace Go.Proofs.YtilmldfbmmcchaaGreatDoor
open Go.RowKit Go.Lib
namespace MulW
theorem maskN (a : Nat) (ha : a < 18446744073709551616) : bits .and .u64 (a : Int) 4294967295 = ((a % 4294967296 : Nat) : Int) := by
 have h := bits_and_u64_nat a 4294967295 ha (by omega)
 have e : a &&& 4294967295 = a % 4294967296 := Nat.and_two_pow_sub_one_eq_mod a 32
 rw [e] at h
 exact h
theorem divN (a : Nat) : (a : Int) / 4294967296 = ((a / 4294967296 : Nat) : Int) := by omega
theorem mulN (a b : Nat) : (a : Int) * (b : Int) = ((a * b : Nat) : Int) := (Int.natCast_mul a b).symm
theorem addN (a b : Nat) : (a : Int) + (b : Int) = ((a + b : Nat) : Int) := (Int.natCast_add a b).symm
theorem wrapN (a : Nat) (ha : a < 18446744073709551616) : IntKind.u64.wrap (a : Int) = (a : Int) := by rw [IntKind.wrap_u64]; omega
theorem wrapM (a : Nat) : IntKind.u64.wrap (a : Int) = ((a % 18446744073709551616 : Nat) : Int) := by rw [IntKind.wrap_u64]; omega
end MulW
set_option maxHeartbeats 1000000 in
theorem bits_Mul64 (x y : Nat) (hx : x < 18446744073709551616) (hy : y < 18446744073709551616) (w : World) :
  Calls Tryz.prog 267 #[.int .u64 x, .int .u64 y] w fun e w' => e = .returned (.tuple #[.int .u64 ((x * y / 18446744073709551616 : Nat) : Int), .int .u64 ((x * y % 18446744073709551616 : Nat) : Int)]) ∧ w = w' := by
 obtain ⟨bd, bt, bw, hhi⟩ := Lib.mul64_hi x y hx hy
 have ba := Lib.half_mul_le (a := x / 4294967296) (b := y / 4294967296) (by omega) (by omega)
 have bb := Lib.half_mul_le (a := x / 4294967296) (b := y % 4294967296) (by omega) (by omega)
 have bc := Lib.half_mul_le (a := x % 4294967296) (b := y / 4294967296) (by omega) (by omega)
 have ba' : x / 4294967296 * (y / 4294967296) < 18446744073709551616 := by omega
 have bb' : x / 4294967296 * (y % 4294967296) < 18446744073709551616 := by omega
 have bc' : x % 4294967296 * (y / 4294967296) < 18446744073709551616 := by omega
 have bh1 : x / 4294967296 * (y / 4294967296) + (x / 4294967296 * (y % 4294967296) + x % 4294967296 * (y % 4294967296) / 4294967296) / 4294967296 < 18446744073709551616 := by omega
 have bh : x / 4294967296 * (y / 4294967296) + (x / 4294967296 * (y % 4294967296) + x % 4294967296 * (y % 4294967296) / 4294967296) / 4294967296 + ((x / 4294967296 * (y % 4294967296) + x % 4294967296 * (y % 4294967296) / 4294967296) % 4294967296 + x % 4294967296 * (y / 4294967296)) / 4294967296 < 18446744073709551616 := by omega
 go_enter Tryz.func267, Tryz.ntmps267
 go_wp2
 simp only [MulW.maskN x hx, MulW.maskN y hy, MulW.divN, MulW.mulN, MulW.addN, MulW.wrapN _ bd, MulW.wrapN _ bb', MulW.wrapN _ bt, MulW.maskN _ bt, MulW.wrapN _ bc', MulW.wrapN _ bw, MulW.wrapN _ ba', MulW.wrapN _ bh1, MulW.wrapN _ bh, MulW.wrapM (x * y)]
 rw [hhi]
 go_ret2
 exact ⟨rfl, rfl⟩
theorem bits_Mul (x y : Nat) (hx : x < 18446744073709551616) (hy : y < 18446744073709551616) (w : World) :
  Calls Tryz.prog 228 #[.int .u64 x, .int .u64 y] w fun e w' => e = .returned (.tuple #[.int .u64 ((x * y / 18446744073709551616 : Nat) : Int), .int .u64 ((x * y % 18446744073709551616 : Nat) : Int)]) ∧ w = w' := by
 go_enter Tryz.func228, Tryz.ntmps228
 go_wp2_with (go_at_call 267; refine (bits_Mul64 x y hx hy w).mono ?_; rintro e w' ⟨rfl, rfl⟩)
 go_ret2
 exact ⟨rfl, rfl⟩
theorem run_Add64 (x y c : Int) (hx : 0 ≤ x) (hy : 0 ≤ y) (hc0 : 0 ≤ c) (hc : c ≤ 1) (w : World) :
  (callFunc 277 #[.int .u64 x, .int .u64 y, .int .u64 c]).run Tryz.prog w =
   .ok (.value (.tuple #[.int .u64 ((x + y + c) % 18446744073709551616), .int .u64 ((x + y + c) / 18446744073709551616)])) w := by
 rw [run_callFunc_extern Tryz.func277 (by kernel_rfl) (by kernel_rfl) (by kernel_rfl) (e := add64Entry) (by kernel_rfl), run_add64 x y c hx hy hc0 hc]
 rfl
theorem bits_Add (x y c : Int) (hx : 0 ≤ x) (hy : 0 ≤ y) (hc0 : 0 ≤ c) (hc : c ≤ 1) (w : World) :
  Calls Tryz.prog 246 #[.int .u64 x, .int .u64 y, .int .u64 c] w fun e w' => e = .returned (.tuple #[.int .u64 ((x + y + c) % 18446744073709551616), .int .u64 ((x + y + c) / 18446744073709551616)]) ∧ w = w' := by
 have h := run_Add64 x y c hx hy hc0 hc
 go_enter Tryz.func246, Tryz.ntmps246
 go_wp2
 go_ret2
 exact ⟨rfl, rfl⟩
end Go.Proofs.YtilmldfbmmcchaaGreatDoor
namespace Go.Proofs.YtilmldfbmmcchaaGreatDoor
open Go.RowKit
theorem mulAddWWW_g (x y c : Nat) (hx : x < 18446744073709551616) (hy : y < 18446744073709551616) (hc : c < 18446744073709551616) (w : World) :
  Calls Tryz.prog 290 #[.int .u64 x, .int .u64 y, .int .u64 c] w fun e w' =>
   e = .returned (.tuple #[.int .u64 (((x * y + c) / 18446744073709551616 : Nat) : Int), .int .u64 (((x * y + c) % 18446744073709551616 : Nat) : Int)]) ∧ w = w' := by
 have hb : x * y ≤ 18446744073709551615 * 18446744073709551615 := Nat.mul_le_mul (by omega) (by omega)
 generalize hp : x * y = p at *
 have M := bits_Mul x y hx hy
 rw [hp] at M
 have HP := Lib.hid hp
 clear hp
 go_enter Tryz.func290, Tryz.ntmps290
 go_wp2_with (first | (go_at_call 228; refine (M _).mono ?_; rintro e w' ⟨rfl, rfl⟩) | (go_at_call 246; refine (bits_Add _ _ _ (by omega) (by omega) (by omega) (by omega) _).mono ?_; rintro e w' ⟨rfl, rfl⟩))
 go_ret2
 exact ⟨ret2 (by omega) (by omega), rfl⟩
theorem cdiv (p : Nat) : (p : Int) / 18446744073709551616 = ((p / 18446744073709551616 : Nat) : Int) := by omega
theorem hi_lt (x y c : Nat) (hx : x < 18446744073709551616) (hy : y < 18446744073709551616) (hc : c < 18446744073709551616) : (x * y + c) / 18446744073709551616 < 18446744073709551616 := by
 have hb : x * y ≤ 18446744073709551615 * 18446744073709551615 := Nat.mul_le_mul (by omega) (by omega)
 omega
theorem mul_step {G X : Nat → Nat} {oz k cc xk y r : Nat} (h : Vb BB G oz k + BB ^ k * cc = Vb BB X 0 k * y + r) (hx : xk = X k) :
  Vb BB (upd G (oz + k) ((xk * y + cc) % 18446744073709551616)) oz (k + 1) + BB ^ (k + 1) * ((xk * y + cc) / 18446744073709551616) = Vb BB X 0 (k + 1) * y + r := by
 rw [V_upd_succ, V_succ, Nat.zero_add, ← hx, Nat.pow_succ, Nat.add_mul, Nat.mul_assoc (BB ^ k) BB, Nat.add_assoc, ← Nat.mul_add]
 have e := split_word (xk * y + cc)
 rw [BB_eq] at e ⊢
 rw [e, Nat.mul_add, Nat.mul_assoc]
 rw [BB_eq] at h
 omega
structure Words (w : World) (g o n : Nat) (X : Nat → Nat) : Prop where
 cell : ∀ j, j < n → w.cell? ⟨g, o + j, none⟩ = some (.int .u64 (X j : Nat))
 word : ∀ j, j < n → X j < BB
theorem Words.of_blk {w : World} {g len : Nat} {F : Nat → Nat} (h : BlkW w g len F) {o n : Nat} (hn : o + n ≤ len) : Words w g o n (fun j => F (o + j)) :=
 ⟨fun j hj => h.cell (by omega), fun j hj => h.word _ (by omega)⟩
theorem Words.lt {w : World} {g o n : Nat} {X : Nat → Nat} (h : Words w g o n X) (hn : 0 < n) : g < w.heap.size := World.block_lt_of_cell? w _ (h.cell 0 hn)
theorem Words.fr {S : Nat → Prop} {w w' : World} {g o n : Nat} {X : Nat → Nat} (h : Words w g o n X) (f : Fr S w w') (hn : ¬ S g) : Words w' g o n X :=
 ⟨fun j hj => by rw [f.cell (World.block_lt_of_cell? w _ (h.cell j hj)) hn]; exact h.cell j hj, h.word⟩
theorem Rd.words {w : World} {g o n c : Nat} {X : Nat → Nat} (h : RdW w (.slice (some ⟨g, o, none⟩) n c) n X) : Words w g o n X := by
 rcases h with ⟨h, _⟩ | ⟨g', o', c', cs, he, h1, h2, h3, hc, hr⟩
 ·cases h
 ·simp only [Value.slice.injEq, Option.some.injEq, Addr.mk.injEq] at he
  obtain ⟨⟨rfl, rfl, _⟩, _, rfl⟩ := he
  exact ⟨fun j hj => cell_of_heap hc (hr j hj).1, fun j hj => (hr j hj).2⟩
set_option maxHeartbeats 1000000 in
theorem mulAddVWW_g (n gz oz lz cz gx ox cx y r : Nat) (F X : Nat → Nat) (w : World) (hz : BlkW w gz lz F) (hx : Words w gx ox n X) (hzn : oz + n ≤ lz)
  (ha : gx = gz → ox = oz) (hy : y < BB) (hr : r < BB) :
  Calls Tryz.prog 269 #[.slice (some ⟨gz, oz, none⟩) n cz, .slice (some ⟨gx, ox, none⟩) n cx, .int .u64 y, .int .u64 r] w fun e w' =>
   ∃ (c : Nat) (G : Nat → Nat), e = .returned (.int .u64 c) ∧ c < BB ∧ BlkW w' gz lz G ∧ (∀ j, j < oz ∨ oz + n ≤ j → G j = F j) ∧ Vb BB G oz n + BB ^ n * c = Vb BB X 0 n * y + r ∧ Fr (· = gz) w w' := by
 have hroom := hz.room
 rw [LL_eq] at hroom
 rw [BB_eq] at hy hr
 go_enter Tryz.func269, Tryz.ntmps269
 go_wp2
 go_loopw [8, 19] (fun c i wr => ∃ (k cc : Nat) (G : Nat → Nat), k ≤ n ∧ i = .int .i64 k ∧ c = .int .u64 cc ∧ cc < 18446744073709551616 ∧ BlkW wr gz lz G ∧ Hid (∀ j, j < oz ∨ oz + k ≤ j → G j = F j) ∧ Hid (Vb BB G oz k + BB ^ k * cc = Vb BB X 0 k * y + r) ∧ Fr (· = gz) w wr)
  (fun _ i _ => n - (intOf i).toNat)
 case atStart => exact ⟨0, r, F, Nat.zero_le _, rfl, rfl, hr, hz, fun _ _ => rfl, by simp [Vb, Hid], Fr.refl _ _⟩
 case round =>
  obtain ⟨k, cc, G, hk, rfl, rfl, hcc, hG, hold, hV, hfr⟩ := hrel
  by_cases hlt : k < n
  ·have hXk : ∃ xk : Nat, Hid (xk = X k) ∧ xk < 18446744073709551616 ∧ wr.cell? ⟨gx, ox + k, none⟩ = some (.int .u64 xk) := by
    refine ⟨X k, rfl, hx.word _ (by omega), ?_⟩
    by_cases e : gx = gz
    ·subst e
     obtain rfl := ha rfl
     rw [hG.cell (by omega), hold.out _ (by omega), ← hz.cell (by omega), hx.cell _ (by omega)]
    ·exact (hx.fr hfr e).cell _ (by omega)
   obtain ⟨xk, hxk, hxlt, hcell⟩ := hXk
   have hzc : wr.cell? ⟨gz, oz + k, none⟩ = some (.int .u64 (G (oz + k) : Nat)) := hG.cell (by omega)
   have hzf := hG.free (oz + k)
   go_wp2_with (go_at_call 290; refine (mulAddWWW_g xk y cc hxlt hy hcc _).mono ?_; rintro e w' ⟨rfl, rfl⟩)
   go_roundw
   case rel =>
    refine ⟨k + 1, (xk * y + cc) / 18446744073709551616, upd G (oz + k) ((xk * y + cc) % 18446744073709551616), by omega, by go_num, int_eq (cdiv _), ?_, hG.store (x := (xk * y + cc) % 18446744073709551616) (Nat.mod_lt _ BB_pos), fun j hj => by rw [upd_other _ _ _ _ (by omega)]; exact hold.out j (by omega), ?_, hfr.setCell _ _ (.inr rfl)⟩
    ·exact hi_lt xk y cc hxlt hy hcc
    ·exact mul_step hV.out hxk.out
   case measure => simp [intOf]; omega
  ·go_wp2
   go_ret
   obtain rfl : k = n := by omega
   exact ⟨cc, G, rfl, hcc, hG, hold.out, hV.out, hfr⟩
theorem mulAddVWW (n gz oz lz cz gx ox cx y r : Nat) (F X : Nat → Nat) (w : World) (hz : BlkW w gz lz F) (hx : Words w gx ox n X) (hzn : oz + n ≤ lz)
  (ha : gx = gz → ox = oz) (hy : y < BB) (hr : r < BB) :
  Calls Tryz.prog 231 #[.slice (some ⟨gz, oz, none⟩) n cz, .slice (some ⟨gx, ox, none⟩) n cx, .int .u64 y, .int .u64 r] w fun e w' =>
   ∃ (c : Nat) (G : Nat → Nat), e = .returned (.int .u64 c) ∧ c < BB ∧ BlkW w' gz lz G ∧ (∀ j, j < oz ∨ oz + n ≤ j → G j = F j) ∧ Vb BB G oz n + BB ^ n * c = Vb BB X 0 n * y + r ∧ Fr (· = gz) w w' := by
 go_enter Tryz.func231, Tryz.ntmps231
 go_wp2_with fail
 refine (mulAddVWW_g n gz oz lz cz gx ox cx y r F X w hz hx hzn ha hy hr).mono ?_
 rintro e w1 ⟨c, G, rfl, h⟩
 go_wp2
 go_ret
 exact ⟨c, G, rfl, h⟩
theorem infoW : (Tryz.prog.info? TW).map (fun i => (i.zero, i.size, i.bytes)) = some (some (.int .u64 0), 1, 8) := by kernel_rfl
theorem madeW (n : Nat) : madeCells #[Value.int .u64 0] n = Array.replicate n (.int .u64 0) := by
 apply Array.ext
 ·simp [madeCells]
 ·intro i h1 h2
  simp [madeCells, Nat.mod_one]
theorem run_makeW (T : TypeId) (hT : Tryz.prog.underlying T = some (.slice TW)) (kl kc : IntKind) (l c : Int) (h0 : 0 ≤ l) (hlc : l ≤ c) (hc : c ≤ 1000000000) (w : World) :
  (Instr.makeSlice T (.int kl l) (.int kc c)).run Tryz.prog w = .ok (.slice (some ⟨w.heap.size, 0, none⟩) l.toNat c.toNat) (w.alloc (.cells (Array.replicate c.toNat (.int .u64 0)) TW)) := by
 obtain ⟨i, hi, hzz⟩ := Option.map_eq_some_iff.1 infoW
 simp only [Prod.mk.injEq] at hzz
 obtain ⟨hz, hs, hb⟩ := hzz
 rw [run_make w T TW i (.int .u64 0) hT hi hz kl kc l c h0 hlc (by rw [hb]; omega) (by omega), hs, Nat.mul_one]
 rw [show (Value.int .u64 0).cells = #[Value.int .u64 0] from rfl, madeW]
structure MadeNat (w w' : World) (v v' : Value) (n : Nat) (G : Nat → Nat) : Prop where
 own : OwnW w' v' n G
 fr : Fr (fun k => v.ownBlock = some k) w w'
 at_ : ∀ k, v'.ownBlock = some k → v.ownBlock = some k ∨ w.heap.size ≤ k
set_option maxHeartbeats 1000000 in
theorem nat_make (v : Value) (m n : Nat) (N : Int) (F : Nat → Nat) (w : World) (h : OwnW w v m F) (hN : N = n) (hn : n ≤ 999999000) :
  Calls Tryz.prog 95 #[v, .int .i64 N] w fun e w' =>
   ∃ (v' : Value) (G : Nat → Nat), e = .returned v' ∧ MadeNat w w' v v' n G ∧ Fr NoS w w' ∧ ((v'.ownBlock = v.ownBlock ∧ G = F ∧ w = w') ∨ ∃ k, v'.ownBlock = some k ∧ w.heap.size ≤ k) := by
 subst hN
 have mk := run_makeW 95 Tryz.underlying95
 rcases h with ⟨rfl, rfl⟩ | ⟨g, c, rfl, hmc, hb⟩
 ·by_cases h0 : n = 0
  ·subst h0
   go_enter Tryz.func95, Tryz.ntmps95
   go_wp2
   go_ret
   exact ⟨_, F, rfl, ⟨.inl ⟨rfl, rfl⟩, Fr.refl _ _, fun k hk => .inl hk⟩, Fr.refl _ _, .inl ⟨rfl, rfl, rfl⟩⟩
  ·by_cases h1 : n = 1
   ·subst h1
    have mk1 := mk .i64 .i64 1 1 (by omega) (by omega) (by omega)
    go_enter Tryz.func95, Tryz.ntmps95
    go_wp2
    go_ret
    have hB := Blk.made (K := .u64) (T := TW) w 1 (by rw [LL_eq]; omega) BB_pos
    exact ⟨_, _, rfl, ⟨.inr ⟨_, 1, rfl, by omega, hB⟩, (Fr.refl _ _).alloc _, fun k hk => .inr (by simp [Value.ownBlock] at hk; omega)⟩, (Fr.refl _ _).alloc _, .inr ⟨_, rfl, Nat.le_refl _⟩⟩
   ·have mk1 := mk .i64 .i64 n (n + 4) (by omega) (by omega) (by omega)
    have e1 : (n : Int).toNat = n := by omega
    have e2 : ((n : Int) + 4).toNat = n + 4 := by omega
    rw [e1, e2] at mk1
    clear e1 e2
    have hb1 : ((n : Int) == 1) = false := by simp; omega
    have hgt : 0 < n := by omega
    clear h0 h1 mk
    go_enter Tryz.func95, Tryz.ntmps95
    go_wp2
    go_ret
    have hB := Blk.made (K := .u64) (T := TW) w (n + 4) (by rw [LL_eq]; omega) BB_pos
    exact ⟨_, _, rfl, ⟨.inr ⟨_, n + 4, rfl, by omega, hB⟩, (Fr.refl _ _).alloc _, fun k hk => .inr (by simp [Value.ownBlock] at hk; omega)⟩, (Fr.refl _ _).alloc _, .inr ⟨_, rfl, Nat.le_refl _⟩⟩
 ·by_cases hnc : n ≤ c
  ·go_enter Tryz.func95, Tryz.ntmps95
   go_wp2
   go_ret
   exact ⟨_, F, rfl, ⟨.inr ⟨g, c, rfl, hnc, hb⟩, Fr.refl _ _, fun k hk => .inl hk⟩, Fr.refl _ _, .inl ⟨rfl, rfl, rfl⟩⟩
  ·by_cases h1 : n = 1
   ·subst h1
    have mk1 := mk .i64 .i64 1 1 (by omega) (by omega) (by omega)
    go_enter Tryz.func95, Tryz.ntmps95
    go_wp2
    go_ret
    have hB := Blk.made (K := .u64) (T := TW) w 1 (by rw [LL_eq]; omega) BB_pos
    exact ⟨_, _, rfl, ⟨.inr ⟨_, 1, rfl, by omega, hB⟩, (Fr.refl _ _).alloc _, fun k hk => .inr (by simp [Value.ownBlock] at hk; omega)⟩, (Fr.refl _ _).alloc _, .inr ⟨_, rfl, Nat.le_refl _⟩⟩
   ·have mk1 := mk .i64 .i64 n (n + 4) (by omega) (by omega) (by omega)
    have e1 : (n : Int).toNat = n := by omega
    have e2 : ((n : Int) + 4).toNat = n + 4 := by omega
    rw [e1, e2] at mk1
    clear e1 e2
    have hb1 : ((n : Int) == 1) = false := by simp; omega
    clear h1 mk
    go_enter Tryz.func95, Tryz.ntmps95
    go_wp2
    go_ret
    have hB := Blk.made (K := .u64) (T := TW) w (n + 4) (by rw [LL_eq]; omega) BB_pos
    exact ⟨_, _, rfl, ⟨.inr ⟨_, n + 4, rfl, by omega, hB⟩, (Fr.refl _ _).alloc _, fun k hk => .inr (by simp [Value.ownBlock] at hk; omega)⟩, (Fr.refl _ _).alloc _, .inr ⟨_, rfl, Nat.le_refl _⟩⟩
theorem setCells_blk (g len : Nat) (f : Nat → Nat) : ∀ (n off : Nat) (w : World) (F : Nat → Nat), BlkW w g len F → (∀ j, off ≤ j → j < off + n → f j < BB) → off + n ≤ len →
  BlkW (w.setCells g off ((List.range' off n).map fun j => .int .u64 (f j : Nat))) g len (fun j => if off ≤ j ∧ j < off + n then f j else F j) ∧ Fr (· = g) w (w.setCells g off ((List.range' off n).map fun j => .int .u64 (f j : Nat)))
 | 0, off, w, F, hb, _, _ => ⟨by simp only [List.range'_zero, List.map_nil, World.setCells]; exact hb.congr (fun j _ => by rw [if_neg (by omega)]), Fr.refl _ _⟩
 | n + 1, off, w, F, hb, hf, hl => by
  have h1 := hb.store (i := off) (hf off (by omega) (by omega))
  obtain ⟨h2, h3⟩ := setCells_blk g len f n (off + 1) _ _ h1 (fun j a b => hf j (by omega) (by omega)) (by omega)
  simp only [List.range'_succ, List.map_cons, World.setCells]
  refine ⟨h2.congr fun j _ => ?_, ((Fr.refl (· = g) w).setCell ⟨g, off, none⟩ _ (.inr rfl)).trans' h3⟩
  by_cases e1 : off + 1 ≤ j ∧ j < off + 1 + n
  ·rw [if_pos e1, if_pos (by omega)]
  ·rw [if_neg e1]
   unfold upd
   by_cases e2 : j = off
   ·subst e2; rw [if_pos rfl, if_pos (by omega)]
   ·rw [if_neg e2, if_neg (by omega)]
theorem zeroW (w : World) : (zeroValue TW).run Tryz.prog w = .ok (.int .u64 0) w := by kernel_rfl
theorem clear_blk {ops : Array Oper} {rest : List Oper} {o : Oper} {a : Act} {w : World} {Q : Exit → Act → World → Prop} (hgd : o.guard = none) (s : Operand) (t : TypeId)
  (ho : o.op = .call { callee := .builtin .clear, args := #[s], argTypes := #[t] }) (ht : Tryz.prog.underlying t = some (.slice TW)) (g off n c len : Nat) (F : Nat → Nat)
  (hs : a.eval s = .slice (some ⟨g, off, none⟩) n c) (hb : BlkW w g len F) (hn : off + n ≤ len)
  (h : ∀ w' G, BlkW w' g len G → Hid (∀ j, off ≤ j → j < off + n → G j = 0) → Hid (∀ j, j < off ∨ off + n ≤ j → G j = F j) → Fr (· = g) w w' → wpList Tryz.prog ops Q rest (a.put o.dst (.tuple #[])) w') :
  wpList Tryz.prog ops Q (o :: rest) a w := by
 refine wpList_plain hgd fun K hK => ?_
 unfold Oper.wp
 rcases Nat.eq_zero_or_pos n with h0 | h0
 ·subst h0
  have hrun : (Builtin.clear_ #[t] o.type #[.slice (some ⟨g, off, none⟩) 0 c]).run Tryz.prog w = .ok (.tuple #[]) w := by simp [Builtin.clear_, run_underlying ht]
  simp [execOp, ho, resolve, invoke, builtin, hs, hrun, Result.andThen]
  exact hK _ _ (h w F hb (fun j h1 h2 => by omega) (fun j _ => rfl) (Fr.refl _ _))
 ·have hrun := Lib.run_clear_slice (P := Tryz.prog) w t TW o.type (.int .u64 0) ht zeroW rfl rfl g off n c h0 (fun j hj => by rw [hb.cell (by omega)]; rfl) (fun j hj => hb.free _)
  have hrep : List.replicate n (Value.int .u64 0) = (List.range' off n).map fun j => .int .u64 (((fun _ => 0 : Nat → Nat) j : Nat) : Int) := by
   apply List.ext_getElem
   ·simp
   ·intro i h1 h2; simp
  rw [hrep] at hrun
  obtain ⟨h2, h3⟩ := setCells_blk g len (fun _ => 0) n off w F hb (fun _ _ _ => BB_pos) hn
  simp only [execOp, ho, resolve, invoke, builtin, List.map_toArray, List.map_cons, List.map_nil, hs]
  simp only [Sem.run_bind, Sem.run_pure, hrun, Result.andThen_ok]
  exact hK _ _ (h _ _ h2 (fun j a b => by simp [a, b]) (fun j a => by rw [if_neg (by omega)]) h3)
theorem copy_blk {ops : Array Oper} {rest : List Oper} {o : Oper} {a : Act} {w : World} {Q : Exit → Act → World → Prop} (hgd : o.guard = none) (d s : Operand) (dT sT : TypeId)
  (ho : o.op = .call { callee := .builtin .copy, args := #[d, s], argTypes := #[dT, sT] }) (hu : Tryz.prog.underlying dT = some (.slice TW)) (g off dl dc len gx ox sl sc : Nat) (F X : Nat → Nat)
  (hd : a.eval d = .slice (some ⟨g, off, none⟩) dl dc) (hs : a.eval s = .slice (some ⟨gx, ox, none⟩) sl sc) (hb : BlkW w g len F) (hn : off + dl ≤ len) (hx : Words w gx ox sl X) (hle : sl ≤ dl)
  (h : ∀ w' G, BlkW w' g len G → Hid (∀ j, j < sl → G (off + j) = X j) → Hid (∀ j, j < off ∨ off + sl ≤ j → G j = F j) → Fr (· = g) w w' → wpList Tryz.prog ops Q rest (a.put o.dst (.int .i64 sl)) w') :
  wpList Tryz.prog ops Q (o :: rest) a w := by
 refine wpList_plain hgd fun K hK => ?_
 unfold Oper.wp
 have hsz : (Tryz.prog.info? TW).map (·.size) = some 1 := by kernel_rfl
 have hrep : (List.range' off sl).map (fun j => Value.int .u64 ((X (j - off) : Nat) : Int)) = (List.range sl).map fun j => Value.int .u64 ((X j : Nat) : Int) := by
  apply List.ext_getElem
  ·simp
  ·intro i h1 h2; simp
 have hrun := run_copy_cells (P := Tryz.prog) w dT sT o.type TW g off dl dc ⟨gx, ox, none⟩ sl sc ((List.range' off sl).map fun j => Value.int .u64 ((X (j - off) : Nat) : Int)) hu hsz
  (by simp only [List.length_map, List.length_range']; exact (Nat.min_eq_left hle).symm)
  (fun j v hv => by
   rw [hrep] at hv
   rw [List.getElem?_map] at hv
   by_cases hj : j < sl
   ·rw [List.getElem?_range hj] at hv
    simp at hv
    subst hv
    have hadd : (⟨gx, ox, none⟩ : Addr).add j = ⟨gx, ox + j, none⟩ := by unfold Addr.add; split <;> simp_all
    rw [hadd]
    exact hx.cell j hj
   ·rw [List.getElem?_eq_none (by simp; omega)] at hv; simp at hv)
  (fun j hj => by rw [hb.cell (by simp at hj; omega)]; rfl) (fun j hj => hb.free _) (fun v hv => by simp at hv; obtain ⟨j, _, rfl⟩ := hv; rfl)
 obtain ⟨h2, h3⟩ := setCells_blk g len (fun j => X (j - off)) sl off w F hb (fun j a b => hx.word _ (by omega)) (by omega)
 simp only [execOp, ho, resolve, invoke, builtin, List.map_toArray, List.map_cons, List.map_nil, hd, hs]
 simp only [Sem.run_bind, Sem.run_pure, hrun, Result.andThen_ok]
 have hlen : goInt ((List.range' off sl).map fun j => Value.int .u64 ((X (j - off) : Nat) : Int)).length = .int .i64 sl := by unfold goInt; rw [List.length_map, List.length_range']
 rw [hlen]
 exact hK _ _ (h _ _ h2 (fun j hj => by show (if _ then X (off + j - off) else _) = _; rw [if_pos (by omega), Nat.add_sub_cancel_left]) (fun j a => by rw [if_neg (by omega)]) h3)
set_option maxHeartbeats 1000000 in
theorem nat_norm_raw (g o n c : Nat) (F : Nat → Nat) (w : World) (hn : n ≤ c) (hc : c ≤ 9223372036854775807) (hcell : ∀ j, j < n → w.cell? ⟨g, o + j, none⟩ = some (.int .u64 (F j : Nat))) :
  Calls Tryz.prog 65 #[.slice (some ⟨g, o, none⟩) n c] w fun e w' =>
   ∃ n' : Nat, e = .returned (.slice (some ⟨g, o, none⟩) n' c) ∧ n' ≤ n ∧ Top F n' ∧ (∀ j, n' ≤ j → j < n → F j = 0) ∧ w = w' := by
 have HC := Lib.hid hcell
 clear hcell
 go_enter Tryz.func65, Tryz.ntmps65
 go_wp2
 go_loop [3] (fun i => ∃ k : Nat, k ≤ n ∧ i = .int .i64 k ∧ Hid (∀ j, k ≤ j → j < n → F j = 0)) (fun i => (intOf i).toNat)
 case atStart => exact ⟨n, Nat.le_refl _, rfl, fun j h1 h2 => by omega⟩
 case round =>
  obtain ⟨k, hk, rfl, hz⟩ := hrel
  rcases Nat.eq_zero_or_pos k with h0 | h0
  ·subst h0
   have hd : decide ((0 : Int) < ((0 : Nat) : Int)) = false := by simp
   go_wp2
   go_ret
   exact ⟨0, rfl, Nat.zero_le _, .inl rfl, hz.out, rfl⟩
  ·obtain ⟨m, rfl⟩ : ∃ m, k = m + 1 := ⟨k - 1, by omega⟩
   have hcm : w.cell? ⟨g, o + m, none⟩ = some (.int .u64 (F m : Nat)) := by
     exact HC.out m (by omega)
   by_cases hF : F m = 0
   ·rw [hF] at hcm
    go_wp2
    go_round
    case rel =>
     refine ⟨m, by omega, by go_num, fun j h1 h2 => ?_⟩
     by_cases e : j = m
     ·subst e; exact hF
     ·exact hz.out j (by omega) h2
    case measure => simp [intOf]
   ·have hb : ((F m : Int) == 0) = false := by simp; exact hF
    go_wp2
    go_ret
    exact ⟨m + 1, rfl, hk, .inr (by simp; omega), hz.out, rfl⟩
theorem V_norm {F : Nat → Nat} {n n' : Nat} (hn : n' ≤ n) (hz : ∀ j, n' ≤ j → j < n → F j = 0) : Vb BB F 0 n' = Vb BB F 0 n := by
 induction n with
 | zero => rw [show n' = 0 from by omega]
 | succ n ih =>
  by_cases e : n' = n + 1
  ·rw [e]
  ·rw [V_succ, Nat.zero_add, hz n (by omega) (by omega), ih (by omega) (fun j h1 h2 => hz j h1 (by omega))]; rfl
theorem nat_norm_nil (w : World) : Calls Tryz.prog 65 #[.slice none 0 0] w fun e w' => e = .returned (.slice none 0 0) ∧ w = w' := by
 go_enter Tryz.func65, Tryz.ntmps65
 go_wp2
 go_loop [3] (fun i => i = .int .i64 0) (fun _ => 0)
 case atStart => rfl
 case round =>
  obtain rfl := hrel
  have hd : decide ((0 : Int) < ((0 : Nat) : Int)) = false := by simp
  go_wp2
  go_ret
  exact ⟨rfl, rfl⟩
theorem nat_norm_rd (v : Value) (n : Nat) (F : Nat → Nat) (w : World) (h : RdW w v n F) :
  Calls Tryz.prog 65 #[v] w fun e w' =>
   ∃ (v' : Value) (n' : Nat), e = .returned v' ∧ RdW w v' n' F ∧ n' ≤ n ∧ Top F n' ∧ Vb BB F 0 n' = Vb BB F 0 n ∧ v'.ownBlock = v.ownBlock ∧ w = w' := by
 rcases h with ⟨rfl, rfl⟩ | ⟨g, o, c, cs, rfl, h1, h2, h3, hc, hr⟩
 ·exact (nat_norm_nil w).mono fun e w' ⟨he, hw⟩ => ⟨_, 0, he, .inl ⟨rfl, rfl⟩, Nat.le_refl _, .inl rfl, rfl, rfl, hw⟩
 ·refine (nat_norm_raw g o n c F w h1 h2.2 (fun j hj => cell_of_heap hc (hr j hj).1)).mono ?_
  rintro e w' ⟨n', he, hn, ht, hz, hw⟩
  exact ⟨_, n', he, .inr ⟨g, o, c, cs, rfl, by omega, ⟨Nat.le_trans hn h2.1, h2.2⟩, h3, hc, fun j hj => hr j (by omega)⟩, hn, ht, V_norm hn hz, rfl, hw⟩
theorem nat_norm_own (v : Value) (n : Nat) (F : Nat → Nat) (w : World) (h : OwnW w v n F) :
  Calls Tryz.prog 65 #[v] w fun e w' =>
   ∃ (v' : Value) (n' : Nat), e = .returned v' ∧ OwnW w v' n' F ∧ n' ≤ n ∧ Top F n' ∧ Vb BB F 0 n' = Vb BB F 0 n ∧ v'.ownBlock = v.ownBlock ∧ w = w' := by
 rcases h with ⟨rfl, rfl⟩ | ⟨g, c, rfl, h1, hb⟩
 ·exact (nat_norm_nil w).mono fun e w' ⟨he, hw⟩ => ⟨_, 0, he, .inl ⟨rfl, rfl⟩, Nat.le_refl _, .inl rfl, rfl, rfl, hw⟩
 ·have hr := hb.room
  rw [LL_eq] at hr
  refine (nat_norm_raw g 0 n c F w h1 (by omega) (fun j hj => by rw [Nat.zero_add]; exact hb.cell (by omega))).mono ?_
  rintro e w' ⟨n', he, hn, ht, hz, hw⟩
  exact ⟨_, n', he, .inr ⟨g, c, rfl, by omega, hb⟩, hn, ht, V_norm hn hz, rfl, hw⟩
set_option maxHeartbeats 1000000 in
theorem nat_setWord (v : Value) (m x : Nat) (F : Nat → Nat) (w : World) (h : OwnW w v m F) (hx : x < BB) :
  Calls Tryz.prog 193 #[v, .int .u64 x] w fun e w' =>
   ∃ (v' : Value) (n : Nat) (G : Nat → Nat), e = .returned v' ∧ MadeNat w w' v v' n G ∧ n ≤ 1 ∧ Top G n ∧ Vb BB G 0 n = x := by
 by_cases h0 : x = 0
 ·subst h0
  have hb : (((0 : Nat) : Int) == 0) = true := by simp
  rcases h with ⟨rfl, rfl⟩ | ⟨g, c, rfl, hmc, hb⟩
  ·go_enter Tryz.func193, Tryz.ntmps193
   go_wp2
   go_ret
   exact ⟨_, 0, F, rfl, ⟨.inl ⟨rfl, rfl⟩, Fr.refl _ _, fun k hk => .inl hk⟩, by omega, .inl rfl, rfl⟩
  ·go_enter Tryz.func193, Tryz.ntmps193
   go_wp2
   go_ret
   exact ⟨_, 0, F, rfl, ⟨.inr ⟨g, c, rfl, by omega, hb⟩, Fr.refl _ _, fun k hk => .inl hk⟩, by omega, .inl rfl, rfl⟩
 ·have hb : ((x : Int) == 0) = false := by simp; exact h0
  go_enter Tryz.func193, Tryz.ntmps193
  go_wp2_with fail
  refine (nat_make v m 1 1 F _ h rfl (by omega)).mono ?_
  rintro e w1 ⟨v', G, rfl, hm, hf, ho⟩
  rcases hm.own with ⟨_, h1⟩ | ⟨g, c, rfl, hmc, hbk⟩
  ·omega
  have hcell := hbk.cell (j := 0) (by omega)
  have hfree := hbk.free 0
  go_wp2
  go_ret
  refine ⟨_, 1, upd G 0 x, rfl, ⟨.inr ⟨g, c, rfl, hmc, hbk.store hx⟩, hm.fr.setCell _ _ ?_, hm.at_⟩, by omega, .inr (by rw [upd_same]; omega), by rw [V_one, upd_same]⟩
  rcases hm.at_ g rfl with e | e
  ·exact .inr e
  ·exact .inl e
theorem MadeNat.next {w w1 w2 : World} {v v1 v2 : Value} {n n2 : Nat} {G G2 : Nat → Nat} (h : MadeNat w w1 v v1 n G) (k : MadeNat w1 w2 v1 v2 n2 G2) : MadeNat w w2 v v2 n2 G2 :=
 ⟨k.own, h.fr.trans k.fr fun i hi hs => by
  rcases h.at_ i hs with e | e
  ·exact e
  ·omega,
fun i hi => by
  rcases k.at_ i hi with e | e
  ·exact h.at_ i e
  ·exact .inr (Nat.le_trans h.fr.size e)⟩
set_option maxHeartbeats 1000000 in
theorem nat_mulAddWW (v vx : Value) (m n y r : Nat) (R : Int) (F X : Nat → Nat) (w : World) (h : OwnW w v m F) (hx : RdW w vx n X) (hn : n ≤ 999998000)
  (ha : ∀ g o l c, vx = .slice (some ⟨g, o, none⟩) l c → v.ownBlock = some g → o = 0) (hy : y < BB) (hR : R = r) (hr : r < BB) :
  Calls Tryz.prog 183 #[v, vx, .int .u64 y, .int .u64 R] w fun e w' =>
   ∃ (v' : Value) (n' : Nat) (G : Nat → Nat), e = .returned v' ∧ MadeNat w w' v v' n' G ∧ n' ≤ n + 1 ∧ Top G n' ∧ Vb BB G 0 n' = Vb BB X 0 n * y + r := by
 subst hR
 by_cases h0 : n = 0 ∨ y = 0
 ·have hval : Vb BB X 0 n * y + r = r := by
   rcases h0 with rfl | rfl
   ·simp [Vb]
   ·simp
  have HV := Lib.hid hval
  clear hval
  have fin : ∀ (e : Ending) w', (∃ (v' : Value) (n : Nat) (G : Nat → Nat), e = .returned v' ∧ MadeNat w w' v v' n G ∧ n ≤ 1 ∧ Top G n ∧ Vb BB G 0 n = r) →
    ∃ (v' : Value) (n' : Nat) (G : Nat → Nat), e = .returned v' ∧ MadeNat w w' v v' n' G ∧ n' ≤ n + 1 ∧ Top G n' ∧ Vb BB G 0 n' = Vb BB X 0 n * y + r := by
   rintro e w' ⟨v', n', G, he, h1, h2, h3, h4⟩
   exact ⟨v', n', G, he, h1, by omega, h3, by rw [HV.out]; exact h4⟩
  have FIN := Lib.hid fin
  clear fin
  rcases hx with ⟨rfl, rfl⟩ | ⟨g, o, c, cs, rfl, h1, h2, h3, hc, hrd⟩
  ·go_enter Tryz.func183, Tryz.ntmps183
   go_wp2_with fail
   refine (nat_setWord v m r F w h hr).mono ?_
   rintro e w1 ⟨v', n, G, rfl, hh⟩
   go_wp2
   go_ret
   exact FIN.out _ _ ⟨v', n, G, rfl, hh⟩
  ·rw [LL_eq] at h2
   by_cases hn0 : n = 0
   ·subst hn0
    have hb : (((0 : Nat) : Int) == 0) = true := by simp
    go_enter Tryz.func183, Tryz.ntmps183
    go_wp2_with fail
    refine (nat_setWord v m r F w h hr).mono ?_
    rintro e w1 ⟨v', n, G, rfl, hh⟩
    go_wp2
    go_ret
    exact FIN.out _ _ ⟨v', n, G, rfl, hh⟩
   ·obtain rfl : y = 0 := by omega
    have hb : ((n : Int) == 0) = false := by simp; exact hn0
    have hb2 : (((0 : Nat) : Int) == 0) = true := by simp
    clear hn0 h0
    go_enter Tryz.func183, Tryz.ntmps183
    go_wp2_with fail
    refine (nat_setWord v m r F w h hr).mono ?_
    rintro e w1 ⟨v', n, G, rfl, hh⟩
    go_wp2
    go_ret
    exact FIN.out _ _ ⟨v', n, G, rfl, hh⟩
 ·have hx0 := hx
  rcases hx with ⟨rfl, rfl⟩ | ⟨g, o, c, cs, rfl, h1, h2, h3, hc, hrd⟩
  ·omega
  have hw := hx0.words
  have hb : ((n : Int) == 0) = false := by simp; omega
  have hb2 : ((y : Int) == 0) = false := by simp; omega
  have hpos : 0 < n := by omega
  have hgl := hx0.lt (k := g) rfl
  have ha' := fun e => ha g o n c rfl e
  clear ha
  have HA := Lib.hid ha'
  clear ha'
  rw [LL_eq] at h2
  go_enter Tryz.func183, Tryz.ntmps183
  go_wp2_with fail
  refine (nat_make v m (n + 1) _ F _ h (by omega) (by omega)).mono ?_
  rintro e w1 ⟨v', G, rfl, hm, hf, ho⟩
  rcases hm.own with ⟨_, e0⟩ | ⟨g', c', rfl, hmc, hbk⟩
  ·omega
  have hroom := hbk.room
  rw [LL_eq] at hroom
  have hw1 : Words w1 g o n X := hw.fr hf (fun x => x)
  have hal : g = g' → o = 0 := by
   rintro rfl
   rcases hm.at_ g rfl with e | e
   ·exact HA.out e
   ·omega
  go_wp2_with fail
  refine (mulAddVWW n g' 0 c' _ g o _ y r G X w1 hbk hw1 (by omega) hal hy hr).mono ?_
  rintro e w2 ⟨cc, G2, rfl, hcc, hb2, hold, hV, hfr2⟩
  have HV := Lib.hid hV
  clear hV hold
  have hcell := hb2.cell (j := n) (by omega)
  have hfree := hb2.free n
  go_wp2_with fail
  refine (nat_norm_own (.slice (some ⟨g', 0, none⟩) (n + 1) c') (n + 1) (upd G2 n cc) _ (.inr ⟨g', c', rfl, by omega, hb2.store hcc⟩)).mono ?_
  rintro e w3 ⟨v3, n3, rfl, hown3, hn3, ht3, hv3, hob3, rfl⟩
  have HV3 := Lib.hid hv3
  clear hv3
  go_wp2
  go_ret
  refine ⟨v3, n3, upd G2 n cc, rfl, ?_, hn3, ht3, ?_⟩
  ·refine hm.next ⟨hown3, (hfr2.setCell _ _ (.inr rfl)).mono fun i _ hi => by rw [hi]; rfl, fun k hk => .inl (hob3 ▸ hk)⟩
  ·rw [HV3.out]
   have := V_upd_succ BB G2 0 n cc
   rw [Nat.zero_add] at this
   rw [this]
   exact HV.out
end Go.Proofs.YtilmldfbmmcchaaGreatDoor
