/- Whole numbers of any length: comparison. Conditions: the numbers lie in memory and have no leading zeros. -/
import Derived.Test.YtkholmbfeghhpaaGreatDoorInt
namespace Go.Proofs.YtkholmbfeghhpaaGreatDoor
open Go.RowKit

/-- Less, equal, greater, as a number. -/
def cmpI (a b : Nat) : Int := if a < b then -1 else if a = b then 0 else 1

theorem V_top_lt {F G : Nat → Nat} {n m : Nat} (hF : ∀ j, j < n → F j < BB) (hG : Top G m) (h : n < m) : Vb BB F 0 n < Vb BB G 0 m := by
  rcases hG with hG | hG
  · omega
  · obtain ⟨k, rfl⟩ : ∃ k, m = k + 1 := ⟨m - 1, by omega⟩
    have h1 : Vb BB F 0 n < BB ^ n := V_lt (fun j hj => by rw [Nat.zero_add]; exact hF j hj)
    have h2 : BB ^ k ≤ Vb BB G 0 (k + 1) := V_top (by rw [Nat.zero_add]; simpa using hG)
    exact Nat.lt_of_lt_of_le (Nat.lt_of_lt_of_le h1 (Nat.pow_le_pow_right BB_pos (by omega))) h2
/-- The first difference from above decides. -/
theorem V_lt_at {F G : Nat → Nat} {n k : Nat} (hF : ∀ j, j < n → F j < BB) (hk : k < n) (h : F k < G k) (he : ∀ j, k < j → j < n → F j = G j) : Vb BB F 0 n < Vb BB G 0 n := by
  obtain ⟨d, rfl⟩ : ∃ d, n = k + 1 + d := ⟨n - (k + 1), by omega⟩
  rw [V_add (F := F), V_add (F := G), V_succ (F := F), V_succ (F := G), Nat.zero_add, Nat.zero_add]
  have h1 : Vb BB F (k + 1) d = Vb BB G (k + 1) d := V_congr (fun j hj => he _ (by omega) (by omega))
  have h2 : Vb BB F 0 k < BB ^ k := V_lt (fun j hj => by rw [Nat.zero_add]; exact hF j (by omega))
  have h3 : BB ^ k * (F k + 1) ≤ BB ^ k * G k := Nat.mul_le_mul_left _ h
  rw [Nat.mul_add, Nat.mul_one] at h3
  rw [h1]
  omega
theorem cmpI_lt {a b : Nat} (h : a < b) : cmpI a b = -1 := by rw [cmpI, if_pos h]
theorem cmpI_eq {a b : Nat} (h : a = b) : cmpI a b = 0 := by rw [cmpI, if_neg (by omega), if_pos h]
theorem cmpI_gt {a b : Nat} (h : b < a) : cmpI a b = 1 := by rw [cmpI, if_neg (by omega), if_neg (by omega)]

set_option maxRecDepth 100000 in
set_option maxHeartbeats 2000000 in
theorem nat_cmp_raw (gx ox cx gy oy cy n : Nat) (X Y : Nat → Nat) (w : World) (hn : n ≤ 1000000000) (h0 : 0 < n) (hx : Words w gx ox n X) (hy : Words w gy oy n Y) :
    Calls Tryz.prog 113 #[.slice (some ⟨gx, ox, none⟩) n cx, .slice (some ⟨gy, oy, none⟩) n cy] w fun e w' => e = .returned (.int .i64 (cmpI (Vb BB X 0 n) (Vb BB Y 0 n))) ∧ ∃ q, w' = w.drewN q := by
  have b0 : ((n : Int) == 0) = false := by simp; omega
  have b1 : ((n : Int) != (n : Int)) = false := by simp
  go_enter Tryz.func113, Tryz.ntmps113
  go_wp2
  go_loopw [7] (fun i wr => ∃ (k q : Nat), k < n ∧ i = .int .i64 k ∧ Hid (∀ j, k < j → j < n → X j = Y j) ∧ wr = w.drewN q)
    (fun i _ => (intOf i).toNat)
  case atStart => exact ⟨n - 1, 0, by omega, by go_num, fun j h1 h2 => by omega, rfl⟩
  case round =>
    obtain ⟨k, q, hk, rfl, hE, rfl⟩ := hrel
    obtain ⟨xk, hxk⟩ : ∃ xk : Nat, Hid (xk = X k) := ⟨_, rfl⟩
    obtain ⟨yk, hyk⟩ : ∃ yk : Nat, Hid (yk = Y k) := ⟨_, rfl⟩
    have hxc : w.cell? ⟨gx, ox + k, none⟩ = some (.int .u64 (xk : Nat)) := by rw [hx.cell _ hk, ← hxk.out]
    have hyc : w.cell? ⟨gy, oy + k, none⟩ = some (.int .u64 (yk : Nat)) := by rw [hy.cell _ hk, ← hyk.out]
    have hend : xk ≠ yk ∨ k = 0 → cmpI (Vb BB X 0 n) (Vb BB Y 0 n) = cmpI xk yk := by
      intro _
      have a1 := @V_lt_at X Y n k (fun j hj => hx.word j hj) hk
      have a2 := @V_lt_at Y X n k (fun j hj => hy.word j hj) hk
      rcases Nat.lt_trichotomy (X k) (Y k) with h | h | h
      · rw [cmpI_lt (a1 h hE.out), cmpI_lt (by rw [hxk.out, hyk.out]; exact h)]
      · rw [cmpI_eq (a := xk) (by rw [hxk.out, hyk.out]; exact h)]
        have : k = 0 := by have := hxk.out; have := hyk.out; omega
        subst this
        exact cmpI_eq (V_congr (fun j hj => by
          rw [Nat.zero_add]
          by_cases e : j = 0
          · subst e; exact h
          · exact hE.out j (by omega) hj))
      · rw [cmpI_gt (a2 h (fun j h1 h2 => (hE.out j h1 h2).symm)), cmpI_gt (by rw [hxk.out, hyk.out]; exact h)]
    by_cases hk0 : k = 0
    · subst hk0
      rw [Nat.add_zero] at hxc hyc
      have HE := Lib.hid (hend (.inr rfl))
      clear hend
      have hg : decide ((0 : Int) < ((0 : Nat) : Int)) = false := by simp
      rcases Nat.lt_trichotomy xk yk with h | h | h
      · have d1 : decide (xk < yk) = true := decide_eq_true h
        have HR := Lib.hid (HE.out.trans (cmpI_lt h))
        clear h HE
        go_wp2
        go_quiet (fail)
        go_wp2
        go_quiet (fail)
        go_wp2
        go_ret
        exact ⟨ret1 HR.out.symm, _, by simp only [World.drewN_drewN]; rfl⟩
      · have d1 : decide (xk < yk) = false := decide_eq_false (by omega)
        have d2 : decide (yk < xk) = false := decide_eq_false (by omega)
        have HR := Lib.hid (HE.out.trans (cmpI_eq h))
        clear h HE
        go_wp2
        go_quiet (fail)
        go_wp2
        go_quiet (fail)
        go_wp2
        go_quiet (fail)
        go_wp2
        go_ret
        exact ⟨ret1 HR.out.symm, _, by simp only [World.drewN_drewN]; rfl⟩
      · have d1 : decide (xk < yk) = false := decide_eq_false (by omega)
        have d2 : decide (yk < xk) = true := decide_eq_true h
        have HR := Lib.hid (HE.out.trans (cmpI_gt h))
        clear h HE
        go_wp2
        go_quiet (fail)
        go_wp2
        go_quiet (fail)
        go_wp2
        go_quiet (fail)
        go_wp2
        go_ret
        exact ⟨ret1 HR.out.symm, _, by simp only [World.drewN_drewN]; rfl⟩
    · have hk1 : 0 < k := by omega
      have hg : decide (0 < k) = true := decide_eq_true hk1
      rcases Nat.lt_trichotomy xk yk with h | h | h
      · have d0 : ((xk : Int) == yk) = false := by simp; omega
        have d1 : decide (xk < yk) = true := decide_eq_true h
        have HR := Lib.hid ((hend (.inl (by omega))).trans (cmpI_lt h))
        clear h hend
        go_wp2
        go_quiet (fail)
        go_wp2
        go_quiet (fail)
        go_wp2
        go_ret
        exact ⟨ret1 HR.out.symm, _, by simp only [World.drewN_drewN]; rfl⟩
      · subst h
        have d0 : ((xk : Int) == xk) = true := by simp
        clear hend
        go_wp2
        go_quiet (fail)
        go_wp2
        go_roundw
        case rel =>
          refine ⟨k - 1, _, by omega, by go_num, fun j h1 h2 => ?_, rfl⟩
          by_cases e : j = k
          · subst e; rw [← hxk.out, hyk.out]
          · exact hE.out j (by omega) h2
        case measure => simp [intOf]; omega
      · have d0 : ((xk : Int) == yk) = false := by simp; omega
        have d1 : decide (xk < yk) = false := decide_eq_false (by omega)
        have d2 : decide (yk < xk) = true := decide_eq_true h
        have HR := Lib.hid ((hend (.inl (by omega))).trans (cmpI_gt h))
        clear h hend
        go_wp2
        go_quiet (fail)
        go_wp2
        go_quiet (fail)
        go_wp2
        go_quiet (fail)
        go_wp2
        go_ret
        exact ⟨ret1 HR.out.symm, _, by simp only [World.drewN_drewN]; rfl⟩

set_option maxRecDepth 100000 in
/-- The comparison of two natural numbers. -/
theorem nat_cmp (vx vy : Value) (n m : Nat) (X Y : Nat → Nat) (w : World) (hx : RdW w vx n X) (hy : RdW w vy m Y) (tx : Top X n) (ty : Top Y m) :
    Calls Tryz.prog 113 #[vx, vy] w fun e w' => e = .returned (.int .i64 (cmpI (Vb BB X 0 n) (Vb BB Y 0 m))) ∧ ∃ q, w' = w.drewN q := by
  rcases Nat.lt_trichotomy n m with h | h | h
  · have HR := Lib.hid (cmpI_lt (V_top_lt (fun j hj => hx.word hj) ty h))
    obtain ⟨Ax, cx, rfl, h1, h2⟩ := hx.shape
    obtain ⟨Ay, cy, rfl, h3, h4⟩ := hy.shape
    have b1 : ((n : Int) != (m : Int)) = true := by simp; omega
    have b2 : decide (n < m) = true := decide_eq_true h
    clear hx hy tx ty
    go_enter Tryz.func113, Tryz.ntmps113
    go_wp2
    go_ret
    exact ⟨ret1 HR.out.symm, 0, rfl⟩
  · subst h
    by_cases h0 : n = 0
    · subst h0
      obtain ⟨Ax, cx, rfl, h1, h2⟩ := hx.shape
      obtain ⟨Ay, cy, rfl, h3, h4⟩ := hy.shape
      have b1 : (((0 : Nat) : Int) != ((0 : Nat) : Int)) = false := by simp
      have b2 : decide (0 < 0) = false := by simp
      clear hx hy tx ty
      go_enter Tryz.func113, Tryz.ntmps113
      go_wp2
      go_ret
      exact ⟨ret1 (cmpI_eq rfl).symm, 0, rfl⟩
    · have hl := hx.le
      rw [LL_eq] at hl
      rcases hx with ⟨_, e⟩ | ⟨gx, ox, cx', csx, ex', hx1, hx2, hx3, hxc', hxr⟩
      · exact absurd e h0
      rcases hy with ⟨_, e⟩ | ⟨gy, oy, cy', csy, ey', hy1, hy2, hy3, hyc', hyr⟩
      · exact absurd e h0
      have hx0 : RdW w vx n X := .inr ⟨gx, ox, cx', csx, ex', hx1, hx2, hx3, hxc', hxr⟩
      have hy0 : RdW w vy n Y := .inr ⟨gy, oy, cy', csy, ey', hy1, hy2, hy3, hyc', hyr⟩
      subst ex'; subst ey'
      exact nat_cmp_raw gx ox cx' gy oy cy' n X Y w hl (by omega) hx0.words hy0.words
  · have HR := Lib.hid (cmpI_gt (V_top_lt (fun j hj => hy.word hj) tx h))
    obtain ⟨Ax, cx, rfl, h1, h2⟩ := hx.shape
    obtain ⟨Ay, cy, rfl, h3, h4⟩ := hy.shape
    have b1 : ((n : Int) != (m : Int)) = true := by simp; omega
    have b2 : decide (n < m) = false := decide_eq_false (by omega)
    have b3 : decide (m < n) = true := decide_eq_true h
    clear hx hy tx ty
    go_enter Tryz.func113, Tryz.ntmps113
    go_wp2
    go_ret
    exact ⟨ret1 HR.out.symm, 0, rfl⟩

theorem quiet_of2 {P : Program} {f : FuncId} {args : Array Value} {w : World} {a n : Nat} {v : Value}
    (h : Calls P f args (w.drewN (a + n)) fun e w' => e = .returned v ∧ ∃ m, w' = (w.drewN (a + n)).drewN m) : Calls P f args (w.drewN (a + n)) fun e w'' => e = .returned v ∧ ∃ m, w'' = w.drewN (a + m) :=
  h.mono fun _ _ ⟨he, m, hm⟩ => ⟨he, n + m, by rw [hm, World.drewN_drewN, Nat.add_assoc]⟩

/-- The comparison of two numbers that are not negative. -/
theorem int_Cmp (px py n m : Nat) (vx vy : Value) (X Y : Nat → Nat) (w : World) (hx : IntRd w px false vx n X) (hy : IntRd w py false vy m Y) (hne : px ≠ py) :
    Calls Tryz.prog 81 #[.pointer (some ⟨px, 0, none⟩), .pointer (some ⟨py, 0, none⟩)] w fun e w' => e = .returned (.int .i64 (cmpI (Vb BB X 0 n) (Vb BB Y 0 m))) ∧ ∃ q, w' = w.drewN q := by
  have hE0 : (binOp .eql 88 (.pointer (some ⟨px, 0, none⟩)) (.pointer (some ⟨py, 0, none⟩))).run Tryz.prog w = .ok (.bool false) w := by
    rw [eql_ptr _ _ w _ _ _ _ hx.blk hy.blk _ _ Tryz.underlying88 (by kernel_rfl)]
    rw [decide_eq_false (fun e => hne (congrArg Addr.block e))]
  have x0 := hx.c0
  have x1 := hx.c1
  have y0 := hy.c0
  have y1 := hy.c1
  have C := fun q => nat_cmp vx vy n m X Y (w.drewN q) (hx.rd.fr ((Fr.refl NoS w).drewN q) (fun _ _ x => x)) (hy.rd.fr ((Fr.refl NoS w).drewN q) (fun _ _ x => x)) hx.top hy.top
  clear hx hy
  go_enter Tryz.func81, Tryz.ntmps81
  go_wp2
  go_quiet (fail)
  go_wp2
  go_quiet ((go_at_call 113; exact quiet_of2 (C _)))
  go_wp2
  go_ret
  exact ⟨rfl, _, rfl⟩
end Go.Proofs.YtkholmbfeghhpaaGreatDoor
