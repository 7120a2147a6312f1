/- The product of two natural numbers, joined. Conditions: the slices lie in memory; the shorter one has fewer than 40 words; the threshold's variable holds 40. -/
import Derived.Test.YtkholmbfeghhpaaGreatDoorMulNat
namespace Go.Proofs.YtkholmbfeghhpaaGreatDoor
open Go.RowKit

set_option maxRecDepth 100000 in
set_option maxHeartbeats 4000000 in
theorem nat_mul_big (v stk : Value) (gx ox gy oy l n m cx cy : Nat) (F X Y : Nat → Nat) (w : World) (h : OwnW w v l F) (hx : RdW w (.slice (some ⟨gx, ox, none⟩) n cx) n X) (hy : RdW w (.slice (some ⟨gy, oy, none⟩) m cy) m Y) (hmn : m ≤ n) (hm1 : 2 ≤ m) (hm : m < 40) (hn : n ≤ 900000000)
    (nx : Near v (.slice (some ⟨gx, ox, none⟩) n cx)) (ny : Near v (.slice (some ⟨gy, oy, none⟩) m cy)) (hkar : w.cell? ⟨11, 0, none⟩ = some (.int .i64 40)) :
    Calls Tryz.prog 151 #[v, stk, .slice (some ⟨gx, ox, none⟩) n cx, .slice (some ⟨gy, oy, none⟩) m cy] w fun e w' =>
      ∃ (v' : Value) (n' : Nat) (G : Nat → Nat), e = .returned v' ∧ MadeNat w w' v v' n' G ∧ n' ≤ n + m ∧ Top G n' ∧ Vb BB G 0 n' = Vb BB X 0 n * Vb BB Y 0 m := by
  have hlt : decide ((n : Int) < (m : Int)) = false := by simp; exact hmn
  have hb1 : ((m : Int) == 1) = false := by simp; omega
  have hm0 : ((m : Int) == 0) = false := by simp; omega
  have hb0 : ((n : Int) == 0) = false := by simp; omega
  have b40 : decide ((m : Int) < 40) = true := by simp; omega
  have A1 := alias_any v _ l n F X w h hx (by omega) nx
  have wx := hx.words
  have wy := hy.words
  have hxl := hx.lt (k := gx) rfl
  have hyl := hy.lt (k := gy) rfl
  go_enter_defers Tryz.func151, Tryz.ntmps151
  go_wp2_with fail
  refine A1.mono ?_
  rintro e w1 ⟨b1, rfl, hfr1, hb1f⟩
  clear A1
  cases b1 with
  | true =>
    clear hb1f
    go_wp2_with fail
    refine (nat_make (.slice none 0 0) 0 (n + m) _ F _ (.inl ⟨rfl, rfl⟩) (by omega) (by omega)).mono ?_
    rintro e w2 ⟨v2, G2, rfl, hm2, hf2, ho2⟩
    rcases hm2.own with ⟨_, e0⟩ | ⟨g2, c2, rfl, hmc2, hbk2⟩
    · omega
    have hsep : gx ≠ g2 ∧ gy ≠ g2 := by
      rcases hm2.at_ g2 rfl with e | e
      · exact (by simp [Value.ownBlock] at e)
      · have e : _ ≤ g2 := e
        have hs := hfr1.size
        exact ⟨by omega, by omega⟩
    have hroom2 := hbk2.room
    rw [LL_eq] at hroom2
    have hkar2 : w2.cell? ⟨11, 0, none⟩ = some (.int .i64 40) := by
      rw [(hfr1.trans' hf2).cell (World.block_lt_of_cell? w _ hkar) (fun x => x)]; exact hkar
    have wx2 : Words w2 gx ox n X := (wx.fr (S := NoS) hfr1 (fun x => x)).fr (S := NoS) hf2 (fun x => x)
    have wy2 : Words w2 gy oy m Y := (wy.fr (S := NoS) hfr1 (fun x => x)).fr (S := NoS) hf2 (fun x => x)
    go_wp2_with fail
    refine (basicMul n m g2 (n + m) c2 gx ox cx gy oy cy c2 G2 X Y w2 hbk2 wx2 wy2 (Nat.le_refl _) hmc2 (Nat.le_refl _) hsep.1 hsep.2 (by rw [LL_eq]; omega)).mono ?_
    rintro e w3 ⟨G3, rfl, hb3, hv3, hf3⟩
    have HV3 := Lib.hid hv3
    clear hv3
    go_wp2_with fail
    refine (nat_norm_own (.slice (some ⟨g2, 0, none⟩) (n + m) c2) (n + m) G3 _ (.inr ⟨g2, c2, rfl, hmc2, hb3⟩)).mono ?_
    rintro e w4 ⟨v4, n4, rfl, hown4, hn4, ht4, hv4, hob4, rfl⟩
    have HV4 := Lib.hid hv4
    clear hv4
    go_wp2
    refine bodyPostD_ret (results_tmp (t := 8) rfl _ _ _) rfl ⟨v4, n4, G3, rfl, mul_fin hfr1 hm2 hf2 hf3 hown4 hob4 (.inl rfl), hn4, ht4, by rw [HV4.out, HV3.out]⟩
  | false =>
    have HB1 := Lib.hid hb1f
    clear hb1f
    have h' : OwnW w1 v l F := h.fr hfr1 (fun _ _ x => x)
    have hy0' : RdW w1 (.slice (some ⟨gy, oy, none⟩) m cy) m Y := hy.fr hfr1 (fun _ _ x => x)
    go_wp2_with fail
    refine (alias_any v _ l m F Y _ h' hy0' (by omega) ny).mono ?_
    rintro e w11 ⟨b2, rfl, hfr2, hb2f⟩
    have h2' : OwnW w11 v l F := h'.fr hfr2 (fun _ _ x => x)
    replace hfr1 := hfr1.trans' hfr2
    clear hfr2 h' hy0'
    cases b2 with
    | true =>
      clear hb2f
      go_wp2_with fail
      refine (nat_make (.slice none 0 0) 0 (n + m) _ F _ (.inl ⟨rfl, rfl⟩) (by omega) (by omega)).mono ?_
      rintro e w2 ⟨v2, G2, rfl, hm2, hf2, ho2⟩
      rcases hm2.own with ⟨_, e0⟩ | ⟨g2, c2, rfl, hmc2, hbk2⟩
      · omega
      have hsep : gx ≠ g2 ∧ gy ≠ g2 := by
        rcases hm2.at_ g2 rfl with e | e
        · exact (by simp [Value.ownBlock] at e)
        · have e : _ ≤ g2 := e
          have hs := hfr1.size
          exact ⟨by omega, by omega⟩
      have hroom2 := hbk2.room
      rw [LL_eq] at hroom2
      have hkar2 : w2.cell? ⟨11, 0, none⟩ = some (.int .i64 40) := by
        rw [(hfr1.trans' hf2).cell (World.block_lt_of_cell? w _ hkar) (fun x => x)]; exact hkar
      have wx2 : Words w2 gx ox n X := (wx.fr (S := NoS) hfr1 (fun x => x)).fr (S := NoS) hf2 (fun x => x)
      have wy2 : Words w2 gy oy m Y := (wy.fr (S := NoS) hfr1 (fun x => x)).fr (S := NoS) hf2 (fun x => x)
      go_wp2_with fail
      refine (basicMul n m g2 (n + m) c2 gx ox cx gy oy cy c2 G2 X Y w2 hbk2 wx2 wy2 (Nat.le_refl _) hmc2 (Nat.le_refl _) hsep.1 hsep.2 (by rw [LL_eq]; omega)).mono ?_
      rintro e w3 ⟨G3, rfl, hb3, hv3, hf3⟩
      have HV3 := Lib.hid hv3
      clear hv3
      go_wp2_with fail
      refine (nat_norm_own (.slice (some ⟨g2, 0, none⟩) (n + m) c2) (n + m) G3 _ (.inr ⟨g2, c2, rfl, hmc2, hb3⟩)).mono ?_
      rintro e w4 ⟨v4, n4, rfl, hown4, hn4, ht4, hv4, hob4, rfl⟩
      have HV4 := Lib.hid hv4
      clear hv4
      go_wp2
      refine bodyPostD_ret (results_tmp (t := 8) rfl _ _ _) rfl ⟨v4, n4, G3, rfl, mul_fin hfr1 hm2 hf2 hf3 hown4 hob4 (.inl rfl), hn4, ht4, by rw [HV4.out, HV3.out]⟩
    | false =>
      have HB2 := Lib.hid hb2f
      clear hb2f
      go_wp2_with fail
      refine (nat_make v l (n + m) _ F _ h2' (by omega) (by omega)).mono ?_
      rintro e w2 ⟨v2, G2, rfl, hm2, hf2, ho2⟩
      rcases hm2.own with ⟨_, e0⟩ | ⟨g2, c2, rfl, hmc2, hbk2⟩
      · omega
      have hsep : gx ≠ g2 ∧ gy ≠ g2 := by
        rcases hm2.at_ g2 rfl with e | e
        · exact ⟨fun x => HB1.out trivial g2 e (by rw [← x]; rfl), fun x => HB2.out trivial g2 e (by rw [← x]; rfl)⟩
        · have e : _ ≤ g2 := e
          have hs := hfr1.size
          exact ⟨by omega, by omega⟩
      have hroom2 := hbk2.room
      rw [LL_eq] at hroom2
      have hkar2 : w2.cell? ⟨11, 0, none⟩ = some (.int .i64 40) := by
        rw [(hfr1.trans' hf2).cell (World.block_lt_of_cell? w _ hkar) (fun x => x)]; exact hkar
      have wx2 : Words w2 gx ox n X := (wx.fr (S := NoS) hfr1 (fun x => x)).fr (S := NoS) hf2 (fun x => x)
      have wy2 : Words w2 gy oy m Y := (wy.fr (S := NoS) hfr1 (fun x => x)).fr (S := NoS) hf2 (fun x => x)
      go_wp2_with fail
      refine (basicMul n m g2 (n + m) c2 gx ox cx gy oy cy c2 G2 X Y w2 hbk2 wx2 wy2 (Nat.le_refl _) hmc2 (Nat.le_refl _) hsep.1 hsep.2 (by rw [LL_eq]; omega)).mono ?_
      rintro e w3 ⟨G3, rfl, hb3, hv3, hf3⟩
      have HV3 := Lib.hid hv3
      clear hv3
      go_wp2_with fail
      refine (nat_norm_own (.slice (some ⟨g2, 0, none⟩) (n + m) c2) (n + m) G3 _ (.inr ⟨g2, c2, rfl, hmc2, hb3⟩)).mono ?_
      rintro e w4 ⟨v4, n4, rfl, hown4, hn4, ht4, hv4, hob4, rfl⟩
      have HV4 := Lib.hid hv4
      clear hv4
      go_wp2
      refine bodyPostD_ret (results_tmp (t := 8) rfl _ _ _) rfl ⟨v4, n4, G3, rfl, mul_fin hfr1 hm2 hf2 hf3 hown4 hob4 (.inr rfl), hn4, ht4, by rw [HV4.out, HV3.out]⟩

/-- The product, the longer factor first. -/
theorem nat_mul_le (v vx vy stk : Value) (l n m : Nat) (F X Y : Nat → Nat) (w : World) (h : OwnW w v l F) (hx : RdW w vx n X) (hy : RdW w vy m Y) (hmn : m ≤ n) (hm : m < 40) (hn : n ≤ 900000000)
    (nx : Near v vx) (ny : Near v vy) (hkar : w.cell? ⟨11, 0, none⟩ = some (.int .i64 40)) :
    Calls Tryz.prog 151 #[v, stk, vx, vy] w fun e w' =>
      ∃ (v' : Value) (n' : Nat) (G : Nat → Nat), e = .returned v' ∧ MadeNat w w' v v' n' G ∧ n' ≤ n + m ∧ Top G n' ∧ Vb BB G 0 n' = Vb BB X 0 n * Vb BB Y 0 m := by
  obtain ⟨Ax, cx, ex, hxc, hxc2⟩ := hx.shape
  obtain ⟨Ay, cy, ey, hyc, hyc2⟩ := hy.shape
  by_cases h0 : m = 0
  · subst h0; subst ex; subst ey
    refine (nat_mul_zero v stk Ax Ay l n cx cy F w h).mono ?_
    rintro e w' ⟨v', he, hm'⟩
    exact ⟨v', 0, F, he, hm', Nat.zero_le _, .inl rfl, by simp [Vb]⟩
  · rcases hy with ⟨_, e⟩ | ⟨gy, oy, cy', csy, ey', hy1, hy2, hy3, hyc', hyr⟩
    · omega
    rcases hx with ⟨_, e⟩ | ⟨gx, ox, cx', csx, ex', hx1, hx2, hx3, hxc', hxr⟩
    · omega
    have hx0 : RdW w vx n X := .inr ⟨gx, ox, cx', csx, ex', hx1, hx2, hx3, hxc', hxr⟩
    have hy0 : RdW w vy m Y := .inr ⟨gy, oy, cy', csy, ey', hy1, hy2, hy3, hyc', hyr⟩
    subst ex'; subst ey'
    by_cases h1 : m = 1
    · subst h1
      refine (nat_mul_one v _ stk gy oy l n cy' F X Y w h hx0 hy0.words (by omega) hn nx).mono ?_
      rintro e w' ⟨v', n', G, he, h2, h3, h4, h5⟩
      exact ⟨v', n', G, he, h2, h3, h4, by rw [V_one]; exact h5⟩
    · exact nat_mul_big v stk gx ox gy oy l n m cx' cy' F X Y w h hx0 hy0 hmn (by omega) hm hn nx ny hkar

set_option maxRecDepth 100000 in
/-- The product. -/
theorem nat_mul (v vx vy stk : Value) (l n m : Nat) (F X Y : Nat → Nat) (w : World) (h : OwnW w v l F) (hx : RdW w vx n X) (hy : RdW w vy m Y) (hmn : m < 40 ∧ n ≤ 900000000 ∨ n < 40 ∧ m ≤ 900000000)
    (nx : Near v vx) (ny : Near v vy) (hkar : w.cell? ⟨11, 0, none⟩ = some (.int .i64 40)) :
    Calls Tryz.prog 151 #[v, stk, vx, vy] w fun e w' =>
      ∃ (v' : Value) (n' : Nat) (G : Nat → Nat), e = .returned v' ∧ MadeNat w w' v v' n' G ∧ n' ≤ n + m ∧ Top G n' ∧ Vb BB G 0 n' = Vb BB X 0 n * Vb BB Y 0 m := by
  by_cases hle : m ≤ n
  · exact nat_mul_le v vx vy stk l n m F X Y w h hx hy hle (by omega) (by omega) nx ny hkar
  · have HM := nat_mul_le v vy vx stk l m n F Y X w h hy hx (by omega) (by omega) (by omega) ny nx hkar
    obtain ⟨Ax, cx, ex, hxc, hxc2⟩ := hx.shape
    obtain ⟨Ay, cy, ey, hyc, hyc2⟩ := hy.shape
    have hlt : decide ((n : Int) < (m : Int)) = true := by simp; omega
    subst ex; subst ey
    have hnm : n < m := by omega
    clear hx hy nx ny hkar h hmn hle
    go_enter_defers Tryz.func151, Tryz.ntmps151
    go_wp2_with fail
    refine HM.mono ?_
    rintro e w' ⟨v', n', G, rfl, h2, h3, h4, h5⟩
    have HV := Lib.hid h5
    clear h5 HM
    go_wp2
    exact bodyPostD_ret (results_tmp (t := 8) rfl _ _ _) rfl ⟨v', n', G, rfl, h2, by omega, h4, by rw [Nat.mul_comm]; exact HV.out⟩
end Go.Proofs.YtkholmbfeghhpaaGreatDoor
