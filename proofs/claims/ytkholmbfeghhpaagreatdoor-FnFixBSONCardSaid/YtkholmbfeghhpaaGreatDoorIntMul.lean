/- Whole numbers of any length: products. Conditions: the numbers lie in memory; one factor has fewer than 40 words. -/
import Derived.Test.YtkholmbfeghhpaaGreatDoorInt
import Derived.Test.YtkholmbfeghhpaaGreatDoorMulBig

import Derived.BigRegion
namespace Go.Proofs.YtkholmbfeghhpaaGreatDoor
open Go.RowKit

theorem sgn_mul (nx ny : Bool) (a b : Nat) : sgn (nx != ny) (a * b) = sgn nx a * sgn ny b := by
  cases nx <;> cases ny <;> simp [sgn, Int.natCast_mul, Int.neg_mul, Int.mul_neg]
theorem sgn_zero (s : Bool) : sgn s 0 = 0 := by cases s <;> rfl

set_option maxRecDepth 100000 in
set_option maxHeartbeats 4000000 in
theorem int_mul (pz px py l n m : Nat) (neg nx ny : Bool) (v vx vy : Value) (F X Y : Nat → Nat) (w : World) (hb : w.heap[pz]? = some (.cells #[.bool neg, v] TI (0, 0))) (h : OwnW w v l F)
    (hx : IntRd w px nx vx n X) (hy : IntRd w py ny vy m Y) (hmn : m < 40 ∧ n ≤ 900000000 ∨ n < 40 ∧ m ≤ 900000000) (hne : px ≠ py) (ax : Near v vx) (ay : Near v vy)
    (hkar : w.cell? ⟨11, 0, none⟩ = some (.int .i64 40)) :
    Calls Tryz.prog 115 #[.pointer (some ⟨pz, 0, none⟩), .pointer none, .pointer (some ⟨px, 0, none⟩), .pointer (some ⟨py, 0, none⟩)] w fun e w' =>
      ∃ (v' : Value) (n' : Nat) (G : Nat → Nat) (s : Bool), e = .returned (.tuple #[]) ∧ IntOwn w' pz s v' n' G ∧ n' ≤ n + m ∧ sgn s (Vb BB G 0 n') = sgn nx (Vb BB X 0 n) * sgn ny (Vb BB Y 0 m) ∧ Vb BB G 0 n' = Vb BB X 0 n * Vb BB Y 0 m ∧ Fr (fun k => k = pz ∨ v.ownBlock = some k) w w' ∧ (∀ k, v'.ownBlock = some k → v.ownBlock = some k ∨ w.heap.size ≤ k) := by
  have hE : ∀ u : World, u.heap[px]? = w.heap[px]? → u.heap[py]? = w.heap[py]? → (binOp .eql 88 (.pointer (some ⟨px, 0, none⟩)) (.pointer (some ⟨py, 0, none⟩))).run Tryz.prog u = .ok (.bool false) u := by
    intro u e1 e2
    rw [eql_ptr _ _ u _ _ _ _ (e1.trans hx.blk) (e2.trans hy.blk) _ _ Tryz.underlying88 (by kernel_rfl)]
    rw [decide_eq_false (fun e => hne (congrArg Addr.block e))]
  have hE0 := hE w rfl rfl
  have M := fun u (h1 : OwnW u v l F) (h2 : RdW u vx n X) (h3 : RdW u vy m Y) => nat_mul v vx vy (.pointer none) l n m F X Y u h1 h2 h3 hmn ax ay
  have z1 : w.cell? ⟨pz, 1, none⟩ = some v := by simp [World.cell?, hb]
  have x1 := hx.c1
  have y1 := hy.c1
  have hkar1 : w.drew.cell? ⟨11, 0, none⟩ = some (.int .i64 40) := hkar
  go_enter Tryz.func115, Tryz.ntmps115
  go_wp2_with fail
  go_region_with (go_at_call 151; go_loud ((with_reducible refine (M _ (h.fr ((Fr.refl NoS w).drew) (fun _ _ x => x)) (hx.rd.fr ((Fr.refl NoS w).drew) (fun _ _ x => x)) (hy.rd.fr ((Fr.refl NoS w).drew) (fun _ _ x => x)) hkar1).mono ?_); rintro e w1 ⟨v', n', G, rfl, hm1, hn1, ht1, hv1⟩; have HM := Lib.hid hm1; have HV := Lib.hid hv1; have HT := Lib.hid ht1; have hb1 : w1.heap[pz]? = some (.cells #[.bool neg, v] TI (0, 0)) := (hm1.fr.block pz (Array.getElem?_eq_some_iff.1 hb).1 (h.rd.ne_int hb)).trans hb; have d1 : w1.cell? ⟨pz, 1, none⟩ = some v := (by simp [World.cell?, hb1]); have f1 : w1.frozen? ⟨pz, 1, none⟩ = false := (by simp [World.frozen?, hb1]); obtain ⟨A', c', rfl, hc1, hc2⟩ := hm1.own.rd.shape; clear hm1 hv1 ht1))
  all_goals
    have hfr1 : Fr (fun k => v.ownBlock = some k) w w1 := ((Fr.refl _ w).drew).trans' HM.out.fr
    have hpz := (Array.getElem?_eq_some_iff.1 hb).1
    have hnx1 : w1.cell? ⟨px, 0, none⟩ = some (.bool nx) := (hfr1.cell (p := ⟨px, 0, none⟩) hx.lt (h.rd.ne_int hx.blk)).trans hx.c0
    have hny1 : w1.cell? ⟨py, 0, none⟩ = some (.bool ny) := (hfr1.cell (p := ⟨py, 0, none⟩) hy.lt (h.rd.ne_int hy.blk)).trans hy.c0
    have hfr2 : Fr (· = pz) w1 (w1.setCell ⟨pz, 1, none⟩ (.slice A' n' c')) := Fr.set _ _ _ _
    have hb2 := int_set hb1 (.slice A' n' c')
    have hown2 : OwnW (w1.setCell ⟨pz, 1, none⟩ (.slice A' n' c')) (.slice A' n' c') n' G := HM.out.own.fr hfr2 (fun k hk e => HM.out.own.rd.ne_int hb1 (by rw [hk, e]))
    have hx2 : (w1.setCell ⟨pz, 1, none⟩ (.slice A' n' c')).cell? ⟨px, 0, none⟩ = some (.bool nx) := by
      rw [World.cell?_setCell_other _ _ _ _ (by intro e; injection e with _ e _; omega)]; exact hnx1
    have hy2 : (w1.setCell ⟨pz, 1, none⟩ (.slice A' n' c')).cell? ⟨py, 0, none⟩ = some (.bool ny) := by
      rw [World.cell?_setCell_other _ _ _ _ (by intro e; injection e with _ e _; omega)]; exact hny1
    have hat := HM.out.at_
    generalize w1.setCell ⟨pz, 1, none⟩ (.slice A' n' c') = u at *
    have z1u : u.cell? ⟨pz, 1, none⟩ = some (.slice A' n' c') := by simp [World.cell?, hb2]
    have z0u : u.cell? ⟨pz, 0, none⟩ = some (.bool neg) := by simp [World.cell?, hb2]
    have f0u : u.frozen? ⟨pz, 0, none⟩ = false := by simp [World.frozen?, hb2]
    have hne' : (Value.slice A' n' c').ownBlock ≠ some pz := hown2.rd.ne_int hb2
    have F2 : Fr (fun k => k = pz ∨ v.ownBlock = some k) w u := (hfr1.mono fun k _ e => .inr e).trans hfr2 (fun k _ e => .inl e)
    clear hnx1 hny1 hb1 d1 f1 HM hb hE hE0 M z1 x1 y1 hkar hkar1 hfr1 hfr2
    rcases Nat.eq_zero_or_pos n' with h0 | h0
    · subst h0
      have hg : decide ((0 : Int) < ((0 : Nat) : Int)) = false := by simp
      go_wp2
      go_region
      go_wp2
      go_end0
      have F3 : Fr (· = pz) u.drew (u.drew.setCell ⟨pz, 0, none⟩ (.bool false)) := Fr.set _ _ _ _
      refine ⟨_, 0, G, false, rfl, ⟨int_set0 hb2 _, hown2.fr ((Fr.refl (· = pz) u).drew.trans' F3) (fun k hk e => hne' (by rw [hk, e])), .inl rfl, fun e => by cases e⟩, Nat.zero_le _, ?_, HV.out, (F2.drew).trans F3 (fun k _ e => .inl e), hat⟩
      rw [← sgn_mul, ← HV.out]
      simp [Vb, sgn_zero]
    · have hg : decide ((0 : Int) < (n' : Int)) = true := by simp; exact h0
      go_wp2
      go_region
      go_wp2
      go_end0
      have F3 : Fr (· = pz) u.drew (u.drew.setCell ⟨pz, 0, none⟩ (.bool (nx != ny))) := Fr.set _ _ _ _
      refine ⟨_, n', G, (nx != ny), rfl, ⟨int_set0 hb2 _, hown2.fr ((Fr.refl (· = pz) u).drew.trans' F3) (fun k hk e => hne' (by rw [hk, e])), HT.out, fun _ => h0⟩, hn1, ?_, HV.out, (F2.drew).trans F3 (fun k _ e => .inl e), hat⟩
      rw [← sgn_mul, ← HV.out]

theorem int_Mul (pz px py l n m : Nat) (neg nx ny : Bool) (v vx vy : Value) (F X Y : Nat → Nat) (w : World) (hb : w.heap[pz]? = some (.cells #[.bool neg, v] TI (0, 0))) (h : OwnW w v l F)
    (hx : IntRd w px nx vx n X) (hy : IntRd w py ny vy m Y) (hmn : m < 40 ∧ n ≤ 900000000 ∨ n < 40 ∧ m ≤ 900000000) (hne : px ≠ py) (ax : Near v vx) (ay : Near v vy)
    (hkar : w.cell? ⟨11, 0, none⟩ = some (.int .i64 40)) :
    Calls Tryz.prog 83 #[.pointer (some ⟨pz, 0, none⟩), .pointer (some ⟨px, 0, none⟩), .pointer (some ⟨py, 0, none⟩)] w fun e w' =>
      ∃ (v' : Value) (n' : Nat) (G : Nat → Nat) (s : Bool), e = .returned (.pointer (some ⟨pz, 0, none⟩)) ∧ IntOwn w' pz s v' n' G ∧ n' ≤ n + m ∧ sgn s (Vb BB G 0 n') = sgn nx (Vb BB X 0 n) * sgn ny (Vb BB Y 0 m) ∧ Vb BB G 0 n' = Vb BB X 0 n * Vb BB Y 0 m ∧ Fr (fun k => k = pz ∨ v.ownBlock = some k) w w' ∧ (∀ k, v'.ownBlock = some k → v.ownBlock = some k ∨ w.heap.size ≤ k) := by
  have M := int_mul pz px py l n m neg nx ny v vx vy F X Y w hb h hx hy hmn hne ax ay hkar
  clear hb h hx hy ax ay hkar
  go_enter Tryz.func83, Tryz.ntmps83
  go_wp2_with fail
  refine M.mono ?_
  rintro e w1 ⟨v', n', G, s, rfl, hR⟩
  clear M
  have HR := Lib.hid hR
  clear hR
  go_wp2
  go_ret
  exact ⟨v', n', G, s, rfl, HR.out⟩
end Go.Proofs.YtkholmbfeghhpaaGreatDoor
