/- Quotient and remainder of whole numbers. Conditions: each theorem bears its own. -/
import Derived.Test.YtilmldfbmmcchaaGreatDoorZ20
set_option linter.unusedVariables false
set_option linter.unusedSimpArgs false
namespace Go.Proofs.YtilmldfbmmcchaaGreatDoor
open Go.RowKit
theorem qr_fin (pz pr nq nr kq kr : Nat) (w0 w U : World) (Aq Ar : Option Addr) (Q R : Nat → Nat) (sx sy sq sr : Bool) (N M : Nat) (hF : Fr NoS w0 w) (oz : w0.heap.size ≤ pz) (or : w0.heap.size ≤ pr) (hzr : pz ≠ pr)
  (bz : U.heap[pz]? = some (.cells #[.bool false, .slice Aq nq kq] TI (0, 0))) (br : U.heap[pr]? = some (.cells #[.bool false, .slice Ar nr kr] TI (0, 0))) (hoq : OwnW U (.slice Aq nq kq) nq Q) (hor : OwnW U (.slice Ar nr kr) nr R)
  (tq : Top Q nq) (tr : Top R nr) (vq : Vb BB Q 0 nq = N / M) (vr : Vb BB R 0 nr = N % M) (kq' : ∀ k, (Value.slice Aq nq kq).ownBlock = some k → w.heap.size ≤ k) (kr' : ∀ k, (Value.slice Ar nr kr).ownBlock = some k → w.heap.size ≤ k)
  (fAll : Fr (fun k => k = pz ∨ k = pr) w U) (e1 : sq = (decide (0 < nq) && (sx != sy))) (e2 : sr = (decide (0 < nr) && sx)) :
  NewZ w0 (((U.setCell ⟨pz, 0, none⟩ (.bool sq)).setCell ⟨pr, 0, none⟩ (.bool sr)).drew) pz (sgn (sx != sy) (N / M)) ∧ NewZ w0 (((U.setCell ⟨pz, 0, none⟩ (.bool sq)).setCell ⟨pr, 0, none⟩ (.bool sr)).drew) pr (sgn sx (N % M)) ∧
   Fr (fun k => k = pz ∨ k = pr) w (((U.setCell ⟨pz, 0, none⟩ (.bool sq)).setCell ⟨pr, 0, none⟩ (.bool sr)).drew) := by
 have hs := hF.size
 have fB : Fr (fun k => k = pz ∨ k = pr) U (((U.setCell ⟨pz, 0, none⟩ (.bool sq)).setCell ⟨pr, 0, none⟩ (.bool sr)).drew) := (((Fr.refl _ U).setCell _ _ (.inr (.inl rfl))).setCell _ _ (.inr (.inr rfl))).drew
 have fC := fAll.trans' fB
 have fD : Fr NoS w0 (((U.setCell ⟨pz, 0, none⟩ (.bool sq)).setCell ⟨pr, 0, none⟩ (.bool sr)).drew) := hF.trans fC (fun i hi e => by omega)
 have bz2 := (Below.heap_setCell (U.setCell ⟨pz, 0, none⟩ (.bool sq)) ⟨pr, 0, none⟩ (.bool sr) _ hzr).trans (int_set0 bz sq)
 have br2 := int_set0 ((Below.heap_setCell U ⟨pz, 0, none⟩ (.bool sq) _ (fun e => hzr e.symm)).trans br) sr
 have oq := hoq.fr fB (fun k hk e => e.elim (fun e => hoq.rd.ne_int bz (by rw [hk, e])) (fun e => hoq.rd.ne_int br (by rw [hk, e])))
 have orr := hor.fr fB (fun k hk e => e.elim (fun e => hor.rd.ne_int bz (by rw [hk, e])) (fun e => hor.rd.ne_int br (by rw [hk, e])))
 refine ⟨⟨fD, oz, sq, _, nq, Q, ⟨bz2, oq, tq, fun e => ?_⟩, ?_, fun k h => Nat.le_trans hs (kq' k h)⟩, ⟨fD, or, sr, _, nr, R, ⟨br2, orr, tr, fun e => ?_⟩, ?_, fun k h => Nat.le_trans hs (kr' k h)⟩, fC⟩
 ·subst e; simp at e1; omega
 ·rw [vq, e1]
  by_cases h : 0 < nq
  ·simp [h]
  ·have : N / M = 0 := by rw [← vq]; have h0 : nq = 0 := by omega
                          subst h0; rfl
   rw [this]; simp [sgn]
 ·subst e; simp at e2; omega
 ·rw [vr, e2]
  by_cases h : 0 < nr
  ·simp [h]
  ·have : N % M = 0 := by rw [← vr]; have h0 : nr = 0 := by omega
                          subst h0; rfl
   rw [this]; simp [sgn]
set_option maxRecDepth 100000 in
set_option maxHeartbeats 4000000 in
theorem int_QuoRem (pz px py pr : Nat) (a b : Int) (w0 w : World) (hF : Fr NoS w0 w) (oz : w0.heap.size ≤ pz) (or : w0.heap.size ≤ pr) (hz : Zr w pz) (hr : Zr w pr) (hx : RI w px a) (hy : RI w py b) (ha : a ≠ 0) (hb : b ≠ 0) (hzr : pz ≠ pr) (hxz : px ≠ pz) (hxr : px ≠ pr) (hyz : py ≠ pz) (hyr : py ≠ pr) (hm : Sm b) (hn : Sm a)
  (hDT : w.cell? ⟨8, 0, none⟩ = some (.int .i64 40)) :
  Calls Tryz.prog 124 #[.pointer (some ⟨pz, 0, none⟩), .pointer (some ⟨px, 0, none⟩), .pointer (some ⟨py, 0, none⟩), .pointer (some ⟨pr, 0, none⟩)] w fun e w' =>
   e = .returned (.tuple #[.pointer (some ⟨pz, 0, none⟩), .pointer (some ⟨pr, 0, none⟩)]) ∧ NewZ w0 w' pz (a.tdiv b) ∧ NewZ w0 w' pr (a.tmod b) ∧ Fr (fun k => k = pz ∨ k = pr) w w' := by
 obtain ⟨sx, vx, nx, X, hx1, rfl⟩ := hx
 obtain ⟨sy, vy, ny, Y, hy1, rfl⟩ := hy
 rw [sgn_tdiv, sgn_tmod]
 have hmy : ny ≤ 39 := hy1.len hm
 have hmx : nx ≤ 39 := hx1.len hn
 have hVx : Vb BB X 0 nx ≠ 0 := fun e => ha (sgn_eq_zero.2 e)
 have hVy : Vb BB Y 0 ny ≠ 0 := fun e => hb (sgn_eq_zero.2 e)
 have hnx : 0 < nx := hx1.top.pos.1 (by omega)
 have hny : 0 < ny := hy1.top.pos.1 (by omega)
 have z0 := hz.own.rd.c0
 have z1 := hz.own.rd.c1
 have r0 := hr.own.rd.c0
 have r1 := hr.own.rd.c1
 have x1 := hx1.c1
 have y1 := hy1.c1
 have x0 := hx1.c0
 have y0 := hy1.c0
 have fd : Fr NoS w w.drew := (Fr.refl NoS w).drew
 have D := nat_div ny nx vx vy X Y w.drew (hx1.rd.fr fd (fun _ _ x => x)) (hy1.rd.fr fd (fun _ _ x => x)) hx1.top hy1.top hny hnx (by omega) (by omega) ((fd.cell (World.block_lt_of_cell? w _ hDT) (fun x => x)).trans hDT)
 go_enter Tryz.func124, Tryz.ntmps124
 go_wp2_with fail
 have nxz := hxz.symm
 have nxr := hxr.symm
 have nyz := hyz.symm
 have nyr := hyr.symm
 refine wp_region_held_drew (S := (fun w' => w'.cell? ⟨px, 1, none⟩ = some vx ∧ w'.cell? ⟨py, 1, none⟩ = some vy)) (by kernel_rfl) ⟨x1, y1⟩ (fun hHeld => ?_)
 refine tkA 0 ?_
 try simp only [Act.put, zA, zB, zC, zD, zE, zF]
 refine tkA 1 ?_
 try simp only [Act.put, zA, zB, zC, zD, zE, zF]
 refine tkA 2 ?_
 try simp only [Act.put, zA, zB, zC, zD, zE, zF]
 refine tkA 3 ?_
 try simp only [Act.put, zA, zB, zC, zD, zE, zF]
 refine tkA 4 ?_
 try simp only [Act.put, zA, zB, zC, zD, zE, zF]
 refine tkA 6 ?_
 try simp only [Act.put, zA, zB, zC, zD, zE, zF]
 refine tkA 7 ?_
 try simp only [Act.put, zA, zB, zC, zD, zE, zF]
 refine tkA 8 ?_
 try simp only [Act.put, zA, zB, zC, zD, zE, zF]
 refine tkA 10 ?_
 try simp only [Act.put, zA, zB, zC, zD, zE, zF]
 refine tkA 11 ?_
 try simp only [Act.put, zA, zB, zC, zD, zE, zF]
 refine tkA 12 ?_
 try simp only [Act.put, zA, zB, zC, zD, zE, zF]
 refine tkA 13 ?_
 try simp only [Act.put, zA, zB, zC, zD, zE, zF]
 refine tkA 14 ?_
 try simp only [Act.put, zA, zB, zC, zD, zE, zF]
 refine tkA 15 ?_
 try simp only [Act.put, zA, zB, zC, zD, zE, zF]
 refine tkA 16 ?_
 try simp only [Act.put, zA, zB, zC, zD, zE, zF]
 refine tkA 17 ?_
 try simp only [Act.put, zA, zB, zC, zD, zE, zF]
 refine wpAnyH_ready (rs := [5, 9]) (by kernel_rfl) (by simp) ?_
 refine AllReadyH.cons rfl (fun K hK => ?_) (AllReadyH.cons rfl (fun K hK => ?_) AllReadyH.nil)
 ·go_simp
  refine hK.out _ _ ⟨x1, y1⟩ (fun hHeldB => ?_)
  clear hK K
  try simp only [Act.put, zA, zB, zC, zD, zE, zF]
  refine wpAnyH_ready (rs := [9]) (by kernel_rfl) (by simp) ?_
  refine AllReadyH.cons rfl (fun K hK => ?_) AllReadyH.nil
  go_simp
  refine hK.out _ _ ⟨x1, y1⟩ (fun hHeldC => ?_)
  clear hK K
  try simp only [Act.put, zA, zB, zC, zD, zE, zF]
  refine wpAnyH_ready (rs := [18]) (by kernel_rfl) (by simp) ?_
  refine AllReadyH.cons rfl (fun K hK => ?_) AllReadyH.nil
  go_simp
  refine D.mono ?_
  rintro e w1 ⟨vq, vr, rfl, hQ⟩
  have hf1 : Fr NoS w w1 := fd.trans' hQ.fr
  obtain ⟨nq, Q, hoq, htq, hnq, hVq, hkq⟩ := hQ.q
  obtain ⟨nr, R, hor, htr, hnr, hVr, hkr⟩ := hQ.r
  have HV := Lib.hid (And.intro hVq hVr)
  clear hVq hVr hQ
  obtain ⟨Aq, kq, rfl, _, _⟩ := hoq.rd.shape
  obtain ⟨Ar, kr, rfl, _, _⟩ := hor.rd.shape
  have hz1 : Zr w1 pz := hz.fr hf1 (fun x => x)
  have hr1 : Zr w1 pr := hr.fr hf1 (fun x => x)
  have fz := hz1.own.rd.fz 1
  have fr := hr1.own.rd.fz 1
  have cz := hz1.own.rd.c1
  have cr := hr1.own.rd.c1
  have cx := (hf1.cell (p := ⟨px, 1, none⟩) hx1.lt (fun x => x)).trans x1
  have cy := (hf1.cell (p := ⟨py, 1, none⟩) hy1.lt (fun x => x)).trans y1
  refine hK.out _ _ ⟨cx, cy⟩ (fun hHeldA => ?_)
  clear hK K
  try simp only [Act.put, zA, zB, zC, zD, zE, zF]
  refine tkA 19 ?_
  try simp only [Act.put, zA, zB, zC, zD, zE, zF]
  refine tkA 20 ?_
  try simp only [Act.put, zA, zB, zC, zD, zE, zF]
  refine tkA 21 ?_
  try simp only [Act.put, zA, zB, zC, zD, zE, zF]
  refine tkA 22 ?_
  try simp only [Act.put, zA, zB, zC, zD, zE, zF]
  refine tkA 23 ?_
  try simp only [Act.put, zA, zB, zC, zD, zE, zF]
  refine wpAnyH_ready (rs := [24]) (by kernel_rfl) (by simp) ?_
  refine AllReadyH.cons rfl (fun K hK => ?_) AllReadyH.nil
  go_simp
  refine hK.out _ _ (by go_keep) (fun hHeld5 => ?_)
  clear hK K
  try simp only [Act.put, zA, zB, zC, zD, zE, zF]
  refine tkA 25 ?_
  try simp only [Act.put, zA, zB, zC, zD, zE, zF]
  refine tkA 26 ?_
  try simp only [Act.put, zA, zB, zC, zD, zE, zF]
  refine wpAnyH_ready (rs := [27]) (by kernel_rfl) (by simp) ?_
  refine AllReadyH.cons rfl (fun K hK => ?_) AllReadyH.nil
  go_simp
  refine hK.out _ _ (by go_keep) (fun hHeld6 => ?_)
  clear hK K
  try simp only [Act.put, zA, zB, zC, zD, zE, zF]
  refine wpAnyH_done (by kernel_rfl) ?_ _
  have bz := int_set hz1 (.slice Aq nq kq)
  have br : (w1.setCell ⟨pz, 1, none⟩ (.slice Aq nq kq)).heap[pr]? = some (.cells #[.bool false, .slice none 0 0] TI (0, 0)) := (Below.heap_setCell _ _ _ _ (fun e => hzr e.symm)).trans hr1
  have bz2 : ((w1.setCell ⟨pz, 1, none⟩ (.slice Aq nq kq)).setCell ⟨pr, 1, none⟩ (.slice Ar nr kr)).heap[pz]? = some (.cells #[.bool false, .slice Aq nq kq] TI (0, 0)) := (Below.heap_setCell _ _ _ _ hzr).trans bz
  have br2 := int_set br (.slice Ar nr kr)
  have fA : Fr (fun k => k = pz ∨ k = pr) w1 ((w1.setCell ⟨pz, 1, none⟩ (.slice Aq nq kq)).setCell ⟨pr, 1, none⟩ (.slice Ar nr kr)) := ((Fr.refl _ w1).setCell _ _ (.inr (.inl rfl))).setCell _ _ (.inr (.inr rfl))
  have hoq2 := hoq.fr fA (fun k hk e => e.elim (fun e => hoq.rd.ne_int hz1 (by rw [hk, e])) (fun e => hoq.rd.ne_int hr1 (by rw [hk, e])))
  have hor2 := hor.fr fA (fun k hk e => e.elim (fun e => hor.rd.ne_int hz1 (by rw [hk, e])) (fun e => hor.rd.ne_int hr1 (by rw [hk, e])))
  have x0b := (fA.cell (p := ⟨px, 0, none⟩) (hf1.lt hx1.lt) (fun e => e.elim hxz hxr)).trans ((hf1.cell (p := ⟨px, 0, none⟩) hx1.lt (fun x => x)).trans x0)
  have y0b := (fA.cell (p := ⟨py, 0, none⟩) (hf1.lt hy1.lt) (fun e => e.elim hyz hyr)).trans ((hf1.cell (p := ⟨py, 0, none⟩) hy1.lt (fun x => x)).trans y0)
  have fAll := (hf1.mono (S' := fun k => k = pz ∨ k = pr) (fun _ _ x => x.elim)).trans' fA
  have hle : w.heap.size ≤ w1.heap.size := hf1.size
  have hF0 := Lib.hid hF
  have hTQ := Lib.hid (And.intro htq htr)
  clear x0 y0 x1 y1 z0 z1 r0 r1 cz cr cx cy fz fr hz hr hF bz br hoq hor hz1 hr1 hx1 hy1 D hDT htq htr hHeld hHeldA hHeldB hHeldC hHeld5 hHeld6
  generalize (w1.setCell ⟨pz, 1, none⟩ (.slice Aq nq kq)).setCell ⟨pr, 1, none⟩ (.slice Ar nr kr) = U at *
  have cz1 : U.cell? ⟨pz, 1, none⟩ = some (.slice Aq nq kq) := by simp [World.cell?, bz2]
  have cz0 : U.cell? ⟨pz, 0, none⟩ = some (.bool false) := by simp [World.cell?, bz2]
  have fz0 : U.frozen? ⟨pz, 0, none⟩ = false := by simp [World.frozen?, bz2]
  have cr1 : U.cell? ⟨pr, 1, none⟩ = some (.slice Ar nr kr) := by simp [World.cell?, br2]
  have cr0 : U.cell? ⟨pr, 0, none⟩ = some (.bool false) := by simp [World.cell?, br2]
  have fr0 : U.frozen? ⟨pr, 0, none⟩ = false := by simp [World.frozen?, br2]
  have hfin := fun (sq sr : Bool) (e1 : sq = (decide (0 < nq) && (sx != sy))) (e2 : sr = (decide (0 < nr) && sx)) => qr_fin pz pr nq nr kq kr w0 w U Aq Ar Q R sx sy sq sr (Vb BB X 0 nx) (Vb BB Y 0 ny) hF0.out oz or hzr bz2 br2 hoq2 hor2 hTQ.out.1 hTQ.out.2 HV.out.1 HV.out.2 (fun k h => Nat.le_trans fd.size (hkq k h)) (fun k h => Nat.le_trans fd.size (hkr k h)) fAll e1 e2
  have HFIN := Lib.hid hfin
  clear hfin
  obtain ⟨bq, hbq⟩ : ∃ bq, decide (0 < nq) = bq := ⟨_, rfl⟩
  obtain ⟨br, hbr⟩ : ∃ br, decide (0 < nr) = br := ⟨_, rfl⟩
  have hbq' : decide ((0 : Int) < (nq : Int)) = bq := by rw [← hbq]; simp
  have hbr' : decide ((0 : Int) < (nr : Int)) = br := by rw [← hbr]; simp
  have HQ := Lib.hid hbq
  have HR := Lib.hid hbr
  clear hF0 hTQ bz2 br2 hoq2 hor2 HV hkq hkr fAll hm hn ha hb fA
  cases bq <;> cases br
  ·go_wp2
   refine wp_region_held_drew (S := (fun w' => w'.cell? ⟨pz, 1, none⟩ = some (.slice Aq nq kq) ∧ w'.cell? ⟨pr, 1, none⟩ = some (.slice Ar nr kr) ∧ w'.cell? ⟨px, 0, none⟩ = some (.bool sx) ∧ w'.cell? ⟨py, 0, none⟩ = some (.bool sy))) (by kernel_rfl) ⟨cz1, cr1, x0b, y0b⟩ (fun hHeld => ?_)
   refine tkA 0 ?_
   try simp only [Act.put, zA, zB, zC, zD, zE, zF]
   refine tkA 1 ?_
   try simp only [Act.put, zA, zB, zC, zD, zE, zF]
   refine tkA 2 ?_
   try simp only [Act.put, zA, zB, zC, zD, zE, zF]
   refine tkA 3 ?_
   try simp only [Act.put, zA, zB, zC, zD, zE, zF]
   refine tkA 4 ?_
   try simp only [Act.put, zA, zB, zC, zD, zE, zF]
   refine tkA 5 ?_
   try simp only [Act.put, zA, zB, zC, zD, zE, zF]
   refine tkA 6 ?_
   try simp only [Act.put, zA, zB, zC, zD, zE, zF]
   refine tkA 7 ?_
   try simp only [Act.put, zA, zB, zC, zD, zE, zF]
   refine tkA 8 ?_
   try simp only [Act.put, zA, zB, zC, zD, zE, zF]
   refine tkB 9 ?_
   try simp only [Act.put, zA, zB, zC, zD, zE, zF]
   refine tkB 10 ?_
   try simp only [Act.put, zA, zB, zC, zD, zE, zF]
   refine tkB 11 ?_
   try simp only [Act.put, zA, zB, zC, zD, zE, zF]
   refine tkB 12 ?_
   try simp only [Act.put, zA, zB, zC, zD, zE, zF]
   refine tkB 13 ?_
   try simp only [Act.put, zA, zB, zC, zD, zE, zF]
   refine tkB 14 ?_
   try simp only [Act.put, zA, zB, zC, zD, zE, zF]
   refine tkB 15 ?_
   try simp only [Act.put, zA, zB, zC, zD, zE, zF]
   refine tkB 16 ?_
   try simp only [Act.put, zA, zB, zC, zD, zE, zF]
   refine tkB 17 ?_
   try simp only [Act.put, zA, zB, zC, zD, zE, zF]
   refine tkA 18 ?_
   try simp only [Act.put, zA, zB, zC, zD, zE, zF]
   refine tkA 19 ?_
   try simp only [Act.put, zA, zB, zC, zD, zE, zF]
   refine tkA 20 ?_
   try simp only [Act.put, zA, zB, zC, zD, zE, zF]
   refine tkA 21 ?_
   try simp only [Act.put, zA, zB, zC, zD, zE, zF]
   refine tkA 22 ?_
   try simp only [Act.put, zA, zB, zC, zD, zE, zF]
   refine tkA 23 ?_
   try simp only [Act.put, zA, zB, zC, zD, zE, zF]
   refine tkA 24 ?_
   try simp only [Act.put, zA, zB, zC, zD, zE, zF]
   refine tkA 25 ?_
   try simp only [Act.put, zA, zB, zC, zD, zE, zF]
   refine tkB 26 ?_
   try simp only [Act.put, zA, zB, zC, zD, zE, zF]
   refine tkB 27 ?_
   try simp only [Act.put, zA, zB, zC, zD, zE, zF]
   refine tkB 28 ?_
   try simp only [Act.put, zA, zB, zC, zD, zE, zF]
   refine tkB 29 ?_
   try simp only [Act.put, zA, zB, zC, zD, zE, zF]
   refine tkA 30 ?_
   try simp only [Act.put, zA, zB, zC, zD, zE, zF]
   refine tkA 31 ?_
   try simp only [Act.put, zA, zB, zC, zD, zE, zF]
   refine tkA 32 ?_
   try simp only [Act.put, zA, zB, zC, zD, zE, zF]
   refine wpAnyH_ready (rs := [33]) (by kernel_rfl) (by simp) ?_
   refine AllReadyH.cons rfl (fun K hK => ?_) AllReadyH.nil
   go_simp
   refine hK.out _ _ (by refine ⟨?_, ?_, ?_, ?_⟩ <;> rw [World.cell?_drew] <;> (repeat rw [World.cell?_setCell_other _ _ _ _ (by simp [nxz, nxr, nyz, nyr, hzr, hzr.symm])]) <;> assumption) (fun hHeld7 => ?_)
   clear hK K
   try simp only [Act.put, zA, zB, zC, zD, zE, zF]
   refine tkA 34 ?_
   try simp only [Act.put, zA, zB, zC, zD, zE, zF]
   refine tkA 35 ?_
   try simp only [Act.put, zA, zB, zC, zD, zE, zF]
   refine wpAnyH_ready (rs := [36]) (by kernel_rfl) (by simp) ?_
   refine AllReadyH.cons rfl (fun K hK => ?_) AllReadyH.nil
   go_simp
   refine hK.out _ _ (by refine ⟨?_, ?_, ?_, ?_⟩ <;> rw [World.cell?_drew] <;> (repeat rw [World.cell?_setCell_other _ _ _ _ (by simp [nxz, nxr, nyz, nyr, hzr, hzr.symm])]) <;> assumption) (fun hHeld8 => ?_)
   clear hK K
   try simp only [Act.put, zA, zB, zC, zD, zE, zF]
   refine wpAnyH_done (by kernel_rfl) ?_ _
   go_wp2
   go_ret2
   exact ⟨rfl, HFIN.out _ _ (by rw [HQ.out]; cases sx <;> cases sy <;> rfl) (by rw [HR.out]; cases sx <;> rfl)⟩
  ·go_wp2
   refine wp_region_held_drew (S := (fun w' => w'.cell? ⟨pz, 1, none⟩ = some (.slice Aq nq kq) ∧ w'.cell? ⟨pr, 1, none⟩ = some (.slice Ar nr kr) ∧ w'.cell? ⟨px, 0, none⟩ = some (.bool sx) ∧ w'.cell? ⟨py, 0, none⟩ = some (.bool sy))) (by kernel_rfl) ⟨cz1, cr1, x0b, y0b⟩ (fun hHeld => ?_)
   refine tkA 0 ?_
   try simp only [Act.put, zA, zB, zC, zD, zE, zF]
   refine tkA 1 ?_
   try simp only [Act.put, zA, zB, zC, zD, zE, zF]
   refine tkA 2 ?_
   try simp only [Act.put, zA, zB, zC, zD, zE, zF]
   refine tkA 3 ?_
   try simp only [Act.put, zA, zB, zC, zD, zE, zF]
   refine tkA 4 ?_
   try simp only [Act.put, zA, zB, zC, zD, zE, zF]
   refine tkA 5 ?_
   try simp only [Act.put, zA, zB, zC, zD, zE, zF]
   refine tkA 6 ?_
   try simp only [Act.put, zA, zB, zC, zD, zE, zF]
   refine tkA 7 ?_
   try simp only [Act.put, zA, zB, zC, zD, zE, zF]
   refine tkA 8 ?_
   try simp only [Act.put, zA, zB, zC, zD, zE, zF]
   refine tkB 9 ?_
   try simp only [Act.put, zA, zB, zC, zD, zE, zF]
   refine tkB 10 ?_
   try simp only [Act.put, zA, zB, zC, zD, zE, zF]
   refine tkB 11 ?_
   try simp only [Act.put, zA, zB, zC, zD, zE, zF]
   refine tkB 12 ?_
   try simp only [Act.put, zA, zB, zC, zD, zE, zF]
   refine tkB 13 ?_
   try simp only [Act.put, zA, zB, zC, zD, zE, zF]
   refine tkB 14 ?_
   try simp only [Act.put, zA, zB, zC, zD, zE, zF]
   refine tkB 15 ?_
   try simp only [Act.put, zA, zB, zC, zD, zE, zF]
   refine tkB 16 ?_
   try simp only [Act.put, zA, zB, zC, zD, zE, zF]
   refine tkB 17 ?_
   try simp only [Act.put, zA, zB, zC, zD, zE, zF]
   refine tkA 18 ?_
   try simp only [Act.put, zA, zB, zC, zD, zE, zF]
   refine tkA 19 ?_
   try simp only [Act.put, zA, zB, zC, zD, zE, zF]
   refine tkA 20 ?_
   try simp only [Act.put, zA, zB, zC, zD, zE, zF]
   refine tkA 21 ?_
   try simp only [Act.put, zA, zB, zC, zD, zE, zF]
   refine tkA 22 ?_
   try simp only [Act.put, zA, zB, zC, zD, zE, zF]
   refine tkA 23 ?_
   try simp only [Act.put, zA, zB, zC, zD, zE, zF]
   refine tkA 24 ?_
   try simp only [Act.put, zA, zB, zC, zD, zE, zF]
   refine tkA 25 ?_
   try simp only [Act.put, zA, zB, zC, zD, zE, zF]
   refine tkA 26 ?_
   try simp only [Act.put, zA, zB, zC, zD, zE, zF]
   refine tkA 27 ?_
   try simp only [Act.put, zA, zB, zC, zD, zE, zF]
   refine tkA 28 ?_
   try simp only [Act.put, zA, zB, zC, zD, zE, zF]
   refine tkA 29 ?_
   try simp only [Act.put, zA, zB, zC, zD, zE, zF]
   refine tkA 30 ?_
   try simp only [Act.put, zA, zB, zC, zD, zE, zF]
   refine tkA 31 ?_
   try simp only [Act.put, zA, zB, zC, zD, zE, zF]
   refine tkA 32 ?_
   try simp only [Act.put, zA, zB, zC, zD, zE, zF]
   refine wpAnyH_ready (rs := [33]) (by kernel_rfl) (by simp) ?_
   refine AllReadyH.cons rfl (fun K hK => ?_) AllReadyH.nil
   go_simp
   refine hK.out _ _ (by refine ⟨?_, ?_, ?_, ?_⟩ <;> rw [World.cell?_drew] <;> (repeat rw [World.cell?_setCell_other _ _ _ _ (by simp [nxz, nxr, nyz, nyr, hzr, hzr.symm])]) <;> assumption) (fun hHeld7 => ?_)
   clear hK K
   try simp only [Act.put, zA, zB, zC, zD, zE, zF]
   refine tkA 34 ?_
   try simp only [Act.put, zA, zB, zC, zD, zE, zF]
   refine tkA 35 ?_
   try simp only [Act.put, zA, zB, zC, zD, zE, zF]
   refine wpAnyH_ready (rs := [36]) (by kernel_rfl) (by simp) ?_
   refine AllReadyH.cons rfl (fun K hK => ?_) AllReadyH.nil
   go_simp
   refine hK.out _ _ (by refine ⟨?_, ?_, ?_, ?_⟩ <;> rw [World.cell?_drew] <;> (repeat rw [World.cell?_setCell_other _ _ _ _ (by simp [nxz, nxr, nyz, nyr, hzr, hzr.symm])]) <;> assumption) (fun hHeld8 => ?_)
   clear hK K
   try simp only [Act.put, zA, zB, zC, zD, zE, zF]
   refine wpAnyH_done (by kernel_rfl) ?_ _
   go_wp2
   go_ret2
   exact ⟨rfl, HFIN.out _ _ (by rw [HQ.out]; cases sx <;> cases sy <;> rfl) (by rw [HR.out]; cases sx <;> rfl)⟩
  ·go_wp2
   refine wp_region_held_drew (S := (fun w' => w'.cell? ⟨pz, 1, none⟩ = some (.slice Aq nq kq) ∧ w'.cell? ⟨pr, 1, none⟩ = some (.slice Ar nr kr) ∧ w'.cell? ⟨px, 0, none⟩ = some (.bool sx) ∧ w'.cell? ⟨py, 0, none⟩ = some (.bool sy))) (by kernel_rfl) ⟨cz1, cr1, x0b, y0b⟩ (fun hHeld => ?_)
   refine tkA 0 ?_
   try simp only [Act.put, zA, zB, zC, zD, zE, zF]
   refine tkA 1 ?_
   try simp only [Act.put, zA, zB, zC, zD, zE, zF]
   refine tkA 2 ?_
   try simp only [Act.put, zA, zB, zC, zD, zE, zF]
   refine tkA 3 ?_
   try simp only [Act.put, zA, zB, zC, zD, zE, zF]
   refine tkA 4 ?_
   try simp only [Act.put, zA, zB, zC, zD, zE, zF]
   refine tkA 5 ?_
   try simp only [Act.put, zA, zB, zC, zD, zE, zF]
   refine tkA 6 ?_
   try simp only [Act.put, zA, zB, zC, zD, zE, zF]
   refine tkA 7 ?_
   try simp only [Act.put, zA, zB, zC, zD, zE, zF]
   refine tkA 8 ?_
   try simp only [Act.put, zA, zB, zC, zD, zE, zF]
   refine tkA 9 ?_
   try simp only [Act.put, zA, zB, zC, zD, zE, zF]
   refine tkA 10 ?_
   try simp only [Act.put, zA, zB, zC, zD, zE, zF]
   refine tkA 11 ?_
   try simp only [Act.put, zA, zB, zC, zD, zE, zF]
   refine tkA 12 ?_
   try simp only [Act.put, zA, zB, zC, zD, zE, zF]
   refine tkA 13 ?_
   try simp only [Act.put, zA, zB, zC, zD, zE, zF]
   refine tkA 14 ?_
   try simp only [Act.put, zA, zB, zC, zD, zE, zF]
   refine tkA 15 ?_
   try simp only [Act.put, zA, zB, zC, zD, zE, zF]
   refine tkA 16 ?_
   try simp only [Act.put, zA, zB, zC, zD, zE, zF]
   refine tkA 17 ?_
   try simp only [Act.put, zA, zB, zC, zD, zE, zF]
   refine tkA 18 ?_
   try simp only [Act.put, zA, zB, zC, zD, zE, zF]
   refine tkA 19 ?_
   try simp only [Act.put, zA, zB, zC, zD, zE, zF]
   refine tkA 20 ?_
   try simp only [Act.put, zA, zB, zC, zD, zE, zF]
   refine tkA 21 ?_
   try simp only [Act.put, zA, zB, zC, zD, zE, zF]
   refine tkA 22 ?_
   try simp only [Act.put, zA, zB, zC, zD, zE, zF]
   refine tkA 23 ?_
   try simp only [Act.put, zA, zB, zC, zD, zE, zF]
   refine tkA 24 ?_
   try simp only [Act.put, zA, zB, zC, zD, zE, zF]
   refine tkA 25 ?_
   try simp only [Act.put, zA, zB, zC, zD, zE, zF]
   refine tkB 26 ?_
   try simp only [Act.put, zA, zB, zC, zD, zE, zF]
   refine tkB 27 ?_
   try simp only [Act.put, zA, zB, zC, zD, zE, zF]
   refine tkB 28 ?_
   try simp only [Act.put, zA, zB, zC, zD, zE, zF]
   refine tkB 29 ?_
   try simp only [Act.put, zA, zB, zC, zD, zE, zF]
   refine tkA 30 ?_
   try simp only [Act.put, zA, zB, zC, zD, zE, zF]
   refine tkA 31 ?_
   try simp only [Act.put, zA, zB, zC, zD, zE, zF]
   refine tkA 32 ?_
   try simp only [Act.put, zA, zB, zC, zD, zE, zF]
   refine wpAnyH_ready (rs := [33]) (by kernel_rfl) (by simp) ?_
   refine AllReadyH.cons rfl (fun K hK => ?_) AllReadyH.nil
   go_simp
   refine hK.out _ _ (by refine ⟨?_, ?_, ?_, ?_⟩ <;> rw [World.cell?_drew] <;> (repeat rw [World.cell?_setCell_other _ _ _ _ (by simp [nxz, nxr, nyz, nyr, hzr, hzr.symm])]) <;> assumption) (fun hHeld7 => ?_)
   clear hK K
   try simp only [Act.put, zA, zB, zC, zD, zE, zF]
   refine tkA 34 ?_
   try simp only [Act.put, zA, zB, zC, zD, zE, zF]
   refine tkA 35 ?_
   try simp only [Act.put, zA, zB, zC, zD, zE, zF]
   refine wpAnyH_ready (rs := [36]) (by kernel_rfl) (by simp) ?_
   refine AllReadyH.cons rfl (fun K hK => ?_) AllReadyH.nil
   go_simp
   refine hK.out _ _ (by refine ⟨?_, ?_, ?_, ?_⟩ <;> rw [World.cell?_drew] <;> (repeat rw [World.cell?_setCell_other _ _ _ _ (by simp [nxz, nxr, nyz, nyr, hzr, hzr.symm])]) <;> assumption) (fun hHeld8 => ?_)
   clear hK K
   try simp only [Act.put, zA, zB, zC, zD, zE, zF]
   refine wpAnyH_done (by kernel_rfl) ?_ _
   go_wp2
   go_ret2
   exact ⟨rfl, HFIN.out _ _ (by rw [HQ.out]; cases sx <;> cases sy <;> rfl) (by rw [HR.out]; cases sx <;> rfl)⟩
  ·go_wp2
   refine wp_region_held_drew (S := (fun w' => w'.cell? ⟨pz, 1, none⟩ = some (.slice Aq nq kq) ∧ w'.cell? ⟨pr, 1, none⟩ = some (.slice Ar nr kr) ∧ w'.cell? ⟨px, 0, none⟩ = some (.bool sx) ∧ w'.cell? ⟨py, 0, none⟩ = some (.bool sy))) (by kernel_rfl) ⟨cz1, cr1, x0b, y0b⟩ (fun hHeld => ?_)
   refine tkA 0 ?_
   try simp only [Act.put, zA, zB, zC, zD, zE, zF]
   refine tkA 1 ?_
   try simp only [Act.put, zA, zB, zC, zD, zE, zF]
   refine tkA 2 ?_
   try simp only [Act.put, zA, zB, zC, zD, zE, zF]
   refine tkA 3 ?_
   try simp only [Act.put, zA, zB, zC, zD, zE, zF]
   refine tkA 4 ?_
   try simp only [Act.put, zA, zB, zC, zD, zE, zF]
   refine tkA 5 ?_
   try simp only [Act.put, zA, zB, zC, zD, zE, zF]
   refine tkA 6 ?_
   try simp only [Act.put, zA, zB, zC, zD, zE, zF]
   refine tkA 7 ?_
   try simp only [Act.put, zA, zB, zC, zD, zE, zF]
   refine tkA 8 ?_
   try simp only [Act.put, zA, zB, zC, zD, zE, zF]
   refine tkA 9 ?_
   try simp only [Act.put, zA, zB, zC, zD, zE, zF]
   refine tkA 10 ?_
   try simp only [Act.put, zA, zB, zC, zD, zE, zF]
   refine tkA 11 ?_
   try simp only [Act.put, zA, zB, zC, zD, zE, zF]
   refine tkA 12 ?_
   try simp only [Act.put, zA, zB, zC, zD, zE, zF]
   refine tkA 13 ?_
   try simp only [Act.put, zA, zB, zC, zD, zE, zF]
   refine tkA 14 ?_
   try simp only [Act.put, zA, zB, zC, zD, zE, zF]
   refine tkA 15 ?_
   try simp only [Act.put, zA, zB, zC, zD, zE, zF]
   refine tkA 16 ?_
   try simp only [Act.put, zA, zB, zC, zD, zE, zF]
   refine tkA 17 ?_
   try simp only [Act.put, zA, zB, zC, zD, zE, zF]
   refine tkA 18 ?_
   try simp only [Act.put, zA, zB, zC, zD, zE, zF]
   refine tkA 19 ?_
   try simp only [Act.put, zA, zB, zC, zD, zE, zF]
   refine tkA 20 ?_
   try simp only [Act.put, zA, zB, zC, zD, zE, zF]
   refine tkA 21 ?_
   try simp only [Act.put, zA, zB, zC, zD, zE, zF]
   refine tkA 22 ?_
   try simp only [Act.put, zA, zB, zC, zD, zE, zF]
   refine tkA 23 ?_
   try simp only [Act.put, zA, zB, zC, zD, zE, zF]
   refine tkA 24 ?_
   try simp only [Act.put, zA, zB, zC, zD, zE, zF]
   refine tkA 25 ?_
   try simp only [Act.put, zA, zB, zC, zD, zE, zF]
   refine tkA 26 ?_
   try simp only [Act.put, zA, zB, zC, zD, zE, zF]
   refine tkA 27 ?_
   try simp only [Act.put, zA, zB, zC, zD, zE, zF]
   refine tkA 28 ?_
   try simp only [Act.put, zA, zB, zC, zD, zE, zF]
   refine tkA 29 ?_
   try simp only [Act.put, zA, zB, zC, zD, zE, zF]
   refine tkA 30 ?_
   try simp only [Act.put, zA, zB, zC, zD, zE, zF]
   refine tkA 31 ?_
   try simp only [Act.put, zA, zB, zC, zD, zE, zF]
   refine tkA 32 ?_
   try simp only [Act.put, zA, zB, zC, zD, zE, zF]
   refine wpAnyH_ready (rs := [33]) (by kernel_rfl) (by simp) ?_
   refine AllReadyH.cons rfl (fun K hK => ?_) AllReadyH.nil
   go_simp
   refine hK.out _ _ (by refine ⟨?_, ?_, ?_, ?_⟩ <;> rw [World.cell?_drew] <;> (repeat rw [World.cell?_setCell_other _ _ _ _ (by simp [nxz, nxr, nyz, nyr, hzr, hzr.symm])]) <;> assumption) (fun hHeld7 => ?_)
   clear hK K
   try simp only [Act.put, zA, zB, zC, zD, zE, zF]
   refine tkA 34 ?_
   try simp only [Act.put, zA, zB, zC, zD, zE, zF]
   refine tkA 35 ?_
   try simp only [Act.put, zA, zB, zC, zD, zE, zF]
   refine wpAnyH_ready (rs := [36]) (by kernel_rfl) (by simp) ?_
   refine AllReadyH.cons rfl (fun K hK => ?_) AllReadyH.nil
   go_simp
   refine hK.out _ _ (by refine ⟨?_, ?_, ?_, ?_⟩ <;> rw [World.cell?_drew] <;> (repeat rw [World.cell?_setCell_other _ _ _ _ (by simp [nxz, nxr, nyz, nyr, hzr, hzr.symm])]) <;> assumption) (fun hHeld8 => ?_)
   clear hK K
   try simp only [Act.put, zA, zB, zC, zD, zE, zF]
   refine wpAnyH_done (by kernel_rfl) ?_ _
   go_wp2
   go_ret2
   exact ⟨rfl, HFIN.out _ _ (by rw [HQ.out]; cases sx <;> cases sy <;> rfl) (by rw [HR.out]; cases sx <;> rfl)⟩
 ·go_simp
  refine hK.out _ _ ⟨x1, y1⟩ (fun hHeldB => ?_)
  clear hK K
  try simp only [Act.put, zA, zB, zC, zD, zE, zF]
  refine wpAnyH_ready (rs := [5]) (by kernel_rfl) (by simp) ?_
  refine AllReadyH.cons rfl (fun K hK => ?_) AllReadyH.nil
  go_simp
  refine hK.out _ _ ⟨x1, y1⟩ (fun hHeldC => ?_)
  clear hK K
  try simp only [Act.put, zA, zB, zC, zD, zE, zF]
  refine wpAnyH_ready (rs := [18]) (by kernel_rfl) (by simp) ?_
  refine AllReadyH.cons rfl (fun K hK => ?_) AllReadyH.nil
  go_simp
  refine D.mono ?_
  rintro e w1 ⟨vq, vr, rfl, hQ⟩
  have hf1 : Fr NoS w w1 := fd.trans' hQ.fr
  obtain ⟨nq, Q, hoq, htq, hnq, hVq, hkq⟩ := hQ.q
  obtain ⟨nr, R, hor, htr, hnr, hVr, hkr⟩ := hQ.r
  have HV := Lib.hid (And.intro hVq hVr)
  clear hVq hVr hQ
  obtain ⟨Aq, kq, rfl, _, _⟩ := hoq.rd.shape
  obtain ⟨Ar, kr, rfl, _, _⟩ := hor.rd.shape
  have hz1 : Zr w1 pz := hz.fr hf1 (fun x => x)
  have hr1 : Zr w1 pr := hr.fr hf1 (fun x => x)
  have fz := hz1.own.rd.fz 1
  have fr := hr1.own.rd.fz 1
  have cz := hz1.own.rd.c1
  have cr := hr1.own.rd.c1
  have cx := (hf1.cell (p := ⟨px, 1, none⟩) hx1.lt (fun x => x)).trans x1
  have cy := (hf1.cell (p := ⟨py, 1, none⟩) hy1.lt (fun x => x)).trans y1
  refine hK.out _ _ ⟨cx, cy⟩ (fun hHeldA => ?_)
  clear hK K
  try simp only [Act.put, zA, zB, zC, zD, zE, zF]
  refine tkA 19 ?_
  try simp only [Act.put, zA, zB, zC, zD, zE, zF]
  refine tkA 20 ?_
  try simp only [Act.put, zA, zB, zC, zD, zE, zF]
  refine tkA 21 ?_
  try simp only [Act.put, zA, zB, zC, zD, zE, zF]
  refine tkA 22 ?_
  try simp only [Act.put, zA, zB, zC, zD, zE, zF]
  refine tkA 23 ?_
  try simp only [Act.put, zA, zB, zC, zD, zE, zF]
  refine wpAnyH_ready (rs := [24]) (by kernel_rfl) (by simp) ?_
  refine AllReadyH.cons rfl (fun K hK => ?_) AllReadyH.nil
  go_simp
  refine hK.out _ _ (by go_keep) (fun hHeld5 => ?_)
  clear hK K
  try simp only [Act.put, zA, zB, zC, zD, zE, zF]
  refine tkA 25 ?_
  try simp only [Act.put, zA, zB, zC, zD, zE, zF]
  refine tkA 26 ?_
  try simp only [Act.put, zA, zB, zC, zD, zE, zF]
  refine wpAnyH_ready (rs := [27]) (by kernel_rfl) (by simp) ?_
  refine AllReadyH.cons rfl (fun K hK => ?_) AllReadyH.nil
  go_simp
  refine hK.out _ _ (by go_keep) (fun hHeld6 => ?_)
  clear hK K
  try simp only [Act.put, zA, zB, zC, zD, zE, zF]
  refine wpAnyH_done (by kernel_rfl) ?_ _
  have bz := int_set hz1 (.slice Aq nq kq)
  have br : (w1.setCell ⟨pz, 1, none⟩ (.slice Aq nq kq)).heap[pr]? = some (.cells #[.bool false, .slice none 0 0] TI (0, 0)) := (Below.heap_setCell _ _ _ _ (fun e => hzr e.symm)).trans hr1
  have bz2 : ((w1.setCell ⟨pz, 1, none⟩ (.slice Aq nq kq)).setCell ⟨pr, 1, none⟩ (.slice Ar nr kr)).heap[pz]? = some (.cells #[.bool false, .slice Aq nq kq] TI (0, 0)) := (Below.heap_setCell _ _ _ _ hzr).trans bz
  have br2 := int_set br (.slice Ar nr kr)
  have fA : Fr (fun k => k = pz ∨ k = pr) w1 ((w1.setCell ⟨pz, 1, none⟩ (.slice Aq nq kq)).setCell ⟨pr, 1, none⟩ (.slice Ar nr kr)) := ((Fr.refl _ w1).setCell _ _ (.inr (.inl rfl))).setCell _ _ (.inr (.inr rfl))
  have hoq2 := hoq.fr fA (fun k hk e => e.elim (fun e => hoq.rd.ne_int hz1 (by rw [hk, e])) (fun e => hoq.rd.ne_int hr1 (by rw [hk, e])))
  have hor2 := hor.fr fA (fun k hk e => e.elim (fun e => hor.rd.ne_int hz1 (by rw [hk, e])) (fun e => hor.rd.ne_int hr1 (by rw [hk, e])))
  have x0b := (fA.cell (p := ⟨px, 0, none⟩) (hf1.lt hx1.lt) (fun e => e.elim hxz hxr)).trans ((hf1.cell (p := ⟨px, 0, none⟩) hx1.lt (fun x => x)).trans x0)
  have y0b := (fA.cell (p := ⟨py, 0, none⟩) (hf1.lt hy1.lt) (fun e => e.elim hyz hyr)).trans ((hf1.cell (p := ⟨py, 0, none⟩) hy1.lt (fun x => x)).trans y0)
  have fAll := (hf1.mono (S' := fun k => k = pz ∨ k = pr) (fun _ _ x => x.elim)).trans' fA
  have hle : w.heap.size ≤ w1.heap.size := hf1.size
  have hF0 := Lib.hid hF
  have hTQ := Lib.hid (And.intro htq htr)
  clear x0 y0 x1 y1 z0 z1 r0 r1 cz cr cx cy fz fr hz hr hF bz br hoq hor hz1 hr1 hx1 hy1 D hDT htq htr hHeld hHeldA hHeldB hHeldC hHeld5 hHeld6
  generalize (w1.setCell ⟨pz, 1, none⟩ (.slice Aq nq kq)).setCell ⟨pr, 1, none⟩ (.slice Ar nr kr) = U at *
  have cz1 : U.cell? ⟨pz, 1, none⟩ = some (.slice Aq nq kq) := by simp [World.cell?, bz2]
  have cz0 : U.cell? ⟨pz, 0, none⟩ = some (.bool false) := by simp [World.cell?, bz2]
  have fz0 : U.frozen? ⟨pz, 0, none⟩ = false := by simp [World.frozen?, bz2]
  have cr1 : U.cell? ⟨pr, 1, none⟩ = some (.slice Ar nr kr) := by simp [World.cell?, br2]
  have cr0 : U.cell? ⟨pr, 0, none⟩ = some (.bool false) := by simp [World.cell?, br2]
  have fr0 : U.frozen? ⟨pr, 0, none⟩ = false := by simp [World.frozen?, br2]
  have hfin := fun (sq sr : Bool) (e1 : sq = (decide (0 < nq) && (sx != sy))) (e2 : sr = (decide (0 < nr) && sx)) => qr_fin pz pr nq nr kq kr w0 w U Aq Ar Q R sx sy sq sr (Vb BB X 0 nx) (Vb BB Y 0 ny) hF0.out oz or hzr bz2 br2 hoq2 hor2 hTQ.out.1 hTQ.out.2 HV.out.1 HV.out.2 (fun k h => Nat.le_trans fd.size (hkq k h)) (fun k h => Nat.le_trans fd.size (hkr k h)) fAll e1 e2
  have HFIN := Lib.hid hfin
  clear hfin
  obtain ⟨bq, hbq⟩ : ∃ bq, decide (0 < nq) = bq := ⟨_, rfl⟩
  obtain ⟨br, hbr⟩ : ∃ br, decide (0 < nr) = br := ⟨_, rfl⟩
  have hbq' : decide ((0 : Int) < (nq : Int)) = bq := by rw [← hbq]; simp
  have hbr' : decide ((0 : Int) < (nr : Int)) = br := by rw [← hbr]; simp
  have HQ := Lib.hid hbq
  have HR := Lib.hid hbr
  clear hF0 hTQ bz2 br2 hoq2 hor2 HV hkq hkr fAll hm hn ha hb fA
  cases bq <;> cases br
  ·go_wp2
   refine wp_region_held_drew (S := (fun w' => w'.cell? ⟨pz, 1, none⟩ = some (.slice Aq nq kq) ∧ w'.cell? ⟨pr, 1, none⟩ = some (.slice Ar nr kr) ∧ w'.cell? ⟨px, 0, none⟩ = some (.bool sx) ∧ w'.cell? ⟨py, 0, none⟩ = some (.bool sy))) (by kernel_rfl) ⟨cz1, cr1, x0b, y0b⟩ (fun hHeld => ?_)
   refine tkA 0 ?_
   try simp only [Act.put, zA, zB, zC, zD, zE, zF]
   refine tkA 1 ?_
   try simp only [Act.put, zA, zB, zC, zD, zE, zF]
   refine tkA 2 ?_
   try simp only [Act.put, zA, zB, zC, zD, zE, zF]
   refine tkA 3 ?_
   try simp only [Act.put, zA, zB, zC, zD, zE, zF]
   refine tkA 4 ?_
   try simp only [Act.put, zA, zB, zC, zD, zE, zF]
   refine tkA 5 ?_
   try simp only [Act.put, zA, zB, zC, zD, zE, zF]
   refine tkA 6 ?_
   try simp only [Act.put, zA, zB, zC, zD, zE, zF]
   refine tkA 7 ?_
   try simp only [Act.put, zA, zB, zC, zD, zE, zF]
   refine tkA 8 ?_
   try simp only [Act.put, zA, zB, zC, zD, zE, zF]
   refine tkB 9 ?_
   try simp only [Act.put, zA, zB, zC, zD, zE, zF]
   refine tkB 10 ?_
   try simp only [Act.put, zA, zB, zC, zD, zE, zF]
   refine tkB 11 ?_
   try simp only [Act.put, zA, zB, zC, zD, zE, zF]
   refine tkB 12 ?_
   try simp only [Act.put, zA, zB, zC, zD, zE, zF]
   refine tkB 13 ?_
   try simp only [Act.put, zA, zB, zC, zD, zE, zF]
   refine tkB 14 ?_
   try simp only [Act.put, zA, zB, zC, zD, zE, zF]
   refine tkB 15 ?_
   try simp only [Act.put, zA, zB, zC, zD, zE, zF]
   refine tkB 16 ?_
   try simp only [Act.put, zA, zB, zC, zD, zE, zF]
   refine tkB 17 ?_
   try simp only [Act.put, zA, zB, zC, zD, zE, zF]
   refine tkA 18 ?_
   try simp only [Act.put, zA, zB, zC, zD, zE, zF]
   refine tkA 19 ?_
   try simp only [Act.put, zA, zB, zC, zD, zE, zF]
   refine tkA 20 ?_
   try simp only [Act.put, zA, zB, zC, zD, zE, zF]
   refine tkA 21 ?_
   try simp only [Act.put, zA, zB, zC, zD, zE, zF]
   refine tkA 22 ?_
   try simp only [Act.put, zA, zB, zC, zD, zE, zF]
   refine tkA 23 ?_
   try simp only [Act.put, zA, zB, zC, zD, zE, zF]
   refine tkA 24 ?_
   try simp only [Act.put, zA, zB, zC, zD, zE, zF]
   refine tkA 25 ?_
   try simp only [Act.put, zA, zB, zC, zD, zE, zF]
   refine tkB 26 ?_
   try simp only [Act.put, zA, zB, zC, zD, zE, zF]
   refine tkB 27 ?_
   try simp only [Act.put, zA, zB, zC, zD, zE, zF]
   refine tkB 28 ?_
   try simp only [Act.put, zA, zB, zC, zD, zE, zF]
   refine tkB 29 ?_
   try simp only [Act.put, zA, zB, zC, zD, zE, zF]
   refine tkA 30 ?_
   try simp only [Act.put, zA, zB, zC, zD, zE, zF]
   refine tkA 31 ?_
   try simp only [Act.put, zA, zB, zC, zD, zE, zF]
   refine tkA 32 ?_
   try simp only [Act.put, zA, zB, zC, zD, zE, zF]
   refine wpAnyH_ready (rs := [33]) (by kernel_rfl) (by simp) ?_
   refine AllReadyH.cons rfl (fun K hK => ?_) AllReadyH.nil
   go_simp
   refine hK.out _ _ (by refine ⟨?_, ?_, ?_, ?_⟩ <;> rw [World.cell?_drew] <;> (repeat rw [World.cell?_setCell_other _ _ _ _ (by simp [nxz, nxr, nyz, nyr, hzr, hzr.symm])]) <;> assumption) (fun hHeld7 => ?_)
   clear hK K
   try simp only [Act.put, zA, zB, zC, zD, zE, zF]
   refine tkA 34 ?_
   try simp only [Act.put, zA, zB, zC, zD, zE, zF]
   refine tkA 35 ?_
   try simp only [Act.put, zA, zB, zC, zD, zE, zF]
   refine wpAnyH_ready (rs := [36]) (by kernel_rfl) (by simp) ?_
   refine AllReadyH.cons rfl (fun K hK => ?_) AllReadyH.nil
   go_simp
   refine hK.out _ _ (by refine ⟨?_, ?_, ?_, ?_⟩ <;> rw [World.cell?_drew] <;> (repeat rw [World.cell?_setCell_other _ _ _ _ (by simp [nxz, nxr, nyz, nyr, hzr, hzr.symm])]) <;> assumption) (fun hHeld8 => ?_)
   clear hK K
   try simp only [Act.put, zA, zB, zC, zD, zE, zF]
   refine wpAnyH_done (by kernel_rfl) ?_ _
   go_wp2
   go_ret2
   exact ⟨rfl, HFIN.out _ _ (by rw [HQ.out]; cases sx <;> cases sy <;> rfl) (by rw [HR.out]; cases sx <;> rfl)⟩
  ·go_wp2
   refine wp_region_held_drew (S := (fun w' => w'.cell? ⟨pz, 1, none⟩ = some (.slice Aq nq kq) ∧ w'.cell? ⟨pr, 1, none⟩ = some (.slice Ar nr kr) ∧ w'.cell? ⟨px, 0, none⟩ = some (.bool sx) ∧ w'.cell? ⟨py, 0, none⟩ = some (.bool sy))) (by kernel_rfl) ⟨cz1, cr1, x0b, y0b⟩ (fun hHeld => ?_)
   refine tkA 0 ?_
   try simp only [Act.put, zA, zB, zC, zD, zE, zF]
   refine tkA 1 ?_
   try simp only [Act.put, zA, zB, zC, zD, zE, zF]
   refine tkA 2 ?_
   try simp only [Act.put, zA, zB, zC, zD, zE, zF]
   refine tkA 3 ?_
   try simp only [Act.put, zA, zB, zC, zD, zE, zF]
   refine tkA 4 ?_
   try simp only [Act.put, zA, zB, zC, zD, zE, zF]
   refine tkA 5 ?_
   try simp only [Act.put, zA, zB, zC, zD, zE, zF]
   refine tkA 6 ?_
   try simp only [Act.put, zA, zB, zC, zD, zE, zF]
   refine tkA 7 ?_
   try simp only [Act.put, zA, zB, zC, zD, zE, zF]
   refine tkA 8 ?_
   try simp only [Act.put, zA, zB, zC, zD, zE, zF]
   refine tkB 9 ?_
   try simp only [Act.put, zA, zB, zC, zD, zE, zF]
   refine tkB 10 ?_
   try simp only [Act.put, zA, zB, zC, zD, zE, zF]
   refine tkB 11 ?_
   try simp only [Act.put, zA, zB, zC, zD, zE, zF]
   refine tkB 12 ?_
   try simp only [Act.put, zA, zB, zC, zD, zE, zF]
   refine tkB 13 ?_
   try simp only [Act.put, zA, zB, zC, zD, zE, zF]
   refine tkB 14 ?_
   try simp only [Act.put, zA, zB, zC, zD, zE, zF]
   refine tkB 15 ?_
   try simp only [Act.put, zA, zB, zC, zD, zE, zF]
   refine tkB 16 ?_
   try simp only [Act.put, zA, zB, zC, zD, zE, zF]
   refine tkB 17 ?_
   try simp only [Act.put, zA, zB, zC, zD, zE, zF]
   refine tkA 18 ?_
   try simp only [Act.put, zA, zB, zC, zD, zE, zF]
   refine tkA 19 ?_
   try simp only [Act.put, zA, zB, zC, zD, zE, zF]
   refine tkA 20 ?_
   try simp only [Act.put, zA, zB, zC, zD, zE, zF]
   refine tkA 21 ?_
   try simp only [Act.put, zA, zB, zC, zD, zE, zF]
   refine tkA 22 ?_
   try simp only [Act.put, zA, zB, zC, zD, zE, zF]
   refine tkA 23 ?_
   try simp only [Act.put, zA, zB, zC, zD, zE, zF]
   refine tkA 24 ?_
   try simp only [Act.put, zA, zB, zC, zD, zE, zF]
   refine tkA 25 ?_
   try simp only [Act.put, zA, zB, zC, zD, zE, zF]
   refine tkA 26 ?_
   try simp only [Act.put, zA, zB, zC, zD, zE, zF]
   refine tkA 27 ?_
   try simp only [Act.put, zA, zB, zC, zD, zE, zF]
   refine tkA 28 ?_
   try simp only [Act.put, zA, zB, zC, zD, zE, zF]
   refine tkA 29 ?_
   try simp only [Act.put, zA, zB, zC, zD, zE, zF]
   refine tkA 30 ?_
   try simp only [Act.put, zA, zB, zC, zD, zE, zF]
   refine tkA 31 ?_
   try simp only [Act.put, zA, zB, zC, zD, zE, zF]
   refine tkA 32 ?_
   try simp only [Act.put, zA, zB, zC, zD, zE, zF]
   refine wpAnyH_ready (rs := [33]) (by kernel_rfl) (by simp) ?_
   refine AllReadyH.cons rfl (fun K hK => ?_) AllReadyH.nil
   go_simp
   refine hK.out _ _ (by refine ⟨?_, ?_, ?_, ?_⟩ <;> rw [World.cell?_drew] <;> (repeat rw [World.cell?_setCell_other _ _ _ _ (by simp [nxz, nxr, nyz, nyr, hzr, hzr.symm])]) <;> assumption) (fun hHeld7 => ?_)
   clear hK K
   try simp only [Act.put, zA, zB, zC, zD, zE, zF]
   refine tkA 34 ?_
   try simp only [Act.put, zA, zB, zC, zD, zE, zF]
   refine tkA 35 ?_
   try simp only [Act.put, zA, zB, zC, zD, zE, zF]
   refine wpAnyH_ready (rs := [36]) (by kernel_rfl) (by simp) ?_
   refine AllReadyH.cons rfl (fun K hK => ?_) AllReadyH.nil
   go_simp
   refine hK.out _ _ (by refine ⟨?_, ?_, ?_, ?_⟩ <;> rw [World.cell?_drew] <;> (repeat rw [World.cell?_setCell_other _ _ _ _ (by simp [nxz, nxr, nyz, nyr, hzr, hzr.symm])]) <;> assumption) (fun hHeld8 => ?_)
   clear hK K
   try simp only [Act.put, zA, zB, zC, zD, zE, zF]
   refine wpAnyH_done (by kernel_rfl) ?_ _
   go_wp2
   go_ret2
   exact ⟨rfl, HFIN.out _ _ (by rw [HQ.out]; cases sx <;> cases sy <;> rfl) (by rw [HR.out]; cases sx <;> rfl)⟩
  ·go_wp2
   refine wp_region_held_drew (S := (fun w' => w'.cell? ⟨pz, 1, none⟩ = some (.slice Aq nq kq) ∧ w'.cell? ⟨pr, 1, none⟩ = some (.slice Ar nr kr) ∧ w'.cell? ⟨px, 0, none⟩ = some (.bool sx) ∧ w'.cell? ⟨py, 0, none⟩ = some (.bool sy))) (by kernel_rfl) ⟨cz1, cr1, x0b, y0b⟩ (fun hHeld => ?_)
   refine tkA 0 ?_
   try simp only [Act.put, zA, zB, zC, zD, zE, zF]
   refine tkA 1 ?_
   try simp only [Act.put, zA, zB, zC, zD, zE, zF]
   refine tkA 2 ?_
   try simp only [Act.put, zA, zB, zC, zD, zE, zF]
   refine tkA 3 ?_
   try simp only [Act.put, zA, zB, zC, zD, zE, zF]
   refine tkA 4 ?_
   try simp only [Act.put, zA, zB, zC, zD, zE, zF]
   refine tkA 5 ?_
   try simp only [Act.put, zA, zB, zC, zD, zE, zF]
   refine tkA 6 ?_
   try simp only [Act.put, zA, zB, zC, zD, zE, zF]
   refine tkA 7 ?_
   try simp only [Act.put, zA, zB, zC, zD, zE, zF]
   refine tkA 8 ?_
   try simp only [Act.put, zA, zB, zC, zD, zE, zF]
   refine tkA 9 ?_
   try simp only [Act.put, zA, zB, zC, zD, zE, zF]
   refine tkA 10 ?_
   try simp only [Act.put, zA, zB, zC, zD, zE, zF]
   refine tkA 11 ?_
   try simp only [Act.put, zA, zB, zC, zD, zE, zF]
   refine tkA 12 ?_
   try simp only [Act.put, zA, zB, zC, zD, zE, zF]
   refine tkA 13 ?_
   try simp only [Act.put, zA, zB, zC, zD, zE, zF]
   refine tkA 14 ?_
   try simp only [Act.put, zA, zB, zC, zD, zE, zF]
   refine tkA 15 ?_
   try simp only [Act.put, zA, zB, zC, zD, zE, zF]
   refine tkA 16 ?_
   try simp only [Act.put, zA, zB, zC, zD, zE, zF]
   refine tkA 17 ?_
   try simp only [Act.put, zA, zB, zC, zD, zE, zF]
   refine tkA 18 ?_
   try simp only [Act.put, zA, zB, zC, zD, zE, zF]
   refine tkA 19 ?_
   try simp only [Act.put, zA, zB, zC, zD, zE, zF]
   refine tkA 20 ?_
   try simp only [Act.put, zA, zB, zC, zD, zE, zF]
   refine tkA 21 ?_
   try simp only [Act.put, zA, zB, zC, zD, zE, zF]
   refine tkA 22 ?_
   try simp only [Act.put, zA, zB, zC, zD, zE, zF]
   refine tkA 23 ?_
   try simp only [Act.put, zA, zB, zC, zD, zE, zF]
   refine tkA 24 ?_
   try simp only [Act.put, zA, zB, zC, zD, zE, zF]
   refine tkA 25 ?_
   try simp only [Act.put, zA, zB, zC, zD, zE, zF]
   refine tkB 26 ?_
   try simp only [Act.put, zA, zB, zC, zD, zE, zF]
   refine tkB 27 ?_
   try simp only [Act.put, zA, zB, zC, zD, zE, zF]
   refine tkB 28 ?_
   try simp only [Act.put, zA, zB, zC, zD, zE, zF]
   refine tkB 29 ?_
   try simp only [Act.put, zA, zB, zC, zD, zE, zF]
   refine tkA 30 ?_
   try simp only [Act.put, zA, zB, zC, zD, zE, zF]
   refine tkA 31 ?_
   try simp only [Act.put, zA, zB, zC, zD, zE, zF]
   refine tkA 32 ?_
   try simp only [Act.put, zA, zB, zC, zD, zE, zF]
   refine wpAnyH_ready (rs := [33]) (by kernel_rfl) (by simp) ?_
   refine AllReadyH.cons rfl (fun K hK => ?_) AllReadyH.nil
   go_simp
   refine hK.out _ _ (by refine ⟨?_, ?_, ?_, ?_⟩ <;> rw [World.cell?_drew] <;> (repeat rw [World.cell?_setCell_other _ _ _ _ (by simp [nxz, nxr, nyz, nyr, hzr, hzr.symm])]) <;> assumption) (fun hHeld7 => ?_)
   clear hK K
   try simp only [Act.put, zA, zB, zC, zD, zE, zF]
   refine tkA 34 ?_
   try simp only [Act.put, zA, zB, zC, zD, zE, zF]
   refine tkA 35 ?_
   try simp only [Act.put, zA, zB, zC, zD, zE, zF]
   refine wpAnyH_ready (rs := [36]) (by kernel_rfl) (by simp) ?_
   refine AllReadyH.cons rfl (fun K hK => ?_) AllReadyH.nil
   go_simp
   refine hK.out _ _ (by refine ⟨?_, ?_, ?_, ?_⟩ <;> rw [World.cell?_drew] <;> (repeat rw [World.cell?_setCell_other _ _ _ _ (by simp [nxz, nxr, nyz, nyr, hzr, hzr.symm])]) <;> assumption) (fun hHeld8 => ?_)
   clear hK K
   try simp only [Act.put, zA, zB, zC, zD, zE, zF]
   refine wpAnyH_done (by kernel_rfl) ?_ _
   go_wp2
   go_ret2
   exact ⟨rfl, HFIN.out _ _ (by rw [HQ.out]; cases sx <;> cases sy <;> rfl) (by rw [HR.out]; cases sx <;> rfl)⟩
  ·go_wp2
   refine wp_region_held_drew (S := (fun w' => w'.cell? ⟨pz, 1, none⟩ = some (.slice Aq nq kq) ∧ w'.cell? ⟨pr, 1, none⟩ = some (.slice Ar nr kr) ∧ w'.cell? ⟨px, 0, none⟩ = some (.bool sx) ∧ w'.cell? ⟨py, 0, none⟩ = some (.bool sy))) (by kernel_rfl) ⟨cz1, cr1, x0b, y0b⟩ (fun hHeld => ?_)
   refine tkA 0 ?_
   try simp only [Act.put, zA, zB, zC, zD, zE, zF]
   refine tkA 1 ?_
   try simp only [Act.put, zA, zB, zC, zD, zE, zF]
   refine tkA 2 ?_
   try simp only [Act.put, zA, zB, zC, zD, zE, zF]
   refine tkA 3 ?_
   try simp only [Act.put, zA, zB, zC, zD, zE, zF]
   refine tkA 4 ?_
   try simp only [Act.put, zA, zB, zC, zD, zE, zF]
   refine tkA 5 ?_
   try simp only [Act.put, zA, zB, zC, zD, zE, zF]
   refine tkA 6 ?_
   try simp only [Act.put, zA, zB, zC, zD, zE, zF]
   refine tkA 7 ?_
   try simp only [Act.put, zA, zB, zC, zD, zE, zF]
   refine tkA 8 ?_
   try simp only [Act.put, zA, zB, zC, zD, zE, zF]
   refine tkA 9 ?_
   try simp only [Act.put, zA, zB, zC, zD, zE, zF]
   refine tkA 10 ?_
   try simp only [Act.put, zA, zB, zC, zD, zE, zF]
   refine tkA 11 ?_
   try simp only [Act.put, zA, zB, zC, zD, zE, zF]
   refine tkA 12 ?_
   try simp only [Act.put, zA, zB, zC, zD, zE, zF]
   refine tkA 13 ?_
   try simp only [Act.put, zA, zB, zC, zD, zE, zF]
   refine tkA 14 ?_
   try simp only [Act.put, zA, zB, zC, zD, zE, zF]
   refine tkA 15 ?_
   try simp only [Act.put, zA, zB, zC, zD, zE, zF]
   refine tkA 16 ?_
   try simp only [Act.put, zA, zB, zC, zD, zE, zF]
   refine tkA 17 ?_
   try simp only [Act.put, zA, zB, zC, zD, zE, zF]
   refine tkA 18 ?_
   try simp only [Act.put, zA, zB, zC, zD, zE, zF]
   refine tkA 19 ?_
   try simp only [Act.put, zA, zB, zC, zD, zE, zF]
   refine tkA 20 ?_
   try simp only [Act.put, zA, zB, zC, zD, zE, zF]
   refine tkA 21 ?_
   try simp only [Act.put, zA, zB, zC, zD, zE, zF]
   refine tkA 22 ?_
   try simp only [Act.put, zA, zB, zC, zD, zE, zF]
   refine tkA 23 ?_
   try simp only [Act.put, zA, zB, zC, zD, zE, zF]
   refine tkA 24 ?_
   try simp only [Act.put, zA, zB, zC, zD, zE, zF]
   refine tkA 25 ?_
   try simp only [Act.put, zA, zB, zC, zD, zE, zF]
   refine tkA 26 ?_
   try simp only [Act.put, zA, zB, zC, zD, zE, zF]
   refine tkA 27 ?_
   try simp only [Act.put, zA, zB, zC, zD, zE, zF]
   refine tkA 28 ?_
   try simp only [Act.put, zA, zB, zC, zD, zE, zF]
   refine tkA 29 ?_
   try simp only [Act.put, zA, zB, zC, zD, zE, zF]
   refine tkA 30 ?_
   try simp only [Act.put, zA, zB, zC, zD, zE, zF]
   refine tkA 31 ?_
   try simp only [Act.put, zA, zB, zC, zD, zE, zF]
   refine tkA 32 ?_
   try simp only [Act.put, zA, zB, zC, zD, zE, zF]
   refine wpAnyH_ready (rs := [33]) (by kernel_rfl) (by simp) ?_
   refine AllReadyH.cons rfl (fun K hK => ?_) AllReadyH.nil
   go_simp
   refine hK.out _ _ (by refine ⟨?_, ?_, ?_, ?_⟩ <;> rw [World.cell?_drew] <;> (repeat rw [World.cell?_setCell_other _ _ _ _ (by simp [nxz, nxr, nyz, nyr, hzr, hzr.symm])]) <;> assumption) (fun hHeld7 => ?_)
   clear hK K
   try simp only [Act.put, zA, zB, zC, zD, zE, zF]
   refine tkA 34 ?_
   try simp only [Act.put, zA, zB, zC, zD, zE, zF]
   refine tkA 35 ?_
   try simp only [Act.put, zA, zB, zC, zD, zE, zF]
   refine wpAnyH_ready (rs := [36]) (by kernel_rfl) (by simp) ?_
   refine AllReadyH.cons rfl (fun K hK => ?_) AllReadyH.nil
   go_simp
   refine hK.out _ _ (by refine ⟨?_, ?_, ?_, ?_⟩ <;> rw [World.cell?_drew] <;> (repeat rw [World.cell?_setCell_other _ _ _ _ (by simp [nxz, nxr, nyz, nyr, hzr, hzr.symm])]) <;> assumption) (fun hHeld8 => ?_)
   clear hK K
   try simp only [Act.put, zA, zB, zC, zD, zE, zF]
   refine wpAnyH_done (by kernel_rfl) ?_ _
   go_wp2
   go_ret2
   exact ⟨rfl, HFIN.out _ _ (by rw [HQ.out]; cases sx <;> cases sy <;> rfl) (by rw [HR.out]; cases sx <;> rfl)⟩
end Go.Proofs.YtilmldfbmmcchaaGreatDoor
