/- A natural number and a word. A new number and one more, or one less, in its own place. Nothing less one, in its own place. The rounded quotient of one by a decimal. Powers of decimals with a natural exponent. Conditions: each theorem bears its own. -/
import Derived.Test.YtilmldfbmmcchaaGreatDoorZ22
set_option linter.unusedVariables false
set_option linter.unusedSimpArgs false
namespace Go.Proofs.YtilmldfbmmcchaaGreatDoor
open Go.RowKit
set_option maxRecDepth 100000 in
set_option maxHeartbeats 4000000 in
theorem nat_add_zero (v vy : Value) (l cx : Nat) (A : Option Addr) (F Y : Nat → Nat) (w : World) (h : OwnW w v l F) (hy : RdW w vy 1 Y) :
  Calls Tryz.prog 162 #[v, .slice A 0 cx, vy] w fun e w' =>
   ∃ (v' : Value) (G : Nat → Nat), e = .returned v' ∧ MadeNat w w' v v' 1 G ∧ ∀ j, j < 1 → G j = Y j := by
 have S := nat_set v vy l 1 F Y w h hy (by omega) (by omega)
 obtain ⟨Ay, cy, rfl, _, _⟩ := hy.shape
 have b1 : decide (((0 : Nat) : Int) < ((1 : Nat) : Int)) = true := by simp
 have b2 : decide (((1 : Nat) : Int) < ((0 : Nat) : Int)) = false := by simp
 have inner : Calls Tryz.prog 162 #[v, .slice Ay 1 cy, .slice A 0 cx] w fun e w' =>
   ∃ (v' : Value) (G : Nat → Nat), e = .returned v' ∧ MadeNat w w' v v' 1 G ∧ ∀ j, j < 1 → G j = Y j := by
  have HS := Lib.hid S
  clear S
  go_enter Tryz.func162, Tryz.ntmps162
  go_wp2_with fail
  refine HS.out.mono ?_
  rintro e w1 ⟨v', G, rfl, hm, hG⟩
  have HG := Lib.hid hG
  clear hG
  go_wp2
  go_ret
  exact ⟨v', G, rfl, hm, HG.out⟩
 have HI := Lib.hid inner
 clear inner S
 go_enter Tryz.func162, Tryz.ntmps162
 go_wp2_with fail
 refine HI.out.mono ?_
 rintro e w1 ⟨v', G, rfl, hm, hG⟩
 have HG := Lib.hid hG
 clear hG
 go_wp2
 go_ret
 exact ⟨v', G, rfl, hm, HG.out⟩
theorem add_parts {G3 G4 X : Nat → Nat} {m y0 c c' : Nat} (h1 : Vb BB G3 0 1 + BB ^ 1 * c = Vb BB X 0 1 + y0) (h2 : Vb BB G4 1 m + BB ^ m * c' = Vb BB (fun j => X (1 + j)) 0 m + c) (h3 : G4 0 = G3 0) :
  Vb BB G4 0 (1 + m) + BB ^ (1 + m) * c' = Vb BB X 0 (1 + m) + y0 := by
 rw [V_add, V_add BB X, Nat.pow_add]
 rw [V_one, V_one, Nat.pow_one] at h1
 rw [V_one, V_one, Nat.pow_one, Nat.zero_add, h3]
 have e : Vb BB (fun j => X (1 + j)) 0 m = Vb BB X 1 m := V_congr fun j _ => by rw [Nat.zero_add]
 rw [e] at h2
 have h4 := congrArg (BB * ·) h2
 simp only [Nat.mul_add] at h4
 rw [Nat.mul_assoc]
 omega
set_option maxRecDepth 100000 in
set_option maxHeartbeats 8000000 in
theorem nat_add_some (v : Value) (gx ox gy oy l m cx cy : Nat) (F X Y : Nat → Nat) (w : World) (h : OwnW w v l F) (hx : RdW w (.slice (some ⟨gx, ox, none⟩) m cx) m X) (hy : RdW w (.slice (some ⟨gy, oy, none⟩) 1 cy) 1 Y) (hm1 : 1 ≤ m) (hm : m ≤ 90000000)
  (nx : Near v (.slice (some ⟨gx, ox, none⟩) m cx)) (ny : ∀ k, v.ownBlock = some k → k ≠ gy) :
  Calls Tryz.prog 162 #[v, .slice (some ⟨gx, ox, none⟩) m cx, .slice (some ⟨gy, oy, none⟩) 1 cy] w fun e w' =>
   ∃ (v' : Value) (n' : Nat) (G : Nat → Nat), e = .returned v' ∧ MadeNat w w' v v' n' G ∧ Top G n' ∧ Vb BB G 0 n' = Vb BB X 0 m + Y 0 := by
 have wx := hx.words
 have wy := hy.words
 have hxl := hx.lt (k := gx) rfl
 have hyl := hy.lt (k := gy) rfl
 obtain ⟨cbx, hxh⟩ : ∃ cb, w.heap[gx]? = some (.cells cb TW (0, 0)) := by
  rcases hx with ⟨e, _⟩ | ⟨g, o, c, cs, e, _, _, _, hc, _⟩
  ·cases e
  ·injection e with e; injection e with e; injection e with e; subst e; exact ⟨_, hc⟩
 obtain ⟨_, _, e, hcxm, hcxl⟩ := hx.shape
 simp only [Value.slice.injEq, true_and] at e
 obtain ⟨rfl, rfl⟩ := e
 obtain ⟨_, _, e, hcym, hcyl⟩ := hy.shape
 simp only [Value.slice.injEq, true_and] at e
 obtain ⟨rfl, rfl⟩ := e
 have b1 : decide ((m : Int) < ((1 : Nat) : Int)) = false := by simp; omega
 have b0 : ((m : Int) == 0) = false := by simp; omega
 have b2 : (((1 : Nat) : Int) == 0) = false := by simp
 go_enter Tryz.func162, Tryz.ntmps162
 go_wp2_with fail
 refine (nat_make v l (m + 1) ((m : Int) + 1) F _ h (by omega) (by omega)).mono ?_
 rintro e w2 ⟨v2, G2, rfl, hm2, hf2, hor⟩
 rcases hm2.own with ⟨_, e0⟩ | ⟨g2, c2, rfl, hmc2, hbk2⟩
 ·omega
 have hroom2 := hbk2.room
 rw [LL_eq] at hroom2
 have hgy : gy ≠ g2 := by
  rcases hm2.at_ g2 rfl with e | e
  ·exact (ny g2 e).symm
  ·omega
 have hgx : gx = g2 → ox = 0 := by
  intro e
  rcases hm2.at_ g2 rfl with e2 | e2
  ·rcases h with ⟨rfl, _⟩ | ⟨g, c, rfl, _, _⟩
   ·cases e2
   ·simp only [Value.ownBlock, Option.some.injEq] at e2
    exact (nx gx ox m cx l c rfl (by rw [e2, e])).1
  ·omega
 have wx2 : Words w2 gx ox m X := wx.fr (S := NoS) hf2 (fun x => x)
 have wy2 : Words w2 gy oy 1 Y := wy.fr (S := NoS) hf2 (fun x => x)
 have hxh2 := (hf2.block gx hxl (fun x => x)).trans hxh
 have q1 : (1 : Int) ≤ (c2 : Int) := by omega
 have q2 : (1 : Int) ≤ (cx : Int) := by omega
 have q3 : (1 : Int) ≤ (cy : Int) := by omega
 have q4 : 1 ≤ c2 := by omega
 have q5 : 1 ≤ cx := by omega
 have q6 : 1 ≤ cy := by omega
 have q7 : 1 ≤ m + 1 := by omega
 have wx1 : Words w2 gx ox 1 X := ⟨fun j hj => wx2.cell j (by omega), fun j hj => wx2.word j (by omega)⟩
 have AV := fun W (hW : ∃ k, W = w2.drewN k) => addVV 1 g2 0 c2 c2 gx ox cx gy oy cy G2 X Y W (by obtain ⟨k, rfl⟩ := hW; exact hbk2.drewN k) (by obtain ⟨k, rfl⟩ := hW; exact wx1.fr ((Fr.refl NoS w2).drewN k) (fun x => x)) (by obtain ⟨k, rfl⟩ := hW; exact wy2.fr ((Fr.refl NoS w2).drewN k) (fun x => x)) (by omega) hgx (fun e => absurd e hgy)
 go_wp2
 go_still_tail 9, (by kernel_rfl)
 change wpList _ _ _ _ _ (World.drew _)
 have hAV := AV w2.drew ⟨1, rfl⟩
 have hfd : Fr NoS w2 w2.drew := (Fr.refl NoS w2).drew
 generalize w2.drew = W2 at *
 clear AV
 go_wp2_with fail
 refine hAV.mono ?_
 rintro e w3 ⟨c, G3, rfl, hc1, hb3, hout3, hV3, hf3⟩
 clear hAV
 have hf3' : Fr (· = g2) w2 w3 := (hfd.mono (S' := (· = g2)) (fun _ _ x => x.elim)).trans' hf3
 have hV3' := Lib.hid hV3
 have hO3 := Lib.hid hout3
 clear hV3 hout3
 have hread := vw_read (i := 1) hbk2 wx2 (oz := 0) (by omega) hgx hb3 (fun j hj => hO3.out j (by omega)) hf3'
 have hxh3 : ∃ cb tb, w3.heap[gx]? = some (.cells cb tb (0, 0)) := by
  by_cases e : gx = g2
  ·subst e; obtain ⟨cs, hcs, _⟩ := hb3.row; exact ⟨_, _, hcs⟩
  ·exact ⟨_, _, (hf3'.block gx (zLt hxh2) e).trans hxh2⟩
 have fin : ∀ (G5 : Nat → Nat) (w5 w6 : World) (v6 : Value) (n6 : Nat), Fr (· = g2) w2 w5 → OwnW w5 v6 n6 G5 → Top G5 n6 → v6.ownBlock = (Value.slice (some ⟨g2, 0, none⟩) (m + 1) c2).ownBlock → Vb BB G5 0 n6 = Vb BB X 0 m + Y 0 → w5 = w6 →
   ∃ (v' : Value) (n' : Nat) (G : Nat → Nat), Ending.returned v6 = .returned v' ∧ MadeNat w w6 v v' n' G ∧ Top G n' ∧ Vb BB G 0 n' = Vb BB X 0 m + Y 0 := by
  intro G5 w5 w6 v6 n6 hf ho ht hob hv e
  subst e
  refine ⟨v6, n6, G5, rfl, ⟨ho, hm2.fr.trans hf (fun i hi e => ?_), fun k hk => ?_⟩, ht, hv⟩
  ·rcases hm2.at_ g2 rfl with e2 | e2
   ·rw [e2, e]
   ·omega
  ·rw [hob] at hk
   exact hm2.at_ k hk
 have FIN := Lib.hid fin
 have HR := Lib.hid hread
 have HW := Lib.hid (fun j hj => wx.word (j := j) hj)
 clear fin hread hm2 hor hbk2 wx2 wy2 wx1 hxh2 wx wy hx hy h hxh nx ny hf2 hfd hf3
 by_cases h1 : m = 1
 ·subst h1
  have b3 : decide (((1 : Nat) : Int) < ((1 : Nat) : Int)) = false := by simp
  have k1 := hb3.cell (j := 1) (by omega)
  have f1 := hb3.free 1
  have hcB : c < BB := by rw [BB_eq]; omega
  have hb4 := hb3.store (i := 1) (x := c) hcB
  go_wp2_with fail
  refine (nat_norm_own (.slice (some ⟨g2, 0, none⟩) 2 c2) 2 _ _ (.inr ⟨g2, c2, rfl, hmc2, hb4⟩)).mono ?_
  rintro e w6 ⟨v4, n4, rfl, hown4, hn4, ht4, hv4, hob4, rfl⟩
  have HV4 := Lib.hid hv4
  clear hv4
  go_wp2
  go_ret
  refine FIN.out _ _ _ _ _ (hf3'.trans' (Fr.set _ _ _ _)) hown4 ht4 hob4 ?_ rfl
  have := V_upd_succ BB G3 0 1 c
  rw [Nat.zero_add] at this
  rw [HV4.out, this, hV3'.out, V_one BB Y 0]
 ·have b3 : decide (((1 : Nat) : Int) < (m : Int)) = true := by simp; omega
  obtain ⟨cb3, tb3, hxh3⟩ := hxh3
  have hcB : c < BB := by rw [BB_eq]; omega
  have hxw : Words w3 gx (ox + 1) (m - 1) (fun j => X (1 + j)) := ⟨fun j hj => by rw [Nat.add_assoc]; exact HR.out (1 + j) (by omega) (by omega), fun j hj => HW.out (1 + j) (by omega)⟩
  have VWc := fun W (hW : ∃ q, W = w3.drewN q) => addVW (m - 1) g2 1 c2 (c2 - 1) gx (ox + 1) (cx - 1) c G3 (fun j => X (1 + j)) W cb3 tb3 (by obtain ⟨q, rfl⟩ := hW; exact hb3.drewN q) (by obtain ⟨q, rfl⟩ := hW; exact hxw.fr ((Fr.refl NoS w3).drewN q) (fun x => x)) (by obtain ⟨q, rfl⟩ := hW; exact hxh3) (by omega) (fun e => by rw [hgx e]) (by omega) (by omega) (by omega) (by omega) (by omega) hcB
  have p1 : (1 : Int) ≤ (m : Int) := by omega
  have p2 : (m : Int) ≤ (c2 : Int) := by omega
  have p3 : ¬ 1 = c2 := by omega
  have p4 : ¬ c2 = 1 := by omega
  have p5 : ¬ 1 = cx := by omega
  have p6 : ¬ cx = 1 := by omega
  have p7 : m ≤ c2 := by omega
  have p8 : 1 ≤ m := by omega
  have p9 : (0 : Int) ≤ (m : Int) := by omega
  have VWd := VWc w3.drew ⟨1, rfl⟩
  have HVW := Lib.hid VWd
  clear VWc VWd
  go_wp2
  go_still_tail 8, (by kernel_rfl)
  change wpList _ _ _ _ _ (World.drew _)
  have hVW := HVW.out
  have hfd : Fr NoS w3 w3.drew := (Fr.refl NoS w3).drew
  generalize w3.drew = W3 at *
  go_wp2_with fail
  refine hVW.mono ?_
  rintro e w4 ⟨c', G4, rfl, hc4, hb4, hout4, hV4, hf4⟩
  have HV4 := Lib.hid (And.intro hV4 hout4)
  clear hV4 hout4 hVW HVW
  have k1 := hb4.cell (j := m) (by omega)
  have f1 := hb4.free m
  have hcB' : c' < BB := by rw [BB_eq]; omega
  have hb5 := hb4.store (i := m) (x := c') hcB'
  have q10 : (m : Int) < ((m + 1 : Nat) : Int) := by omega
  go_wp2_with fail
  refine (nat_norm_own (.slice (some ⟨g2, 0, none⟩) (m + 1) c2) (m + 1) _ _ (.inr ⟨g2, c2, rfl, hmc2, hb5⟩)).mono ?_
  rintro e w6 ⟨v4, n4, rfl, hown4, hn4, ht4, hv4, hob4, rfl⟩
  have HV5 := Lib.hid hv4
  clear hv4
  go_wp2
  go_ret
  refine FIN.out _ _ _ _ _ (((hf3'.trans' (hfd.mono (fun _ _ x => x.elim))).trans' hf4).trans' (Fr.set _ _ _ _)) hown4 ht4 hob4 ?_ rfl
  have h1 := V_upd_succ BB G4 0 m c'
  rw [Nat.zero_add] at h1
  rw [HV5.out, h1]
  obtain ⟨k, rfl⟩ : ∃ k, m = 1 + k := ⟨m - 1, by omega⟩
  have h2 := HV4.out.1
  rw [show 1 + k - 1 = k by omega] at h2
  rw [V_one BB Y 0] at hV3'
  exact add_parts hV3'.out h2 (HV4.out.2 0 (by omega))
theorem nat_add (v vy : Value) (m : Nat) (F Y : Nat → Nat) (w : World) (h : OwnW w v m F) (ht : Top F m) (hy : RdW w vy 1 Y) (hY : 0 < Y 0) (hm : m ≤ 90000000) (ny : ∀ k, v.ownBlock = some k → vy.ownBlock ≠ some k) :
  Calls Tryz.prog 162 #[v, v, vy] w fun e w' =>
   ∃ (v' : Value) (n' : Nat) (G : Nat → Nat), e = .returned v' ∧ MadeNat w w' v v' n' G ∧ Top G n' ∧ Vb BB G 0 n' = Vb BB F 0 m + Y 0 := by
 by_cases h0 : m = 0
 ·subst h0
  obtain ⟨A, c, rfl, _, _⟩ := h.rd.shape
  refine (nat_add_zero _ vy 0 c A F Y w h hy).mono ?_
  rintro e w' ⟨v', G, rfl, hm, hG⟩
  exact ⟨v', 1, G, rfl, hm, .inr (by rw [hG 0 (by omega)]; exact hY), by rw [V_one, hG 0 (by omega)]; simp [Vb]⟩
 ·obtain ⟨gy, oy, cy, rfl, _, _, wy⟩ := hy.words_of (by omega)
  have h' := h
  rcases h with ⟨_, e⟩ | ⟨g, c, rfl, hmc, hb⟩
  ·omega
  refine nat_add_some _ g 0 gy oy m m c cy F F Y w h' h'.rd hy (by omega) hm ?_ ?_
  ·intro g' o' l' c' l2 c2 e1 e2
   injection e1 with e1 _ e3
   injection e1 with e1
   injection e1 with e1 e4
   injection e2 with _ _ e5
   exact ⟨e4.symm, by rw [← e3, ← e5]⟩
  ·intro k hk e
   exact ny k hk (by rw [e]; rfl)
structure AndOne (w0 w : World) (p py : Nat) (z : Int) (s : Bool) (v : Value) (n : Nat) (F : Nat → Nat) (vy : Value) (Y : Nat → Nat) : Prop where
 fr : Fr NoS w0 w
 old : w0.heap.size ≤ p
 own : IntOwn w p s v n F
 val : sgn s (Vb BB F 0 n) = z
 new : ∀ k, v.ownBlock = some k → w0.heap.size ≤ k
 one : IntRd w py false vy 1 Y
 oneV : Y 0 = 1
 ne : ∀ k, v.ownBlock = some k → vy.ownBlock ≠ some k
theorem and_one {w0 w1 w : World} {p py : Nat} {z : Int} (h : NewZ w0 w1 p z) (k : NewZ w1 w py 1) : ∃ s v n F vy Y, AndOne w0 w p py z s v n F vy Y := by
 obtain ⟨s, v, n, F, ho, hv, hn⟩ := h.own
 obtain ⟨sy, vy, ny, Y, hy, hyv, hyn⟩ := k.own
 have hsy : sy = false := by
  cases sy
  ·rfl
  ·simp [sgn] at hyv; omega
 subst hsy
 have hV : Vb BB Y 0 ny = 1 := by
  have : ((Vb BB Y 0 ny : Nat) : Int) = 1 := by simpa [sgn] using hyv
  omega
 have hn1 : ny = 1 := by
  refine Nat.le_antisymm (words_le hy.top (by rw [hV, BB_eq]; omega)) (hy.top.pos.1 (by omega))
 subst hn1
 rw [V_one] at hV
 exact ⟨s, v, n, F, vy, Y, h.fr.trans' k.fr, h.old, ho.fr k.fr (fun x => x) (fun _ _ x => x), hv, hn, hy.rd, hV, fun j hj e => by have := ho.own.lt hj; have := hyn j e; omega⟩
theorem add_fin {w0 w W w4 : World} {p n n' c c' : Nat} {s0 s : Bool} {A A' : Option Addr} {G : Nat → Nat} (hm : MadeNat W w4 (.slice A n c) (.slice A' n' c') n' G) (ht : Top G n') (hb1 : w4.heap[p]? = some (.cells #[.bool s0, .slice A n c] TI (0, 0)))
  (h0 : Fr NoS w0 w) (hfd : Fr NoS w W) (hold : w0.heap.size ≤ p) (hnew : ∀ k, (Value.slice A n c).ownBlock = some k → w0.heap.size ≤ k) (hs : s = true → 0 < n') :
  NewZ w0 ((w4.setCell ⟨p, 1, none⟩ (.slice A' n' c')).setCell ⟨p, 0, none⟩ (.bool s)) p (sgn s (Vb BB G 0 n')) := by
 have hne1 := hm.own.rd.ne_int hb1
 have fB : Fr (· = p) w4 ((w4.setCell ⟨p, 1, none⟩ (.slice A' n' c')).setCell ⟨p, 0, none⟩ (.bool s)) := (Fr.set _ _ _ _).trans' (Fr.set _ _ _ _)
 have f4 : Fr NoS w0 w4 := (h0.trans' hfd).trans hm.fr (fun i hi e => by have := hnew i e; omega)
 refine ⟨f4.trans fB (fun i hi e => by omega), hold, s, .slice A' n' c', n', G, ⟨int_set0 (int_set hb1 _) s, hm.own.fr fB (fun k hk e => hne1 (by rw [hk, e])), ht, hs⟩, rfl, fun k hk2 => ?_⟩
 rcases hm.at_ k hk2 with e | e
 ·exact hnew k e
 ·exact Nat.le_trans (h0.trans' hfd).size e
def Kept (w w' : World) (p : Nat) : Prop := ∀ g c t, w.heap[g]? = some (.cells c t (0, 0)) → t ≠ TW → g ≠ p → w'.heap[g]? = some (.cells c t (0, 0))
theorem add_kept {w W w4 : World} {p n m n' c c' : Nat} {s : Bool} {A A' : Option Addr} {G F : Nat → Nat} (hm : MadeNat W w4 (.slice A n c) (.slice A' n' c') n' G) (ho : OwnW w (.slice A n c) m F) (hfd : Fr NoS w W) :
  Kept w ((w4.setCell ⟨p, 1, none⟩ (.slice A' n' c')).setCell ⟨p, 0, none⟩ (.bool s)) p := by
 intro g cs t hg ht hgp
 have fB : Fr (· = p) w4 ((w4.setCell ⟨p, 1, none⟩ (.slice A' n' c')).setCell ⟨p, 0, none⟩ (.bool s)) := (Fr.set _ _ _ _).trans' (Fr.set _ _ _ _)
 have hlt := (zLt hg)
 have h1 := (hfd.block g hlt (fun x => x)).trans hg
 have hng : ¬ (Value.slice A n c).ownBlock = some g := fun e => by
  rcases ho.rd with ⟨e1, _⟩ | ⟨b, o, c', cs', e1, _, _, _, hc, _⟩
  ·rw [e1] at e; cases e
  ·rw [e1] at e
   simp only [Value.ownBlock, Option.some.injEq] at e
   subst e
   rw [hc] at hg
   injection hg with hg
   injection hg with _ hg
   exact ht hg.symm
 have h2 := (hm.fr.block g (hfd.lt hlt) hng).trans h1
 have hl4 := (zLt h2)
 exact (fB.block g hl4 hgp).trans h2
set_option maxRecDepth 100000 in
set_option maxHeartbeats 4000000 in
theorem z_Add1 (p py : Nat) (z : Int) (w0 w1 w : World) (h : NewZ w0 w1 p z) (k : NewZ w1 w py 1) (hz : 0 ≤ z) (hs : Sm z) :
  Calls Tryz.prog 125 #[.pointer (some ⟨p, 0, none⟩), .pointer (some ⟨p, 0, none⟩), .pointer (some ⟨py, 0, none⟩)] w fun e w' =>
   e = .returned (.pointer (some ⟨p, 0, none⟩)) ∧ NewZ w0 w' p (z + 1) ∧ Kept w w' p := by
 obtain ⟨s, v, n, F, vy, Y, H⟩ := and_one h k
 have hsf : s = false := by
  cases s
  ·rfl
  ·have h1 := H.own.top.pos.2 (H.own.sign rfl)
   have h2 := H.val
   simp [sgn] at h2
   omega
 subst hsf
 have hV : ((Vb BB F 0 n : Nat) : Int) = z := by simpa [sgn] using H.val
 have hn : n ≤ 39 := H.own.rd.len (by rw [H.val]; exact hs)
 have c0 := H.own.rd.c0
 have c1 := H.own.rd.c1
 have y0 := H.one.c0
 have y1 := H.one.c1
 have hblk := H.own.blk
 have hne0 := H.own.own.rd.ne_int hblk
 have hlp := H.own.lt
 have AD := fun W (f : Fr NoS w W) => nat_add v vy n F Y W (H.own.own.fr f (fun _ _ x => x)) H.own.top (H.one.rd.fr f (fun _ _ x => x)) (by rw [H.oneV]; omega) (by omega) H.ne
 obtain ⟨A, c, rfl, _, _⟩ := H.own.own.rd.shape
 obtain ⟨Ay, cy, rfl, _, _⟩ := H.one.rd.shape
 have HH := Lib.hid H
 clear H h k
 go_enter Tryz.func125, Tryz.ntmps125
 go_wp2
 go_quiet (fail)
 go_wp2
 rename_i nq _
 have c1q : (w.drewN nq).cell? ⟨p, 1, none⟩ = some (.slice A n c) := c1
 have y1q : (w.drewN nq).cell? ⟨py, 1, none⟩ = some (.slice Ay 1 cy) := y1
 have hfd : Fr NoS w (w.drewN (nq + 1)) := (Fr.refl NoS w).drewN (nq + 1)
 have hAD := AD _ hfd
 clear AD
 go_region_with (go_at_call 162; go_loud ((with_reducible refine hAD.mono ?_); rintro e w4 ⟨v', n', G, rfl, hm, ht, hv⟩; have HV := Lib.hid hv; clear hv; obtain ⟨A', c', rfl, _, _⟩ := hm.own.rd.shape; have hb1 : w4.heap[p]? = some (.cells #[.bool false, .slice A n c] TI (0, 0)) := (hm.fr.block p (by simpa using hlp) hne0).trans hblk; have d1 : w4.cell? ⟨p, 1, none⟩ = some (.slice A n c) := (by simp [World.cell?, hb1]); have f1 : w4.frozen? ⟨p, 1, none⟩ = false := (by simp [World.frozen?, hb1])))
 all_goals
  have hb2 := int_set hb1 (.slice A' n' c')
  have e1 : (w4.setCell ⟨p, 1, none⟩ (.slice A' n' c')).cell? ⟨p, 1, none⟩ = some (.slice A' n' c') := by simp [World.cell?, hb2]
  have e0 : (w4.setCell ⟨p, 1, none⟩ (.slice A' n' c')).cell? ⟨p, 0, none⟩ = some (.bool false) := by simp [World.cell?, hb2]
  have g0 : (w4.setCell ⟨p, 1, none⟩ (.slice A' n' c')).frozen? ⟨p, 0, none⟩ = false := by simp [World.frozen?, hb2]
  have fin := add_fin (s := false) (p := p) hm ht hb1 HH.out.fr hfd HH.out.old HH.out.new
  have hnp : 0 < n' := ht.pos.1 (by rw [HV.out, HH.out.oneV]; omega)
  have bn : decide ((0 : Int) < (n' : Int)) = true := by simp; exact hnp
  have FIN := Lib.hid (fin (fun _ => hnp))
  have HZ := Lib.hid (show sgn false (Vb BB G 0 n') = z + 1 by rw [HV.out, HH.out.oneV]; simp [sgn]; omega)
  have KEP := Lib.hid (add_kept (s := false) (p := p) hm HH.out.own.own hfd)
  clear fin hb2 hb1 hm ht
  go_wp2
  go_ret
  exact ⟨rfl, by rw [← HZ.out]; exact FIN.out, KEP.out⟩
set_option maxRecDepth 100000 in
set_option maxHeartbeats 4000000 in
theorem z_Sub1_neg (p py : Nat) (z : Int) (w0 w1 w : World) (h : NewZ w0 w1 p z) (k : NewZ w1 w py 1) (hz : z < 0) (hs : Sm z) :
  Calls Tryz.prog 127 #[.pointer (some ⟨p, 0, none⟩), .pointer (some ⟨p, 0, none⟩), .pointer (some ⟨py, 0, none⟩)] w fun e w' =>
   e = .returned (.pointer (some ⟨p, 0, none⟩)) ∧ NewZ w0 w' p (z - 1) ∧ Kept w w' p := by
 obtain ⟨s, v, n, F, vy, Y, H⟩ := and_one h k
 have hsf : s = true := by
  cases s
  ·have h2 := H.val
   simp [sgn] at h2
   omega
  ·rfl
 subst hsf
 have hV : -((Vb BB F 0 n : Nat) : Int) = z := by simpa [sgn] using H.val
 have hn : n ≤ 39 := H.own.rd.len (by rw [H.val]; exact hs)
 have c0 := H.own.rd.c0
 have c1 := H.own.rd.c1
 have y0 := H.one.c0
 have y1 := H.one.c1
 have hblk := H.own.blk
 have hne0 := H.own.own.rd.ne_int hblk
 have hlp := H.own.lt
 have AD := fun W (f : Fr NoS w W) => nat_add v vy n F Y W (H.own.own.fr f (fun _ _ x => x)) H.own.top (H.one.rd.fr f (fun _ _ x => x)) (by rw [H.oneV]; omega) (by omega) H.ne
 obtain ⟨A, c, rfl, _, _⟩ := H.own.own.rd.shape
 obtain ⟨Ay, cy, rfl, _, _⟩ := H.one.rd.shape
 have HH := Lib.hid H
 clear H h k
 go_enter Tryz.func127, Tryz.ntmps127
 go_wp2
 go_quiet (fail)
 go_wp2
 rename_i nq _
 have c1q : (w.drewN nq).cell? ⟨p, 1, none⟩ = some (.slice A n c) := c1
 have y1q : (w.drewN nq).cell? ⟨py, 1, none⟩ = some (.slice Ay 1 cy) := y1
 have hfd : Fr NoS w (w.drewN (nq + 1)) := (Fr.refl NoS w).drewN (nq + 1)
 have hAD := AD _ hfd
 clear AD
 go_region_with (go_at_call 162; go_loud ((with_reducible refine hAD.mono ?_); rintro e w4 ⟨v', n', G, rfl, hm, ht, hv⟩; have HV := Lib.hid hv; clear hv; obtain ⟨A', c', rfl, _, _⟩ := hm.own.rd.shape; have hb1 : w4.heap[p]? = some (.cells #[.bool true, .slice A n c] TI (0, 0)) := (hm.fr.block p (by simpa using hlp) hne0).trans hblk; have d1 : w4.cell? ⟨p, 1, none⟩ = some (.slice A n c) := (by simp [World.cell?, hb1]); have f1 : w4.frozen? ⟨p, 1, none⟩ = false := (by simp [World.frozen?, hb1])))
 all_goals
  have hb2 := int_set hb1 (.slice A' n' c')
  have e1 : (w4.setCell ⟨p, 1, none⟩ (.slice A' n' c')).cell? ⟨p, 1, none⟩ = some (.slice A' n' c') := by simp [World.cell?, hb2]
  have e0 : (w4.setCell ⟨p, 1, none⟩ (.slice A' n' c')).cell? ⟨p, 0, none⟩ = some (.bool true) := by simp [World.cell?, hb2]
  have g0 : (w4.setCell ⟨p, 1, none⟩ (.slice A' n' c')).frozen? ⟨p, 0, none⟩ = false := by simp [World.frozen?, hb2]
  have fin := add_fin (s := true) (p := p) hm ht hb1 HH.out.fr hfd HH.out.old HH.out.new
  have hnp : 0 < n' := ht.pos.1 (by rw [HV.out, HH.out.oneV]; omega)
  have bn : decide ((0 : Int) < (n' : Int)) = true := by simp; exact hnp
  have FIN := Lib.hid (fin (fun _ => hnp))
  have HZ := Lib.hid (show sgn true (Vb BB G 0 n') = z - 1 by rw [HV.out, HH.out.oneV]; simp [sgn]; omega)
  have KEP := Lib.hid (add_kept (s := true) (p := p) hm HH.out.own.own hfd)
  clear fin hb2 hb1 hm ht
  go_wp2
  go_ret
  exact ⟨rfl, by rw [← HZ.out]; exact FIN.out, KEP.out⟩
set_option maxRecDepth 100000 in
set_option maxHeartbeats 1000000 in
theorem nat_sub_zero (v vy : Value) (l cx : Nat) (A : Option Addr) (F Y : Nat → Nat) (w : World) (h : OwnW w v l F) (hy : RdW w vy 1 Y) :
  Calls Tryz.prog 101 #[v, vy, .slice A 0 cx] w fun e w' =>
   ∃ (v' : Value) (G : Nat → Nat), e = .returned v' ∧ MadeNat w w' v v' 1 G ∧ ∀ j, j < 1 → G j = Y j := by
 have S := nat_set v vy l 1 F Y w h hy (by omega) (by omega)
 obtain ⟨Ay, cy, rfl, _, _⟩ := hy.shape
 have b1 : decide (((1 : Nat) : Int) < ((0 : Nat) : Int)) = false := by simp
 have HS := Lib.hid S
 clear S
 go_enter Tryz.func101, Tryz.ntmps101
 go_wp2_with fail
 refine HS.out.mono ?_
 rintro e w1 ⟨v', G, rfl, hm, hG⟩
 have HG := Lib.hid hG
 clear hG
 go_wp2
 go_ret
 exact ⟨v', G, rfl, hm, HG.out⟩
set_option maxRecDepth 100000 in
set_option maxHeartbeats 4000000 in
theorem z_Sub1_zero (p py : Nat) (w0 w1 w : World) (h : NewZ w0 w1 p 0) (k : NewZ w1 w py 1) :
  Calls Tryz.prog 127 #[.pointer (some ⟨p, 0, none⟩), .pointer (some ⟨p, 0, none⟩), .pointer (some ⟨py, 0, none⟩)] w fun e w' =>
   e = .returned (.pointer (some ⟨p, 0, none⟩)) ∧ NewZ w0 w' p (-1) ∧ Kept w w' p := by
 obtain ⟨s, v, n, F, vy, Y, H⟩ := and_one h k
 have hn0 : n = 0 := by
  refine Nat.eq_zero_of_not_pos fun h => ?_
  have h1 := H.own.top.pos.2 h
  have h2 := sgn_eq_zero.1 H.val
  omega
 subst hn0
 have hsf : s = false := by
  cases s
  ·rfl
  ·have := H.own.sign rfl; omega
 subst hsf
 have c0 := H.own.rd.c0
 have c1 := H.own.rd.c1
 have y0 := H.one.c0
 have y1 := H.one.c1
 have hblk := H.own.blk
 have hne0 := H.own.own.rd.ne_int hblk
 have hlp := H.own.lt
 obtain ⟨A, c, rfl, _, _⟩ := H.own.own.rd.shape
 obtain ⟨Ay, cy, rfl, _, _⟩ := H.one.rd.shape
 have AD : ∀ W, Fr NoS w W → Calls Tryz.prog 101 #[.slice A 0 c, .slice Ay 1 cy, .slice A 0 c] W fun e w' =>
   ∃ (v' : Value) (G : Nat → Nat), e = .returned v' ∧ MadeNat W w' (.slice A 0 c) v' 1 G ∧ ∀ j, j < 1 → G j = Y j :=
  fun W f => nat_sub_zero _ _ 0 c A F Y W (H.own.own.fr f (fun _ _ x => x)) (H.one.rd.fr f (fun _ _ x => x))
 have CM : ∀ nq, Calls Tryz.prog 140 #[.slice A 0 c, .slice Ay 1 cy] (w.drewN nq) fun e w' => e = .returned (.int .i64 (-1)) ∧ ∃ q, w' = (w.drewN nq).drewN q := fun nq => by
  have := nat_cmp _ _ 0 1 F Y (w.drewN nq) (H.own.rd.rd.fr ((Fr.refl NoS w).drewN nq) (fun _ _ x => x)) (H.one.rd.fr ((Fr.refl NoS w).drewN nq) (fun _ _ x => x)) H.own.top H.one.top
  rwa [cmpI_lt (by rw [V_one, H.oneV, V_zero]; omega)] at this
 have HH := Lib.hid H
 clear H h k
 go_enter Tryz.func127, Tryz.ntmps127
 go_wp2
 go_quiet (fail)
 go_wp2
 go_quiet ((go_at_call 140; exact quiet_of2 (CM _)))
 go_wp2
 have c1q : ∀ q, (w.drewN q).cell? ⟨p, 1, none⟩ = some (.slice A 0 c) := fun _ => c1
 have y1q : ∀ q, (w.drewN q).cell? ⟨py, 1, none⟩ = some (.slice Ay 1 cy) := fun _ => y1
 have hAD := fun q => AD (w.drewN q) ((Fr.refl NoS w).drewN q)
 clear AD CM
 go_region_with (go_at_call 101; go_loud ((with_reducible refine (hAD _).mono ?_); rintro e w4 ⟨v', G, rfl, hm, hG⟩; have HG := Lib.hid hG; clear hG; obtain ⟨A', c', rfl, _, _⟩ := hm.own.rd.shape; have hb1 : w4.heap[p]? = some (.cells #[.bool false, .slice A 0 c] TI (0, 0)) := (hm.fr.block p (by simpa using hlp) hne0).trans hblk; have d1 : w4.cell? ⟨p, 1, none⟩ = some (.slice A 0 c) := (by simp [World.cell?, hb1]); have f1 : w4.frozen? ⟨p, 1, none⟩ = false := (by simp [World.frozen?, hb1])))
 all_goals
  have hb2 := int_set hb1 (.slice A' 1 c')
  have e1 : (w4.setCell ⟨p, 1, none⟩ (.slice A' 1 c')).cell? ⟨p, 1, none⟩ = some (.slice A' 1 c') := by simp [World.cell?, hb2]
  have e0 : (w4.setCell ⟨p, 1, none⟩ (.slice A' 1 c')).cell? ⟨p, 0, none⟩ = some (.bool false) := by simp [World.cell?, hb2]
  have g0 : (w4.setCell ⟨p, 1, none⟩ (.slice A' 1 c')).frozen? ⟨p, 0, none⟩ = false := by simp [World.frozen?, hb2]
  have fin := add_fin (s := true) (p := p) hm (.inr (by rw [HG.out 0 (by omega), HH.out.oneV]; omega)) hb1 HH.out.fr ((Fr.refl NoS w).drewN _) HH.out.old HH.out.new
  have bn : decide ((0 : Int) < ((1 : Nat) : Int)) = true := by simp
  have FIN := Lib.hid (fin (fun _ => by omega))
  have HZ := Lib.hid (show sgn true (Vb BB G 0 1) = -1 by rw [V_one, HG.out 0 (by omega), HH.out.oneV]; rfl)
  have KEP := Lib.hid (add_kept (s := true) (p := p) hm HH.out.own.own ((Fr.refl NoS w).drewN _))
  clear fin hb2 hb1 hm
  go_wp2
  go_ret
  exact ⟨rfl, by rw [← HZ.out]; exact FIN.out, KEP.out⟩
theorem sh_quoRem (p1 px pbb : Nat) (ex P : Int) (zx : Int) (w0 w : World) (h0 : Fr NoS w0 w) (h00 : w0.heap.size ≤ pbb) (h1 : RI w p1 1) (hx : RI w px zx) (hz : Zr w pbb) (hz0 : zx ≠ 0) (hs : Sm zx) (hP : -1000 ≤ P ∧ P ≤ 1000) (hex : -1000 ≤ ex ∧ ex ≤ 1000) (hE : -420 ≤ P - ex ∧ P - ex ≤ 420) (hsB : Sm (zx * 10 ^ (ex - P).toNat)) (hne1 : p1 ≠ pbb) (hnex : px ≠ pbb) (hG : Glob w) :
  Calls Tryz.prog 147 #[DV p1 0, DV px ex, .int .i32 P, .pointer (some ⟨pbb, 0, none⟩)] w fun en w' =>
   ∃ (pq pr : Nat) (sr : Int), en = .returned (.tuple #[DV pq (-P), DV pr sr]) ∧ QR w0 w w' pbb pq pr (10 ^ (P - ex).toNat) (zx * 10 ^ (ex - P).toNat) := by
 by_cases h : ex ≤ P
 ·have e : (ex - P).toNat = 0 := by omega
  rw [e, Int.pow_zero, Int.mul_one]
  exact sh_quoRem_pos p1 px pbb (P - ex).toNat ex P zx w0 w h0 h00 h1 hx hz hz0 hs hP hex (by omega) (by omega) hne1 hnex hG
 ·have e : (P - ex).toNat = 0 := by omega
  rw [e, Int.pow_zero]
  exact sh_quoRem_neg p1 px pbb (ex - P).toNat ex P zx w0 w h0 h00 h1 hx hz hz0 hs hP hex (by omega) (by omega) hsB (by omega) hne1 hnex hG
theorem z_Sub1 (p py : Nat) (z : Int) (w0 w1 w : World) (h : NewZ w0 w1 p z) (k : NewZ w1 w py 1) (hz : z ≤ 0) (hs : Sm z) :
  Calls Tryz.prog 127 #[.pointer (some ⟨p, 0, none⟩), .pointer (some ⟨p, 0, none⟩), .pointer (some ⟨py, 0, none⟩)] w fun e w' =>
   e = .returned (.pointer (some ⟨p, 0, none⟩)) ∧ NewZ w0 w' p (z - 1) ∧ Kept w w' p := by
 by_cases h0 : z = 0
 ·subst h0; exact z_Sub1_zero p py w0 w1 w h k
 ·exact z_Sub1_neg p py z w0 w1 w h k (by omega) hs
def dround (A B : Int) : Int := if 2 * (A.tmod B).natAbs < B.natAbs then A.tdiv B else if B < 0 then A.tdiv B - 1 else A.tdiv B + 1
set_option maxRecDepth 100000 in
set_option maxHeartbeats 8000000 in
theorem sh_DivRound (p1 px : Nat) (ex P : Int) (zx : Int) (w : World) (h1 : RI w p1 1) (hx : RI w px zx) (hz0 : zx ≠ 0) (hs : Sm zx) (hP : -1000 ≤ P ∧ P ≤ 1000) (hex : -1000 ≤ ex ∧ ex ≤ 1000) (hE : -420 ≤ P - ex ∧ P - ex ≤ 420) (hsB : Sm (zx * 10 ^ (ex - P).toNat)) (hG : Glob w) :
  Calls Tryz.prog 107 #[DV p1 0, DV px ex, .int .i32 P] w fun en w' =>
   ∃ (pq : Nat), en = .returned (DV pq (-P)) ∧ NewZ w w' pq (dround (10 ^ (P - ex).toNat) (zx * 10 ^ (ex - P).toNat)) := by
 obtain ⟨u0, hu0⟩ : ∃ u0 : World, Hid (u0 = (((w.alloc (.cells #[.pointer (some ⟨p1, 0, none⟩), .int .i32 0] 48 (0, 0))).alloc (.cells #[.pointer (some ⟨px, 0, none⟩), .int .i32 ex] 48 (0, 0))).alloc (.cells #[.pointer none, .int .i32 0] 48 (0, 0))).alloc (.cells #[.bool false, .slice none 0 0] TI (0, 0))) := ⟨_, Lib.hid rfl⟩
 have hA : Fr NoS w u0 := by rw [hu0.out]; exact ((((Fr.refl NoS w).alloc _).alloc _).alloc _).alloc _
 have B3 : u0.heap[w.heap.size]? = some (.cells #[.pointer (some ⟨p1, 0, none⟩), .int .i32 0] 48 (0, 0)) := by rw [hu0.out, old1 (by simp <;> omega), old1 (by simp <;> omega), old1 (by simp), new1 (by simp)]
 have B4 : u0.heap[w.heap.size + 1]? = some (.cells #[.pointer (some ⟨px, 0, none⟩), .int .i32 ex] 48 (0, 0)) := by rw [hu0.out, old1 (by simp <;> omega), old1 (by simp), new1 (by simp)]
 have B6 : u0.heap[w.heap.size + 1 + 1]? = some (.cells #[.pointer none, .int .i32 0] 48 (0, 0)) := by rw [hu0.out, old1 (by simp), new1 (by simp)]
 have hz7 : Zr u0 (w.heap.size + 1 + 1 + 1) := by rw [hu0.out]; exact new1 (by simp)
 have hu0s : u0.heap.size = w.heap.size + 4 := by rw [hu0.out]; simp
 have hp1l := h1.lt
 have hpxl := hx.lt
 obtain ⟨A, hAv⟩ : ∃ A : Int, (10 : Int) ^ (P - ex).toNat = A := ⟨_, rfl⟩
 obtain ⟨B, hBv⟩ : ∃ B : Int, zx * 10 ^ (ex - P).toNat = B := ⟨_, rfl⟩
 have hB0 : B ≠ 0 := by rw [← hBv]; exact Int.mul_ne_zero hz0 (Int.ne_of_gt (Int.pow_pos (by omega)))
 have hsA : Sm A := by rw [← hAv]; exact sm_pow10 _ (by omega)
 have hBn : B < 0 ↔ zx < 0 := by
  rw [← hBv]
  have hp : (0 : Int) < 10 ^ (ex - P).toNat := Int.pow_pos (by omega)
  constructor
  ·intro h; exact Int.not_le.1 fun h2 => Int.not_le.2 h (Int.mul_nonneg h2 (Int.le_of_lt hp))
  ·intro h; exact Int.mul_neg_of_neg_of_pos h hp
 have Q := sh_quoRem p1 px (w.heap.size + 1 + 1 + 1) ex P zx w u0 hA (by omega) (h1.fr hA) (hx.fr hA) hz7 hz0 hs hP hex hE hsB (by omega) (by omega) (hG.fr hA)
 rw [hAv, hBv] at Q ⊢
 rw [hBv] at hsB
 obtain ⟨c30, c31, _, _⟩ := cells2 B3
 obtain ⟨c40, c41, _, _⟩ := cells2 B4
 rw [hu0.out] at c30 c31 c40 c41
 go_enter Tryz.func107, Tryz.ntmps107
 go_wp2_with fail
 rw [← hu0.out]
 refine Q.mono ?_
 rintro en w2 ⟨pq, pr, sr, rfl, H⟩
 have hFu : Fr NoS w w2 := H.q.fr
 have hpq2 : pq < w2.heap.size := H.q.rd.lt
 have hzn : zx.sign < 0 → zx < 0 := fun h => Int.sign_neg_iff.1 h
 have hnz : zx < 0 → zx.sign < 0 := fun h => Int.sign_neg_iff.2 h
 have hA0 : 0 ≤ A := by rw [← hAv]; exact Int.le_of_lt (Int.pow_pos (by omega))
 have hq1 : zx < 0 → A.tdiv B ≤ 0 := fun h => Int.tdiv_nonpos_of_nonneg_of_nonpos hA0 (Int.le_of_lt (hBn.2 h))
 have hq2 : ¬ zx < 0 → 0 ≤ A.tdiv B := fun h => Int.tdiv_nonneg hA0 (Int.not_lt.1 (fun k => h (hBn.1 k)))
 have hsq : Sm (A.tdiv B) := by
  have h2 : (A.tdiv B).natAbs < BB ^ 39 := by
   rw [Int.natAbs_tdiv]
   exact Nat.lt_of_le_of_lt (Nat.div_le_self _ _) hsA
  exact h2
 have D3 := (H.fr.block _ (zLt B3) (by omega)).trans B3
 have D4 := (H.fr.block _ (zLt B4) (by omega)).trans B4
 have D6 := (H.fr.block _ (zLt B6) (by omega)).trans B6
 obtain ⟨u2, hu2⟩ : ∃ u2 : World, Hid (u2 = (w2.alloc (.cells #[.pointer (some ⟨pq, 0, none⟩), .int .i32 (-P)] 48 (0, 0))).alloc (.cells #[.pointer (some ⟨pr, 0, none⟩), .int .i32 sr] 48 (0, 0))) := ⟨_, Lib.hid rfl⟩
 have hA2 : Fr NoS w2 u2 := by rw [hu2.out]; exact ((Fr.refl NoS w2).alloc _).alloc _
 have hs2 : u2.heap.size = w2.heap.size + 1 + 1 := by rw [hu2.out]; simp
 have E8 : u2.heap[w2.heap.size]? = some (.cells #[.pointer (some ⟨pq, 0, none⟩), .int .i32 (-P)] 48 (0, 0)) := by rw [hu2.out, old1 (by simp), new1 (by simp)]
 have E9 : u2.heap[w2.heap.size + 1]? = some (.cells #[.pointer (some ⟨pr, 0, none⟩), .int .i32 sr] 48 (0, 0)) := by rw [hu2.out, new1 (by simp)]
 have E3 := hA2.kp D3
 have E4 := hA2.kp D4
 have E6 := hA2.kp D6
 have H2 := H.after hA2
 obtain ⟨u3, hu3⟩ : ∃ u3 : World, Hid (u3 = u2.alloc (.cells #[.bool false, .slice none 0 0] TI (0, 0))) := ⟨_, Lib.hid rfl⟩
 have hA3 : Fr NoS u2 u3 := by rw [hu3.out]; exact (Fr.refl NoS u2).alloc _
 have hz10 : Zr u3 (w2.heap.size + 1 + 1) := by rw [hu3.out]; exact new1 hs2.symm
 have G1 := sh_getValue pr sr u3 (A.tmod B) (H2.r.rd.fr hA3)
 rw [hu3.out, hu2.out] at G1
 have hsm : Sm (A.tmod B) := by
  have h2 : (A.tmod B).natAbs < BB ^ 39 := by
   rw [Int.natAbs_tmod]
   exact Nat.lt_of_le_of_lt (Nat.mod_le _ _) hsA
  exact h2
 have hprl := H.r.rd.lt
 clear c30 c31 c40 c41 B3 B4 B6 D3 D4 D6 Q
 go_wp2_with fail
 refine G1.mono ?_
 rintro en w4 ⟨rfl, hf4⟩
 rw [← hu2.out, ← hu3.out] at hf4
 have hF24 := hA3.trans' hf4
 go_wp2_with fail
 refine (z_Abs (w2.heap.size + 1 + 1) pr (A.tmod B) w4 (hz10.fr hf4 (fun x => x)) (H2.r.rd.fr hF24) (by omega) hsm).mono ?_
 rintro en w5 ⟨rfl, hP5⟩
 have hN5 := hP5.new hF24 (Nat.le_of_eq hs2)
 go_wp2_with fail
 refine (z_Lsh1 _ _ _ _ hN5 (show Sm _ from hsm)).mono ?_
 rintro en w6 ⟨rfl, hN6⟩
 go_wp2_with fail
 refine (z_CmpAbs _ _ _ _ _ hN6.rd (H2.bb.fr hN6.fr)).mono ?_
 rintro en w7 ⟨rfl, hf7⟩
 have hF27 := hN6.fr.trans' hf7
 have K8 := hF27.kp E8
 have K3 := hF27.kp E3
 have K4 := hF27.kp E4
 have K6 := hF27.kp E6
 have H7 := H2.after hF27
 obtain ⟨k80, k81, kf80, kf81⟩ := cells2 K8
 obtain ⟨k30, k31, _, _⟩ := cells2 K3
 obtain ⟨k40, k41, _, _⟩ := cells2 K4
 obtain ⟨k60, k61, kf60, kf61⟩ := cells2 K6
 have eN : (2 * ((A.tmod B).natAbs : Int)).natAbs = 2 * (A.tmod B).natAbs := by omega
 rw [eN]
 clear hf4 hP5 hN5 hN6 hf7 E8 E9 E3 E4 E6 G1 hz10
 by_cases ht : 2 * (A.tmod B).natAbs < B.natAbs
 ·rw [cmpI_lt ht]
  have fin : NewZ w ((w7.setCell ⟨w.heap.size + 1 + 1, 0, none⟩ (.pointer (some ⟨pq, 0, none⟩))).setCell ⟨w.heap.size + 1 + 1, 1, none⟩ (.int .i32 (-P))) pq (dround A B) := by
   rw [dround, if_pos ht]
   exact H7.q.beside ((Fr.set _ _ _ _).trans' (Fr.set _ _ _ _)) K6 (by decide) (by omega) (by have := H7.nq; omega)
  have FIN := Lib.hid fin
  clear fin H H2 H7 hF27 hF24 K8 K3 K4 K6
  go_wp2
  exact bodyPost_ret (v := DV pq (-P)) (by simp [results, Tryz.results107, go_sem, k60, k61]) rfl ⟨_, rfl, FIN.out⟩
 ·obtain ⟨cc, hcc⟩ : ∃ cc, cmpI (2 * (A.tmod B).natAbs) B.natAbs = cc := ⟨_, rfl⟩
  have hc0 : decide (cc < 0) = false := by
   rw [← hcc]; unfold cmpI; rw [if_neg ht]; split <;> simp
  rw [hcc]
  have hh1 : RI w7.drew p1 1 := (h1.fr (hFu.trans' (hA2.trans' hF27))).fr (Fr.refl NoS w7).drew
  have hhx : RI w7.drew px zx := (hx.fr (hFu.trans' (hA2.trans' hF27))).fr (Fr.refl NoS w7).drew
  have HD := Lib.hid (H7.after (Fr.refl NoS w7).drew)
  have hdr : dround A B = if zx < 0 then A.tdiv B - 1 else A.tdiv B + 1 := by
   rw [dround, if_neg ht]; simp only [hBn]
  replace K8 : w7.drew.heap[w2.heap.size]? = some (.cells #[.pointer (some ⟨pq, 0, none⟩), .int .i32 (-P)] 48 (0, 0)) := K8
  replace K6 : w7.drew.heap[w.heap.size + 1 + 1]? = some (.cells #[.pointer none, .int .i32 0] 48 (0, 0)) := K6
  have FF : Fr NoS w7.drew w7.drew := Fr.refl NoS _
  clear H H2 H7 hF27 hF24 h1 hx hA hA2 hA3 hFu
  obtain ⟨sg, hsg⟩ : ∃ sg, zx.sign = sg := ⟨_, rfl⟩
  have hsgb : -1 ≤ sg ∧ sg ≤ 1 := by rw [← hsg]; rcases Int.lt_trichotomy zx 0 with h | h | h <;> simp [Int.sign_eq_neg_one_of_neg, Int.sign_eq_one_of_pos, h]
  have hsgw : IntKind.i64.wrap sg = sg := IntWalk.i64_in _ (by omega)
  have Z1 := fun W h => z_Sign p1 1 W h
  have Z2 := fun W h => z_Sign px zx W h
  rw [hsg] at Z2 hzn hnz
  rw [show (1 : Int).sign = 1 from rfl] at Z1
  go_wp2_with fail
  go_region_held3 (fun w' => w'.cell? ⟨w.heap.size, 0, none⟩ = some (.pointer (some ⟨p1, 0, none⟩)) ∧ w'.cell? ⟨w.heap.size, 1, none⟩ = some (.int .i32 0) ∧ w'.cell? ⟨w.heap.size + 1, 0, none⟩ = some (.pointer (some ⟨px, 0, none⟩)) ∧ w'.cell? ⟨w.heap.size + 1, 1, none⟩ = some (.int .i32 ex)) (go_keep) (first | (go_at_call 59; (first | (with_reducible refine (sh_getValue p1 0 _ 1 hh1).mono ?_) | (with_reducible refine (sh_getValue px ex _ zx hhx).mono ?_)); rintro e w1 ⟨rfl, hf⟩; replace hh1 := hh1.fr hf; replace hhx := hhx.fr hf; replace FF := FF.trans' hf; replace K3 := hf.kp K3; replace K4 := hf.kp K4; clear hf k30 k31 k40 k41; obtain ⟨k30, k31, _, _⟩ := cells2 K3; obtain ⟨k40, k41, _, _⟩ := cells2 K4) | (go_at_call 58; (first | (with_reducible refine (Z1 _ hh1).mono ?_) | (with_reducible refine (Z2 _ hhx).mono ?_)); rintro e w1 ⟨rfl, rfl⟩))
  all_goals
   have KE8 := (FF.drew.block _ (zLt K8) (fun x => x)).trans K8
   have KE6 := (FF.drew.block _ (zLt K6) (fun x => x)).trans K6
   have hq := HD.out.q.after FF.drew
   have nq := HD.out.nq
   clear k80 k81 k60 k61 k30 k31 k40 k41 kf80 kf81 kf60 kf61 hh1 hhx K3 K4 K6 K8
   obtain ⟨k80, k81, _, _⟩ := cells2 KE8
   have ne6 : w.heap.size + 1 + 1 ≠ pq := by omega
   have ne8 : w2.heap.size ≠ pq := by omega
   by_cases hneg : sg < 0
   ·have hdq : dround A B = A.tdiv B - 1 := by
     rw [hdr, if_pos (hzn hneg)]
    have hqs : A.tdiv B ≤ 0 := hq1 (hzn hneg)
    go_wp2_with fail
    go_region_held3 (fun w' => w'.cell? ⟨w2.heap.size, 0, none⟩ = some (.pointer (some ⟨pq, 0, none⟩))) (go_keep) (first | (go_at_call 70; (with_reducible refine (sh_oneInt _).mono ?_); rintro e w5 ⟨py, rfl, hN⟩; replace KE8 := (hN.fr.block _ (zLt KE8) (fun x => x)).trans KE8; replace KE6 := (hN.fr.block _ (zLt KE6) (fun x => x)).trans KE6; clear k80 k81; obtain ⟨k80, k81, _, _⟩ := cells2 KE8) | (go_at_call 127; (with_reducible refine (z_Sub1 _ _ _ _ _ _ hq hN hqs hsq).mono ?_); rintro e w6 ⟨rfl, hq6, KEP⟩; replace KE8 := KEP _ _ _ KE8 (by decide) ne8; replace KE6 := KEP _ _ _ KE6 (by decide) ne6; clear k80 k81; obtain ⟨k80, k81, _, _⟩ := cells2 KE8))
    all_goals
     rw [← hdq] at hq6
     have fin := hq6.beside (((Fr.refl (fun k => k = w.heap.size + 1 + 1) _).setCell ⟨w.heap.size + 1 + 1, 0, none⟩ (.pointer (some ⟨pq, 0, none⟩)) (.inr rfl)).setCell ⟨w.heap.size + 1 + 1, 1, none⟩ (.int .i32 (-P)) (.inr rfl)) KE6 (by decide) (by omega) (fun e => ne6 e.symm)
     obtain ⟨k60, k61, kf60, kf61⟩ := cells2 KE6
     have FIN := Lib.hid fin
     clear fin hq hq6 KE6 KE8
     go_wp2
     exact bodyPost_ret (v := DV pq (-P)) (by simp [results, Tryz.results107, go_sem, k60, k61]) rfl ⟨_, rfl, FIN.out⟩
   ·have hdq : dround A B = A.tdiv B + 1 := by
     rw [hdr, if_neg (fun h => hneg (hnz h))]
    have hqs : 0 ≤ A.tdiv B := hq2 (by first | exact fun h => hneg (hnz h) | exact Int.not_lt.1 (fun h => hneg (hnz h)))
    go_wp2_with fail
    go_region_held3 (fun w' => w'.cell? ⟨w2.heap.size, 0, none⟩ = some (.pointer (some ⟨pq, 0, none⟩))) (go_keep) (first | (go_at_call 70; (with_reducible refine (sh_oneInt _).mono ?_); rintro e w5 ⟨py, rfl, hN⟩; replace KE8 := (hN.fr.block _ (zLt KE8) (fun x => x)).trans KE8; replace KE6 := (hN.fr.block _ (zLt KE6) (fun x => x)).trans KE6; clear k80 k81; obtain ⟨k80, k81, _, _⟩ := cells2 KE8) | (go_at_call 125; (with_reducible refine (z_Add1 _ _ _ _ _ _ hq hN hqs hsq).mono ?_); rintro e w6 ⟨rfl, hq6, KEP⟩; replace KE8 := KEP _ _ _ KE8 (by decide) ne8; replace KE6 := KEP _ _ _ KE6 (by decide) ne6; clear k80 k81; obtain ⟨k80, k81, _, _⟩ := cells2 KE8))
    all_goals
     rw [← hdq] at hq6
     have fin := hq6.beside (((Fr.refl (fun k => k = w.heap.size + 1 + 1) _).setCell ⟨w.heap.size + 1 + 1, 0, none⟩ (.pointer (some ⟨pq, 0, none⟩)) (.inr rfl)).setCell ⟨w.heap.size + 1 + 1, 1, none⟩ (.int .i32 (-P)) (.inr rfl)) KE6 (by decide) (by omega) (fun e => ne6 e.symm)
     obtain ⟨k60, k61, kf60, kf61⟩ := cells2 KE6
     have FIN := Lib.hid fin
     clear fin hq hq6 KE6 KE8
     go_wp2
     exact bodyPost_ret (v := DV pq (-P)) (by simp [results, Tryz.results107, go_sem, k60, k61]) rfl ⟨_, rfl, FIN.out⟩
set_option maxRecDepth 100000 in
set_option maxHeartbeats 4000000 in
theorem sh_powExact (px pn : Nat) (e z : Int) (n : Nat) (w : World) (hx : RI w px z) (hn : RI w pn (n : Int)) (hn1 : 1 ≤ n) (hn2 : n ≤ 1000) (he : -1000 ≤ e ∧ e ≤ 1000) (hs : Sm z) (hsm : z.natAbs ^ (n / 2) < BB ^ 11) (hG : Glob w) :
  Calls Tryz.prog 67 #[DV px e, .pointer (some ⟨pn, 0, none⟩)] w fun en w' => ∃ p, en = .returned (.tuple #[DV p (n * e), .nilIface]) ∧ NewZ w w' p (z ^ n) := by
 obtain ⟨m, hm⟩ : ∃ m : Int, (n : Int) * e = m := ⟨_, rfl⟩
 have hmb : -1000000 ≤ m ∧ m ≤ 1000000 := by
  rw [← hm]
  have h1 : (n : Int) * e ≤ 1000 * 1000 := by
   rcases Int.le_total 0 e with h | h
   ·exact Int.mul_le_mul (by omega) he.2 h (by omega)
   ·exact Int.le_trans (Int.mul_nonpos_of_nonneg_of_nonpos (by omega) h) (by omega)
  have h2 : (n : Int) * (-e) ≤ 1000 * 1000 := by
   rcases Int.le_total 0 (-e) with h | h
   ·exact Int.mul_le_mul (by omega) (by omega) h (by omega)
   ·exact Int.le_trans (Int.mul_nonpos_of_nonneg_of_nonpos (by omega) h) (by omega)
  rw [Int.mul_neg] at h2
  omega
 rw [hm]
 obtain ⟨u0, hu0⟩ : ∃ u0 : World, Hid (u0 = (((w.alloc (.cells #[.pointer (some ⟨px, 0, none⟩), .int .i32 e] 48 (0, 0))).alloc (.cells #[.pointer none, .int .i32 0] 48 (0, 0)))).alloc (.cells #[.bool false, .slice none 0 0] TI (0, 0))) := ⟨_, Lib.hid rfl⟩
 have hA : Fr NoS w u0 := by rw [hu0.out]; exact (((Fr.refl NoS w).alloc _).alloc _).alloc _
 have hu0s : u0.heap.size = w.heap.size + 3 := by rw [hu0.out]; simp
 have B2 : u0.heap[w.heap.size]? = some (.cells #[.pointer (some ⟨px, 0, none⟩), .int .i32 e] 48 (0, 0)) := by rw [hu0.out, old1 (by simp <;> omega), old1 (by simp), new1 (by simp)]
 have B4 : u0.heap[w.heap.size + 1]? = some (.cells #[.pointer none, .int .i32 0] 48 (0, 0)) := by rw [hu0.out, old1 (by simp), new1 (by simp)]
 have hz7 : Zr u0 (w.heap.size + 1 + 1) := by rw [hu0.out]; exact new1 (by simp)
 obtain ⟨c20, c21, _, _⟩ := cells2 B2
 rw [hu0.out] at c20 c21
 have hpxl := hx.lt
 have hpnl := hn.lt
 have b1 : decide (-9223372036854775808 ≤ m) = true := decide_eq_true (by omega)
 have b2 : decide (m < 9223372036854775808) = true := decide_eq_true (by omega)
 have b3 : decide (2147483647 < m) = false := decide_eq_false (by omega)
 have b4 : decide (m < -2147483648) = false := decide_eq_false (by omega)
 have w32 : IntKind.i32.wrap m = m := IntWalk.i32_in _ (by omega)
 have w64 : IntKind.i64.wrap e = e := IntWalk.i64_in _ (by omega)
 have w32e : IntKind.i32.wrap e = e := IntWalk.i32_in _ (by omega)
 go_enter Tryz.func67, Tryz.ntmps67
 go_wp2_with fail
 rw [← hu0.out]
 refine (big_NewInt e _ (by omega) (by omega)).mono ?_
 rintro en w1 ⟨pe, rfl, hN⟩
 go_wp2_with fail
 refine (z_Mul (w.heap.size + 1 + 1) pn pe n e w1 (hz7.fr hN.fr (fun x => x)) ((hn.fr hA).fr hN.fr) hN.rd (by have := hN.old; omega) (by show (n : Int).natAbs < BB ^ 39; have : (1000 : Nat) < BB ^ 39 := (by decide +kernel); omega) (by show e.natAbs < BB ^ 39; have : (1000 : Nat) < BB ^ 39 := (by decide +kernel); omega) ((hG.fr hA).fr hN.fr).kar).mono ?_
 rintro en w2 ⟨rfl, hP⟩
 rw [hm] at hP
 have hP0 : NewZ w w2 (w.heap.size + 1 + 1) m := hP.new (hA.trans' hN.fr) (by omega)
 go_wp2_with fail
 refine (z_IsInt64 _ _ _ hP0.rd).mono ?_
 rintro en w3 ⟨rfl, rfl⟩
 rw [b1, b2, Bool.and_self]
 go_wp2_with fail
 refine (z_Int64 _ _ _ hP0.rd (by omega) (by omega)).mono ?_
 rintro en w3 ⟨rfl, rfl⟩
 go_wp2_with fail
 refine (z_Int64 _ _ _ hP0.rd (by omega) (by omega)).mono ?_
 rintro en w3 ⟨rfl, rfl⟩
 have D2 := (hP.fr.block _ (hN.fr.lt (zLt B2)) (by omega)).trans ((hN.fr.block _ (zLt B2) (fun x => x)).trans B2)
 have D4 := (hP.fr.block _ (hN.fr.lt (zLt B4)) (by omega)).trans ((hN.fr.block _ (zLt B4) (fun x => x)).trans B4)
 clear c20 c21 B2 B4
 obtain ⟨u3, hu3⟩ : ∃ u3 : World, Hid (u3 = w2.alloc (.cells #[.bool false, .slice none 0 0] TI (0, 0))) := ⟨_, Lib.hid rfl⟩
 have hA3 : Fr NoS w2 u3 := by rw [hu3.out]; exact (Fr.refl NoS w2).alloc _
 have hz3 : Zr u3 w2.heap.size := by rw [hu3.out]; exact Zr.made w2
 have G1 := sh_getValue px e u3 z ((hx.fr hP0.fr).fr hA3)
 have E2 := hA3.kp D2
 obtain ⟨d20, d21, _, _⟩ := cells2 E2
 rw [hu3.out] at G1 d20 d21
 go_wp2_with fail
 refine G1.mono ?_
 rintro en w4 ⟨rfl, hf4⟩
 rw [← hu3.out] at hf4
 have hF4 := hP0.fr.trans' (hA3.trans' hf4)
 have hG4 := hG.fr hF4
 go_wp2_with fail
 refine (z_Exp w2.heap.size px pn z n w4 (hz3.fr hf4 (fun x => x)) (hx.fr hF4) (hn.fr hF4) hn1 (Nat.lt_of_le_of_lt hn2 (by decide +kernel)) hs hsm hG4.bs hG4.ks hG4.kar).mono ?_
 rintro en w5 ⟨rfl, hP5⟩
 have hm5 : RI w5 (w.heap.size + 1 + 1) m := ((hP0.rd.fr hA3).fr hf4).put hP5 (by have := hP0.rd.lt; omega)
 have hN5 : NewZ w2 w5 w2.heap.size (z ^ n) := hP5.new (hA3.trans' hf4) (Nat.le_refl _)
 go_wp2_with fail
 refine (z_Int64 _ _ _ hm5 (by omega) (by omega)).mono ?_
 rintro en w6 ⟨rfl, rfl⟩
 have K4 := (hN5.fr.block _ (zLt D4) (fun x => x)).trans D4
 obtain ⟨k40, k41, kf0, kf1⟩ := cells2 K4
 have fin := (hN5.before hP0.fr).beside (((Fr.refl (fun k => k = w.heap.size + 1) _).setCell ⟨w.heap.size + 1, 0, none⟩ (.pointer (some ⟨w2.heap.size, 0, none⟩)) (.inr rfl)).setCell ⟨w.heap.size + 1, 1, none⟩ (.int .i32 m) (.inr rfl)) K4 (by decide) (by omega) (by have := (zLt D4); omega)
 have FIN := Lib.hid fin
 clear fin hN5 hP5 K4
 go_wp2
 exact bodyPost_ret (v := .tuple #[DV w2.heap.size m, .nilIface]) (by simp [results, Tryz.results67, go_sem, k40, k41]) rfl ⟨_, rfl, FIN.out⟩
end Go.Proofs.YtilmldfbmmcchaaGreatDoor
