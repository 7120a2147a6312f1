/- Long division of rows of words: the library's own text, walked. Conditions: each theorem bears its own. -/
import Derived.Recover
import Derived.Test.YtilmldfbmmcchaaGreatDoorZ18
set_option linter.unusedVariables false
set_option linter.unusedSimpArgs false
namespace Go.Proofs.YtilmldfbmmcchaaGreatDoor
open Go.RowKit
structure DivIn (w : World) (p b n m gu lu gQ lQ gv ov : Nat) (U V Q : Nat → Nat) (S : Option Held) : Prop where
 stk : Stk w p S
 base : ∀ k, StkB S k → b ≤ k
 hb : b ≤ w.heap.size
 u : BlkW w gu lu U
 ul : m + n ≤ lu
 v : Words w gv ov n V
 live : Live S gv ov n
 q : BlkW w gQ lQ Q
 ql : m ≤ lQ
 n2 : 2 ≤ n
 m1 : 1 ≤ m
 small : m + n ≤ 100000000
 short : slen S ≤ 100000000
 top : 9223372036854775808 ≤ V (n - 1)
 fits : U (m + n - 1) < V (n - 1)
 uQ : gu ≠ gQ
 vu : gv ≠ gu
 vQ : gv ≠ gQ
 up : gu ≠ p
 Qp : gQ ≠ p
 su : ∀ k, StkB S k → k ≠ gu ∧ k ≠ gQ
theorem mulWW (x y : Nat) (hx : x < BB) (hy : y < BB) (w : World) :
  Calls Tryz.prog 177 #[.int .u64 x, .int .u64 y] w fun e w' => ∃ h l : Nat, e = .returned (.tuple #[.int .u64 (h : Nat), .int .u64 (l : Nat)]) ∧ h < 18446744073709551616 ∧ l < 18446744073709551616 ∧ h * 18446744073709551616 + l = x * y ∧ w = w' := by
 rw [BB_eq] at hx hy
 have hb : x * y ≤ 18446744073709551615 * 18446744073709551615 := Nat.mul_le_mul (by omega) (by omega)
 have M := bits_Mul x y hx hy
 obtain ⟨h, hh⟩ : ∃ h, h = x * y / 18446744073709551616 := ⟨_, rfl⟩
 obtain ⟨l, hl⟩ : ∃ l, l = x * y % 18446744073709551616 := ⟨_, rfl⟩
 rw [← hh, ← hl] at M
 have H : Hid (h < 18446744073709551616 ∧ l < 18446744073709551616 ∧ h * 18446744073709551616 + l = x * y) := Lib.hid ⟨by omega, by omega, by omega⟩
 clear hh hl hb hx hy
 go_enter Tryz.func177, Tryz.ntmps177
 go_wp2_with (go_at_call 228; refine (M _).mono ?_; rintro e w' ⟨rfl, rfl⟩)
 go_ret2
 exact ⟨h, l, rfl, H.out.1, H.out.2.1, H.out.2.2, rfl⟩
theorem Words.keep {w w' : World} {gv ov n gq oq k sz len : Nat} {V F F' : Nat → Nat} (hv : Words w gv ov n V) (hb : Bs w gq sz len F) (hb' : Bs w' gq sz len F') (hold : ∀ j, j < oq ∨ oq + k ≤ j → F' j = F j) (hf : Fr (· = gq) w w') (hd : gv = gq → ov + n ≤ oq) (hl : oq ≤ len) : Words w' gv ov n V := by
 by_cases e : gv = gq
 ·subst e
  have := hd rfl
  refine ⟨fun j hj => ?_, hv.word⟩
  rw [hb'.cell (by omega), hold _ (by omega), ← hb.cell (by omega)]
  exact hv.cell j hj
 ·exact hv.fr hf e
theorem mulAddVWW_r (n gz oz sz lz cz gx ox cx y r : Nat) (R : Int) (hR : R = r) (F X : Nat → Nat) (w : World) (hz : Bs w gz sz lz F) (hx : Words w gx ox n X) (hzn : oz + n ≤ lz)
  (ha : gx = gz → ox = oz ∨ ox + n ≤ oz) (hy : y < BB) (hr : r < BB) :
  Calls Tryz.prog 231 #[.slice (some ⟨gz, oz, none⟩) n cz, .slice (some ⟨gx, ox, none⟩) n cx, .int .u64 y, .int .u64 R] w fun e w' =>
   ∃ (c : Nat) (G : Nat → Nat), e = .returned (.int .u64 c) ∧ c < BB ∧ Bs w' gz sz lz G ∧ (∀ j, j < oz ∨ oz + n ≤ j → G j = F j) ∧ Vb BB G oz n + BB ^ n * c = Vb BB X 0 n * y + r ∧ Fr (· = gz) w w' := by
 subst hR
 exact mulAddVWW_s n gz oz sz lz cz gx ox cx y r F X w hz hx hzn ha hy hr
theorem V_top_lt' {U V : Nat → Nat} {o n : Nat} (hU : ∀ j, j < n → U (o + j) < BB) (h : U (o + n) < V n) : Vb BB U o (n + 1) < Vb BB V 0 (n + 1) := by
 rw [V_succ, V_succ, Nat.zero_add]
 have h1 : Vb BB U o n < BB ^ n := V_lt hU
 have h2 := Nat.mul_le_mul_left (BB ^ n) (show U (o + n) + 1 ≤ V n from h)
 rw [Nat.mul_add, Nat.mul_one] at h2
 omega
theorem none_left {a n c x : Nat} (h : a + BB ^ n * c = x * 0 + 0) : c = 0 ∧ a = 0 := by
 rcases Nat.eq_zero_or_pos c with h0 | h0
 ·exact ⟨h0, by omega⟩
 ·have := Nat.mul_pos (Nat.pow_pos (n := n) BB_pos) h0; omega
theorem no_borrow {a b n c x : Nat} (h : a + BB ^ n * c = b + x) (hx : x = 0) (hb : b < BB ^ n) (hc : c ≤ 1) : c = 0 ∧ a = b := by
 rcases Nat.eq_zero_or_pos c with h0 | h0
 ·subst h0; exact ⟨rfl, by omega⟩
 ·obtain rfl : c = 1 := by omega
  omega
def DInv (m n v N uj K : Nat) (U G Q : Nat → Nat) : Prop :=
 (K = m + 1 ∧ uj = 0 ∧ ∀ j, j < m + n → G j = U j) ∨
 (K ≤ m ∧ uj = G (K + n - 1) ∧ N = Vb BB Q K (m - K) * v * BB ^ K + Vb BB G 0 (K + n) ∧ Vb BB G K n < v ∧ ∀ j, K + n ≤ j → j < m + n → G j = 0)
set_option maxHeartbeats 8000000 in
set_option maxRecDepth 100000 in
theorem divBasic (p b n m gu lu cu gQ lQ cQ gv ov cv : Nat) (U V Q : Nat → Nat) (S : Option Held) (w : World) (h : DivIn w p b n m gu lu gQ lQ gv ov U V Q S) (hcu : m + n ≤ cu) (hcQ : m ≤ cQ) (hcv : n ≤ cv) :
  Calls Tryz.prog 257 #[.slice (some ⟨gQ, 0, none⟩) m cQ, .pointer (some ⟨p, 0, none⟩), .slice (some ⟨gu, 0, none⟩) ((m + n : Nat)) cu, .slice (some ⟨gv, ov, none⟩) n cv] w fun e w' =>
   ∃ (G Q' : Nat → Nat) (S' : Option Held), e = .returned (.tuple #[]) ∧ BlkW w' gu lu G ∧ BlkW w' gQ lQ Q' ∧ Vb BB U 0 (m + n) = Vb BB Q' 0 m * Vb BB V 0 n + Vb BB G 0 n ∧ Vb BB G 0 n < Vb BB V 0 n ∧ (∀ j, n ≤ j → j < m + n → G j = 0) ∧
    Stk w' p S' ∧ (∀ k, StkB S' k → b ≤ k) ∧ Fr (fun k => k = gu ∨ k = gQ ∨ k = p ∨ b ≤ k) w w' := by
 have hn2 := h.n2
 have hm1 := h.m1
 have hsm := h.small
 have e1 : ((m + n : Nat) : Int) - n = m := by omega
 obtain ⟨v1, hv1⟩ : ∃ v1, Hid (v1 = V (n - 1)) := ⟨_, Lib.hid rfl⟩
 have hv1B : v1 < BB := by rw [hv1.out]; exact h.v.word _ (by omega)
 have hv1T : 9223372036854775808 ≤ v1 := by rw [hv1.out]; exact h.top
 obtain ⟨n1, hn1⟩ : ∃ n1, Hid (n = n1 + 1) := ⟨n - 1, Lib.hid (by omega)⟩
 have e2 : (n : Int) - 1 = n1 := by have := hn1.out; omega
 have hn1n : n1 < n := by have := hn1.out; omega
 obtain ⟨sh, hsh⟩ := shift_of v1 (by omega) hv1B
 obtain rfl := hsh.zero hv1T
 go_enter_defers Tryz.func257, Tryz.ntmps257
 go_wp2_with fail
 refine (stack_save p S _ h.stk).mono ?_
 rintro e w1 ⟨rfl, rfl⟩
 go_wp2_with fail
 refine (stack_nat p (n + 1) b S _ h.stk h.base h.hb (by omega) (by have := h.short; omega)).mono ?_
 rintro e w1 ⟨gq, oq, cq, szq, lenq, Fq, S1, rfl, hT⟩
 obtain ⟨hVw, hVlive, hVq⟩ := hT.keep gv ov n V (by omega) h.v h.live
 have cv1 : w1.cell? ⟨gv, ov + n1, none⟩ = some (.int .u64 v1) := by rw [hVw.cell n1 hn1n, hv1.out]; have := hn1.out; rw [show n1 = n - 1 by omega]
 go_wp2_with fail
 refine (reciprocalWord v1 0 hsh _).mono ?_
 rintro e w2 ⟨rec, rfl, hrec, kd, rfl⟩
 rw [Nat.pow_zero, Nat.mul_one] at hrec
 go_wp2_with fail
 have hTb := hT.bs.drewN kd
 have hul := h.u.lt
 have hQl := h.q.lt
 have hgq : gq ≠ gu ∧ gq ≠ gQ := by
  rcases hT.gnew with e | e
  ·exact h.su gq e
  ·exact ⟨by omega, by omega⟩
 have hnot : ∀ k, k = gu ∨ k = gQ → ¬ (k = p ∨ StkB S k) := by
  rintro k (rfl | rfl) (e | e)
  ·exact h.up e
  ·exact (h.su _ e).1 rfl
  ·exact h.Qp e
  ·exact (h.su _ e).2 rfl
 have hqs : ∀ s, S1 = some s → s.q ≠ gu ∧ s.q ≠ gQ ∧ s.q ≠ gq := by
  intro s hs
  have hst := hT.stk
  rw [hs] at hst
  have h5 := hst.2.1.2.2.2
  rw [(hT.buf s hs).1] at h5
  refine ⟨?_, ?_, fun e => h5 e.symm⟩
  ·rcases hT.new s.q ⟨s, hs, .inl rfl⟩ with e | e
   ·exact (h.su _ e).1
   ·omega
  ·rcases hT.new s.q ⟨s, hs, .inl rfl⟩ with e | e
   ·exact (h.su _ e).2
   ·omega
 have hqd : gv = gq → ov + n ≤ oq := hVq
 have hfit := hT.fit
 have hcap := hT.cap
 have hu1 : BlkW (w1.drewN kd) gu lu U := (h.u.fr hT.fr (hnot gu (.inl rfl))).drewN kd
 have hq1 : BlkW (w1.drewN kd) gQ lQ Q := (h.q.fr hT.fr (hnot gQ (.inr rfl))).drewN kd
 have HN := Lib.hid hnot
 have HQS := Lib.hid hqs
 clear hnot hqs
 have HH := Lib.hid h
 have HT := Lib.hid hT
 clear hT h
 go_loopw [13, 14] (fun x i wr => ∃ (K uj : Nat) (G GQ F : Nat → Nat), K ≤ m + 1 ∧ i = .int .i64 ((K : Int) - 1) ∧ x = .int .u64 uj ∧ BlkW wr gu lu G ∧ BlkW wr gQ lQ GQ ∧ Bs wr gq szq lenq F ∧ Words wr gv ov n V ∧ Hid (DInv m n (Vb BB V 0 n) (Vb BB U 0 (m + n)) uj K U G GQ) ∧ Fr (fun k => k = gu ∨ k = gQ ∨ k = gq) w1 wr)
  (fun _ i _ => (intOf i + 1).toNat)
 case atStart => exact ⟨m + 1, 0, U, Q, Fq, Nat.le_refl _, by go_num, rfl, hu1, hq1, hTb, hVw.fr ((Fr.refl NoS _).drewN _) (fun x => x), .inl ⟨rfl, rfl, fun _ _ => rfl⟩, (Fr.refl _ _).drewN _⟩
 case round =>
  obtain ⟨K, uj, G, GQ, F, hK, rfl, rfl, hG, hGQ, hF, hV, hI, hfr⟩ := hrel
  rcases Nat.eq_zero_or_pos K with hK0 | hK0
  ·subst hK0
   have g1 : decide ((0 : Int) ≤ ((0 : Nat) : Int) - 1) = false := by simp
   go_wp2
   have hstk := HT.out.stk_after hF hfr (by rintro (e | e | e); exact HH.out.up e.symm; exact HH.out.Qp e.symm; exact HT.out.gp e.symm) (fun s hs => by
    obtain ⟨a1, a2, a3⟩ := HQS.out s hs
    rintro (e | e | e)
    ·exact a1 e
    ·exact a2 e
    ·exact a3 e)
   refine leaves_cons (f := 185) (args := #[.pointer (some ⟨p, 0, none⟩), .int .i64 (slen S : Nat)]) (by simp) (by simp [go_sem]) ?_
   refine (stack_restore_later p b (slen S) _ S1 wr hstk HT.out.grow).mono ?_
   rintro e u' w3 ⟨rfl, rfl, hB⟩
   have hI0 := hI.out
   rcases hI0 with ⟨hk, _⟩ | ⟨_, _, hN, hlt, hz⟩
   ·omega
   obtain ⟨S3, hS3, _, hS3b⟩ := hB.stk
   have hu3 : BlkW w3 gu lu G := hG.of_eq (hB.heap gu (fun s hs e => (HQS.out s hs).1 e.symm))
   have hQ3 : BlkW w3 gQ lQ GQ := hGQ.of_eq (hB.heap gQ (fun s hs e => (HQS.out s hs).2.1 e.symm))
   have hb3 : ∀ k, StkB S3 k → b ≤ k := fun k hk => HT.out.base k (hS3b k hk)
   have hF3 : Fr (fun k => k = gu ∨ k = gQ ∨ k = p ∨ b ≤ k) w w3 := by
    have fa := HT.out.fr.mono (S' := fun k => k = gu ∨ k = gQ ∨ k = p ∨ b ≤ k) (fun k _ x => x.elim (fun e => .inr (.inr (.inl e))) (fun e => .inr (.inr (.inr (HH.out.base k e)))))
    have fb := hfr.mono (S' := fun k => k = gu ∨ k = gQ ∨ k = p ∨ b ≤ k) (fun k _ x => by
     rcases x with e | e | e
     ·exact .inl e
     ·exact .inr (.inl e)
     ·exact .inr (.inr (.inr (e ▸ HT.out.gb))))
    have fc := hB.fr.mono (S' := fun k => k = gu ∨ k = gQ ∨ k = p ∨ b ≤ k) (fun k _ x => .inr (.inr (.inr (HT.out.base k x.1))))
    exact (fa.trans fb (fun _ _ x => x)).trans fc (fun _ _ x => x)
   have hv0 : Vb BB U 0 (m + n) = Vb BB GQ 0 m * Vb BB V 0 n + Vb BB G 0 n := by
    rw [Nat.sub_zero, Nat.pow_zero, Nat.mul_one, Nat.zero_add] at hN
    exact hN
   have FIN := Lib.hid (⟨hu3, hQ3, hv0, hlt, fun j h1 h2 => hz j (by omega) h2, hS3, hb3, hF3⟩ : BlkW w3 gu lu G ∧ BlkW w3 gQ lQ GQ ∧ Vb BB U 0 (m + n) = Vb BB GQ 0 m * Vb BB V 0 n + Vb BB G 0 n ∧ Vb BB G 0 n < Vb BB V 0 n ∧ (∀ j, n ≤ j → j < m + n → G j = 0) ∧ Stk w3 p S3 ∧ (∀ k, StkB S3 k → b ≤ k) ∧ Fr (fun k => k = gu ∨ k = gQ ∨ k = p ∨ b ≤ k) w w3)
   simp [Leaves, settle, results, Tryz.results257, go_sem]
   exact ⟨G, FIN.out.1, GQ, FIN.out.2.1, FIN.out.2.2.1, FIN.out.2.2.2.1, FIN.out.2.2.2.2.1, S3, FIN.out.2.2.2.2.2.1, FIN.out.2.2.2.2.2.2.1, FIN.out.2.2.2.2.2.2.2⟩
  ·obtain ⟨k, rfl⟩ : ∃ j, K = j + 1 := ⟨K - 1, by omega⟩
   have g0 : ((k + 1 : Nat) : Int) - 1 = k := by omega
   rw [g0]
   have g1 : decide ((0 : Int) ≤ (k : Int)) = true := decide_eq_true (by omega)
   obtain ⟨n2, hn2'⟩ : ∃ n2, Hid (n = n2 + 2) := ⟨n - 2, Lib.hid (by omega)⟩
   have e3 : (k : Int) + (n : Int) - 1 = ((k + n1 : Nat) : Int) := by have := hn1.out; omega
   have e4 : (k : Int) + (n : Int) - 2 = ((k + n2 : Nat) : Int) := by have := hn2'.out; omega
   have e5 : (n : Int) - 2 = (n2 : Nat) := by have := hn2'.out; omega
   have hn2n : n2 < n := by have := hn2'.out; omega
   have hk1 : k + n1 < m + n := by omega
   have hk2 : k + n2 < m + n := by omega
   obtain ⟨u1, hu1'⟩ : ∃ u1, Hid (u1 = G (k + n1)) := ⟨_, Lib.hid rfl⟩
   obtain ⟨u0, hu0'⟩ : ∃ u0, Hid (u0 = G (k + n2)) := ⟨_, Lib.hid rfl⟩
   obtain ⟨v2, hv2'⟩ : ∃ v2, Hid (v2 = V n2) := ⟨_, Lib.hid rfl⟩
   have hu1B : u1 < 18446744073709551616 := by rw [hu1'.out]; exact hG.word _ (by have := HH.out.ul; omega)
   have hu0B : u0 < 18446744073709551616 := by rw [hu0'.out]; exact hG.word _ (by have := HH.out.ul; omega)
   have hv2B : v2 < BB := by rw [hv2'.out]; exact hV.word _ hn2n
   have cu1 : wr.cell? ⟨gu, k + n1, none⟩ = some (.int .u64 u1) := by rw [hG.cell (by have := HH.out.ul; omega), ← hu1'.out]
   have cu0 : wr.cell? ⟨gu, k + n2, none⟩ = some (.int .u64 u0) := by rw [hG.cell (by have := HH.out.ul; omega), ← hu0'.out]
   have cv2 : wr.cell? ⟨gv, ov + n2, none⟩ = some (.int .u64 v2) := by rw [hV.cell _ hn2n, ← hv2'.out]
   have hI0 := hI.out
   rcases hI0 with ⟨hkm, rfl, hGU⟩ | ⟨hkm, huj, hN, hlt, hz⟩
   ·obtain rfl : k = m := by omega
    have t1 : (((0 : Nat) : Int) != (v1 : Int)) = true := by simp; omega
    have hu1v : u1 < v1 := by
     rw [hu1'.out, hv1.out, hGU _ hk1]
     have := HH.out.fits
     have := hn1.out
     rwa [show k + n1 = k + n - 1 by omega]
    go_wp2_with fail
    refine (divWW 0 u1 v1 0 rec _ hsh (by rw [Nat.pow_zero, Nat.mul_one]; exact hrec) (by omega) hu1B).mono ?_
    rintro e w4 ⟨qd, rd, rfl, hqr, hrd, rfl⟩
    obtain rfl : qd = 0 := by
     refine Nat.eq_zero_of_not_pos fun h0 => ?_
     have := Nat.mul_le_mul_right v1 h0
     omega
    obtain rfl : rd = u1 := by omega
    clear hqr hrd
    go_wp2_with fail
    refine (mulWW 0 v2 (by rw [BB_eq]; omega) hv2B _).mono ?_
    rintro e w4 ⟨x1, x2, rfl, hx1, hx2, hx12, rfl⟩
    obtain rfl : x1 = 0 := by rw [Nat.zero_mul] at hx12; omega
    obtain rfl : x2 = 0 := by rw [Nat.zero_mul] at hx12; omega
    clear hx1 hx2 hx12
    go_wp2_with fail
    go_loop [15, 16, 18, 19] (fun a b c d => a = .int .u64 ((0 : Nat) : Int) ∧ b = .int .u64 rd ∧ c = .int .u64 ((0 : Nat) : Int) ∧ d = .int .u64 ((0 : Nat) : Int)) (fun _ _ _ _ => 0)
    case atStart => exact ⟨rfl, rfl, rfl, rfl⟩
    case round =>
     obtain ⟨rfl, rfl, rfl, rfl⟩ := hrel
     have hgt := greaterThan 0 0 rd u0
     rw [decide_eq_false (by omega)] at hgt
     go_wp2_with fail
     refine (hgt _).mono ?_
     rintro e w4 ⟨rfl, rfl⟩
     go_wp2_with fail
     refine (mulAddVWW_r n gq oq szq lenq cq gv ov cv 0 0 0 rfl F V _ hF hV (by omega) (fun e => .inr (hqd e)) BB_pos BB_pos).mono ?_
     rintro e w4 ⟨c1, F1, rfl, hc1, hF1, hold1, hval1, hf1⟩
     obtain ⟨hc10, hz1⟩ := none_left hval1
     subst hc10
     have cq1 := hF1.cell (j := oq + n) (by omega)
     have fq1 := hF1.free (oq + n)
     have b1 : decide ((k : Int) + ((n : Int) + 1) > ((k : Int) + (n : Int))) = true := decide_eq_true (by omega)
     have b2 : decide ((k : Int) + (n : Int) < (k : Int) + ((n : Int) + 1)) = true := decide_eq_true (by omega)
     have b3 : (n : Int) + 1 - 1 = n := by omega
     go_wp2_with fail
     have hF2 : Bs (w4.setCell ⟨gq, oq + n, none⟩ (.int .u64 0)) gq szq lenq (upd F1 (oq + n) 0) := hF1.store (i := oq + n) (x := 0) BB_pos
     have hG2 : BlkW (w4.setCell ⟨gq, oq + n, none⟩ (.int .u64 0)).drew gu lu G := ((hG.fr hf1 (fun e => hgq.1 e.symm)).other (p := ⟨gq, oq + n, none⟩) hgq.1 (.int .u64 0)).drew
     have hX2 := Words.of_blk hG2 (o := k) (n := n) (by have := HH.out.ul; omega)
     have hY2 := hF2.drew.words (o := oq) (n := n) (by omega)
     have q1 : IntKind.i64.wrap ((k : Int) + n) = k + n := IntWalk.i64_in _ (by omega)
     have q3 : (0 : Int) ≤ k := by omega
     have q4 : (k : Int) ≤ k + n := by omega
     have q5 : (k : Int) + n ≤ cu := by omega
     have q6 : ((k : Int) + n).toNat = k + n := by omega
     have q10 : k + n - k = n := by omega
     have q11 : n ≤ cq := by omega
     have q12 : (n : Int) ≤ cq := by omega
     refine wp_region_noPanic ?_
     go_region_with (go_at_call 143; (with_reducible refine (subVV n gu k lu (cu - k) gu k (cu - k) gq oq cq G _ _ _ hG2 hX2 hY2 (by have := HH.out.ul; omega) (fun _ => rfl) (fun e => absurd e hgq.1)).mono ?_); rintro e w5 ⟨c5, G5, rfl, hc5, hb5, hold5, hv5, hf5⟩)
     refine NoPanic.normal ?_
     have eX : Vb BB (fun j => G (k + j)) 0 n = Vb BB G k n := V_congr (fun j hj => by rw [Nat.zero_add])
     have eY : Vb BB (fun j => upd F1 (oq + n) 0 (oq + j)) 0 n = Vb BB F1 oq n := V_congr (fun j hj => by rw [Nat.zero_add]; exact upd_other _ _ _ _ (by omega))
     have hG5 : Vb BB G5 k n < BB ^ n := V_lt (fun j hj => hb5.word _ (by have := HH.out.ul; omega))
     rw [eX, eY, hz1] at hv5
     obtain ⟨hc50, hv50⟩ := no_borrow hv5 rfl hG5 hc5
     subst hc50
     obtain ⟨u5, hu5⟩ : ∃ u5, Hid (u5 = G5 (k + n1)) := ⟨_, Lib.hid rfl⟩
     have cu5 : w5.cell? ⟨gu, k + n1, none⟩ = some (.int .u64 u5) := by rw [hb5.cell (by have := HH.out.ul; omega), ← hu5.out]
     have hV5 : Words w5 gv ov n V := by
      have h1 : Words (w4.setCell ⟨gq, oq + n, none⟩ (.int .u64 0)) gv ov n V := hV.keep (k := n + 1) hF hF2 (fun j hj => by rw [upd_other _ _ _ _ (by omega)]; exact hold1 j (by omega)) (hf1.setCell _ _ (.inr rfl)) hqd (by omega)
      exact (h1.fr ((Fr.refl NoS _).drew) (fun x => x)).fr hf5 HH.out.vu
     have hQ5 : BlkW w5 gQ lQ GQ := (((hGQ.fr hf1 (fun e => hgq.2 e.symm)).other (p := ⟨gq, oq + n, none⟩) hgq.2 (.int .u64 0)).drew).fr hf5 (fun e => HH.out.uQ e.symm)
     have hq5 : Bs w5 gq szq lenq (upd F1 (oq + n) 0) := hF2.drew.fr hf5 hgq.1
     have hfr5 : Fr (fun k => k = gu ∨ k = gQ ∨ k = gq) w1 w5 := by
      have h1 := hf1.mono (S' := fun k => k = gu ∨ k = gQ ∨ k = gq) (fun _ _ e => .inr (.inr e))
      have h2 := (h1.setCell ⟨gq, oq + n, none⟩ (.int .u64 0) (.inr (.inr (.inr rfl)))).drew
      exact (hfr.trans h2 (fun _ _ x => x)).trans hf5 (fun _ _ e => .inl e)
     have hval : Vb BB U 0 (k + n) = Vb BB G5 0 (k + n) := by
      have a1 : Vb BB U 0 (k + n) = Vb BB G 0 (k + n) := V_congr (fun j hj => by rw [Nat.zero_add]; exact (hGU j hj).symm)
      have a2 : Vb BB G 0 k = Vb BB G5 0 k := V_congr (fun j hj => by rw [Nat.zero_add]; exact (hold5 j (.inl hj)).symm)
      rw [a1, V_add, V_add BB G5, Nat.zero_add, hv50, a2]
     have hless : Vb BB G5 k n < Vb BB V 0 n := by
      rw [← hv50, V_congr (F := G) (G := U) (o' := k) (fun j hj => hGU _ (by omega))]
      have h1 := V_top_lt' (U := U) (V := V) (o := k) (n := n1) (fun j hj => HH.out.u.word _ (by have := HH.out.ul; omega)) (by have := HH.out.fits; rw [← hGU _ hk1, ← hu1'.out]; have := hv1.out; have := hn1.out; rw [show n1 = n - 1 by omega, ← hv1.out]; exact hu1v)
      rw [← hn1.out] at h1
      exact h1
     have HINV : Hid (DInv k n (Vb BB V 0 n) (Vb BB U 0 (k + n)) u5 k U G5 GQ) := .inr ⟨Nat.le_refl _, by rw [hu5.out]; have := hn1.out; rw [show k + n1 = k + n - 1 by omega], by rw [Nat.sub_self, V_zero, Nat.zero_mul, Nat.zero_mul, Nat.zero_add]; exact hval, hless, fun j h1 h2 => by omega⟩
     have b4 : (((0 : Nat) : Int) != 0) = false := by simp
     have b5 : ((k : Int) == (k : Int)) = true := by simp
     clear hval hless hv5 hv50 eX eY hG5 hz1 hval1 hold1 hold5
     go_wp2
     exact ⟨⟨k, u5, G5, GQ, _, by omega, rfl, rfl, hb5, hQ5, hq5, hV5, HINV, hfr5⟩, by simp [intOf]⟩
   ·have hkm2 : k < m := by omega
    have hjn : k + n < m + n := by omega
    have HNN := Lib.hid hN
    have HZ := Lib.hid hz
    have HLT := Lib.hid hlt
    have huj2 : Hid (uj = G (k + n)) := Lib.hid (by rw [huj]; rw [show k + 1 + n - 1 = k + n by omega])
    have hujB : uj < 18446744073709551616 := by rw [huj2.out]; exact hG.word _ (by have := HH.out.ul; omega)
    have hvw : ∀ j, j < n → V j < BB := hV.word
    have hvp : 0 < Vb BB V 0 n := Nat.lt_of_le_of_lt (Nat.zero_le _) hlt
    have HVB : Hid (Vb BB V 0 n < BB ^ n) := Lib.hid (V_lt (fun j hj => by rw [Nat.zero_add]; exact hvw j hj))
    have hGd : Hid (Guess (Vb BB G k (n + 1)) (Vb BB V 0 n) (v1 * BB + v2) ((uj * BB + u1) * BB + u0) (Vb BB G k (n + 1) / Vb BB V 0 n)) := Lib.hid (guess_of hn1.out hn2'.out huj2.out hu1'.out hu0'.out hv1.out hv2'.out hvw (fun j hj => hG.word _ (by have := HH.out.ul; omega)) (by omega))
    have hujv : uj ≤ v1 := by
     rw [huj2.out, hv1.out]
     have h1 := top_le (U := G) (V := V) (o := k + 1) (n := n1) (by have := hn1.out; rw [← this]; exact hlt) (fun j hj => hvw j (by omega))
     have := hn1.out
     rw [show n - 1 = n1 by omega, show k + n = k + 1 + n1 by omega]
     exact h1
    have hqB2 : Hid (Vb BB G k (n + 1) / Vb BB V 0 n < BB) := Lib.hid (by
     rw [Nat.div_lt_iff_lt_mul hvp, V_cons]
     have h1 := hG.word k (by have := HH.out.ul; omega)
     have h2 := Nat.mul_le_mul_left BB (show Vb BB G (k + 1) n + 1 ≤ Vb BB V 0 n from hlt)
     rw [Nat.mul_add] at h2
     have h3 : capK .u64 = BB := rfl
     rw [h3] at h1
     omega)
    clear hN hz hlt huj hvw
    by_cases hjv : uj = v1
    ·have t1 : ((uj : Int) != (v1 : Int)) = false := by simp; omega
     obtain ⟨qh, hqh⟩ : ∃ qh : Nat, Hid (qh = 18446744073709551615) := ⟨_, Lib.hid rfl⟩
     have eqh : (18446744073709551615 : Int) = (qh : Int) := by rw [hqh.out]; rfl
     have hqB : qh < BB := by rw [hqh.out, BB_eq]; omega
     have hge : Hid (Vb BB G k (n + 1) / Vb BB V 0 n ≤ qh) := Lib.hid (by have h1 := hqB2.out; rw [BB_eq] at h1; rw [hqh.out]; exact Nat.le_of_lt_succ h1)
     have hle : Hid (qh ≤ Vb BB G k (n + 1) / Vb BB V 0 n + 1) := Lib.hid (by
      rw [hqh.out]
      have h1 := max_guess (G := G) (V := V) (k := k) (n := n1) (by have := hn1.out; rw [show k + 1 + n1 = k + n by omega, ← huj2.out, hjv, hv1.out]; rw [show n - 1 = n1 by omega]) (by rw [show n1 = n - 1 by (have := hn1.out; omega), ← hv1.out]; exact hv1T) (fun j hj => by have := hV.word j (by omega); exact this)
      have h2 := hn1.out
      rw [← h2] at h1
      have h3 := Nat.succ_le_succ ((Nat.le_div_iff_mul_le hvp).2 h1)
      exact h3)
     rw [eqh]
     go_wp2_with fail
     refine (mulAddVWW_r n gq oq szq lenq cq gv ov cv qh 0 0 rfl F V _ hF hV (by omega) (fun e => .inr (hqd e)) hqB BB_pos).mono ?_
     rintro e w4 ⟨c1, F1, rfl, hc1, hF1, hold1, hval1, hf1⟩
     have cq1 := hF1.cell (j := oq + n) (by omega)
     have fq1 := hF1.free (oq + n)
     have b1 : decide ((m : Int) + (n : Int) < (k : Int) + ((n : Int) + 1)) = false := decide_eq_false (by omega)
     have hF2 : Bs (w4.setCell ⟨gq, oq + n, none⟩ (.int .u64 (c1 : Nat))) gq szq lenq (upd F1 (oq + n) c1) := hF1.store (i := oq + n) (x := c1) hc1
     have hG2 : BlkW (w4.setCell ⟨gq, oq + n, none⟩ (.int .u64 (c1 : Nat))).drew gu lu G := ((hG.fr hf1 (fun e => hgq.1 e.symm)).other (p := ⟨gq, oq + n, none⟩) hgq.1 (.int .u64 (c1 : Nat))).drew
     have hX2 := Words.of_blk hG2 (o := k) (n := n + 1) (by have := HH.out.ul; omega)
     have hY2 := hF2.drew.words (o := oq) (n := n + 1) (by omega)
     have hV2 : Words (w4.setCell ⟨gq, oq + n, none⟩ (.int .u64 (c1 : Nat))).drew gv ov n V := (hV.keep (k := n + 1) hF hF2 (fun j hj => by rw [upd_other _ _ _ _ (by omega)]; exact hold1 j (by omega)) (hf1.setCell _ _ (.inr rfl)) hqd (by omega)).fr ((Fr.refl NoS _).drew) (fun x => x)
     have hQ2 : BlkW (w4.setCell ⟨gq, oq + n, none⟩ (.int .u64 (c1 : Nat))).drew gQ lQ GQ := ((hGQ.fr hf1 (fun e => hgq.2 e.symm)).other (p := ⟨gq, oq + n, none⟩) hgq.2 (.int .u64 (c1 : Nat))).drew
     have hfr2 : Fr (fun k => k = gu ∨ k = gQ ∨ k = gq) w1 (w4.setCell ⟨gq, oq + n, none⟩ (.int .u64 (c1 : Nat))).drew := hfr.trans (((hf1.mono (S' := fun k => k = gu ∨ k = gQ ∨ k = gq) (fun _ _ e => .inr (.inr e))).setCell ⟨gq, oq + n, none⟩ (.int .u64 (c1 : Nat)) (.inr (.inr (.inr rfl)))).drew) (fun _ _ x => x)
     have eQ : Hid (Vb BB (fun j => upd F1 (oq + n) c1 (oq + j)) 0 (n + 1) = qh * Vb BB V 0 n) := Lib.hid (by
      rw [V_congr (F := fun j => upd F1 (oq + n) c1 (oq + j)) (G := upd F1 (oq + n) c1) (o' := oq) (fun j hj => by rw [Nat.zero_add]), V_upd_succ, hval1, Nat.add_zero, Nat.mul_comm])
     have eX : Hid (Vb BB (fun j => G (k + j)) 0 (n + 1) = Vb BB G k (n + 1)) := Lib.hid (V_congr (fun j hj => by rw [Nat.zero_add]))
     have q1 : IntKind.i64.wrap ((k : Int) + ((n : Int) + 1)) = (k : Int) + ((n : Int) + 1) := IntWalk.i64_in _ (by omega)
     have q3 : (0 : Int) ≤ k := by omega
     have q4 : (k : Int) ≤ (k : Int) + ((n : Int) + 1) := by omega
     have q5 : (k : Int) + ((n : Int) + 1) ≤ cu := by omega
     have q6 : ((k : Int) + ((n : Int) + 1)).toNat = k + (n + 1) := by omega
     have q10 : k + (n + 1) - k = n + 1 := by omega
     have q11 : n + 1 ≤ cq := by omega
     have q12 : (n : Int) + 1 ≤ cq := by omega
     have q13 : (0 : Int) ≤ (n : Int) + 1 := by omega
     have q14 : ((n : Int) + 1).toNat = n + 1 := by omega
     clear hval1 hold1
     go_wp2_with fail
     refine wp_region_noPanic ?_
     go_region_with (go_at_call 143; (with_reducible refine (subVV (n + 1) gu k lu (cu - k) gu k (cu - k) gq oq cq G _ _ _ hG2 hX2 hY2 (by have := HH.out.ul; omega) (fun _ => rfl) (fun e => absurd e hgq.1)).mono ?_); rintro e w5 ⟨c5, G5, rfl, hc5, hb5, hold5, hv5, hf5⟩)
     refine NoPanic.normal ?_
     rw [eX.out, eQ.out] at hv5
     clear q1 q4 q5 q6 q10 q11 q12 q13 q14
     have hV5 := hV2.fr hf5 HH.out.vu
     have hQ5 := hQ2.fr hf5 (fun e => HH.out.uQ e.symm)
     have hq5 := hF2.drew.fr hf5 hgq.1
     have hfr5 := hfr2.trans hf5 (fun _ _ e => .inl e)
     have hG5l : Vb BB G5 k (n + 1) < BB ^ (n + 1) := V_lt (fun j hj => hb5.word _ (by have := HH.out.ul; omega))
     rcases Nat.eq_zero_or_pos c5 with hc0 | hc0
     ·subst hc0
      obtain ⟨hq, hsum, hRv⟩ := right_guess (q := Vb BB G k (n + 1) / Vb BB V 0 n) rfl hge.out hvp hv5 rfl
      rw [← hq] at hsum
      have hrest := rest_low rfl (Nat.lt_trans hRv HVB.out)
      have hlow : ∀ j, j < k → G5 j = G j := fun j hj => hold5 j (.inl hj)
      have hhigh : ∀ j, k + n + 1 ≤ j → G5 j = G j := fun j hj => hold5 j (.inr (by omega))
      have b4 : (((0 : Nat) : Int) != 0) = false := by simp
      have hbF := hb5
      have hQF := hQ5
      have hqF := hq5
      have hVF := hV5
      have hfrF := hfr5
      have qhB : qh < BB := hqB
      clear hv5 hG5l hq hold5
      obtain ⟨u5, hu5⟩ : ∃ u5, Hid (u5 = G5 (k + n1)) := ⟨_, Lib.hid rfl⟩
      have cu5 := hbF.cell (j := k + n1) (by have := HH.out.ul; omega)
      rw [← hu5.out] at cu5
      have cQ5 := hQF.cell (j := k) (by have := HH.out.ql; omega)
      have fQ5 := hQF.free k
      have hQ6 := hQF.store (i := k) (x := qh) qhB
      have HINV : Hid (DInv m n (Vb BB V 0 n) (Vb BB U 0 (m + n)) u5 k U G5 (upd GQ k qh)) := .inr ⟨by omega, by rw [hu5.out]; have := hn1.out; rw [show k + n1 = k + n - 1 by omega], bas_step hkm2 HNN.out hsum hlow hrest.1, by rw [hrest.1]; exact hRv, fun j h1 h2 => by
       by_cases e : j = k + n
       ·rw [e]; exact hrest.2
       ·rw [hhigh j (by omega)]; exact HZ.out j (by omega) h2⟩
      have HFR := Lib.hid (hfrF.setCell ⟨gQ, k, none⟩ (.int .u64 (qh : Nat)) (.inr (.inr (.inl rfl))))
      have HBU := Lib.hid (hbF.other (p := ⟨gQ, k, none⟩) (fun e => HH.out.uQ e.symm) (.int .u64 (qh : Nat)))
      have HBQ := Lib.hid (hqF.of_eq (heap_setCell_other _ ⟨gQ, k, none⟩ gq (.int .u64 (qh : Nat)) hgq.2))
      have HVF := Lib.hid (hVF.fr ((Fr.refl (· = gQ) _).setCell ⟨gQ, k, none⟩ (.int .u64 (qh : Nat)) (.inr rfl)) HH.out.vQ)
      have b6 : ((k : Int) == (m : Int)) = false := by simp; omega
      clear hsum hlow hrest hRv hhigh
      go_wp2
      exact ⟨⟨k, u5, G5, upd GQ k qh, _, by omega, rfl, rfl, HBU.out, hQ6, HBQ.out, HVF.out, HINV, HFR.out⟩, by simp [intOf]⟩
     ·obtain rfl : c5 = 1 := by omega
      have b4 : (((1 : Nat) : Int) != 0) = true := by simp
      have hG3 := hb5.drew
      have hX3 := Words.of_blk hG3 (o := k) (n := n) (by have := HH.out.ul; omega)
      have hV3 : Words w5.drew gv ov n V := hV5.fr ((Fr.refl NoS _).drew) (fun x => x)
      have q1 : IntKind.i64.wrap ((k : Int) + (n : Int)) = (k : Int) + (n : Int) := IntWalk.i64_in _ (by omega)
      have q4 : (k : Int) ≤ (k : Int) + (n : Int) := by omega
      have q5 : (k : Int) + (n : Int) ≤ cu := by omega
      have q6 : ((k : Int) + (n : Int)).toNat = k + n := by omega
      have q10 : k + n - k = n := by omega
      go_wp2_with fail
      refine wp_region_noPanic ?_
      go_region_with (go_at_call 218; (with_reducible refine (addVV n gu k lu (cu - k) gu k (cu - k) gv ov cv G5 _ V _ hG3 hX3 hV3 (by have := HH.out.ul; omega) (fun _ => rfl) (fun e => absurd e HH.out.vu)).mono ?_); rintro e w6 ⟨c6, G6, rfl, hc6, hb6, hold6, hv6, hf6⟩)
      refine NoPanic.normal ?_
      clear q1 q4 q5 q6 q10
      rw [V_congr (F := fun j => G5 (k + j)) (G := G5) (o' := k) (fun j hj => by rw [Nat.zero_add])] at hv6
      obtain ⟨x6, hx6⟩ : ∃ x6, Hid (x6 = G6 (k + n)) := ⟨_, Lib.hid rfl⟩
      have hx6e : x6 = G5 (k + n) := by rw [hx6.out]; exact hold6 _ (.inr (Nat.le_refl _))
      have hx6B : x6 < 18446744073709551616 := by rw [hx6.out]; exact hb6.word _ (by have := HH.out.ul; omega)
      have cu6 : w6.cell? ⟨gu, k + n, none⟩ = some (.int .u64 x6) := by rw [hb6.cell (by have := HH.out.ul; omega), ← hx6.out]
      have fu6 := hb6.free (k + n)
      obtain ⟨y6, hy6⟩ : ∃ y6, Hid (y6 = (x6 + c6) % 18446744073709551616) := ⟨_, Lib.hid rfl⟩
      have ey6 : IntKind.u64.wrap ((x6 : Int) + (c6 : Int)) = y6 := by rw [hy6.out, IntKind.wrap_u64]; omega
      have hy6B : y6 < BB := by rw [hy6.out]; exact Nat.mod_lt _ BB_pos
      have hbF := hb6.store (i := k + n) (x := y6) hy6B
      have hw := wrong_guess (q := Vb BB G k (n + 1) / Vb BB V 0 n) (lo := Vb BB G5 k n) (hi := G5 (k + n)) (lo2 := Vb BB G6 k n) (c3 := c6) (p := BB ^ n) (B := BB) rfl hle.out hvp (by rw [Nat.pow_succ]) (Nat.pow_pos BB_pos) hv5 rfl (V_succ _ _ _ _) hG5l HVB.out hv6 (V_lt (fun j hj => hb6.word _ (by have := HH.out.ul; omega))) hc6 (hb5.word _ (by have := HH.out.ul; omega))
      rw [← hx6e, BB_eq, ← hy6.out, ← BB_eq] at hw
      obtain ⟨hq, hsum0, hRv0⟩ := hw
      obtain ⟨qf, hqf⟩ : ∃ qf, Hid (qf = Vb BB G k (n + 1) / Vb BB V 0 n) := ⟨_, Lib.hid rfl⟩
      rw [← hqf.out] at hq hsum0
      have eqf : IntKind.u64.wrap ((qh : Int) - 1) = qf := by have := hqB; rw [BB_eq] at this; rw [hq, IntKind.wrap_u64]; omega
      have qfB : qf < BB := by omega
      have hR6 : Vb BB (upd G6 (k + n) y6) k (n + 1) = Vb BB G6 k n + BB ^ n * y6 := V_upd_succ _ _ _ _ _
      have hsum : Vb BB G k (n + 1) = qf * Vb BB V 0 n + Vb BB (upd G6 (k + n) y6) k (n + 1) := by rw [hR6]; exact hsum0
      have hRv : Vb BB (upd G6 (k + n) y6) k (n + 1) < Vb BB V 0 n := by rw [hR6]; exact hRv0
      have hrest := rest_low rfl (Nat.lt_trans hRv HVB.out)
      have hlow : ∀ j, j < k → upd G6 (k + n) y6 j = G j := fun j hj => by rw [upd_other _ _ _ _ (by omega), hold6 j (.inl hj), hold5 j (.inl hj)]
      have hhigh : ∀ j, k + n + 1 ≤ j → upd G6 (k + n) y6 j = G j := fun j hj => by rw [upd_other _ _ _ _ (by omega), hold6 j (.inr (by omega)), hold5 j (.inr (by omega))]
      have hfs : Fr (· = gu) w5 (w6.setCell ⟨gu, k + n, none⟩ (.int .u64 (y6 : Nat))) := (((Fr.refl (· = gu) w5).drew).trans hf6 (fun _ _ e => e)).setCell _ _ (.inr rfl)
      have hQF := hQ5.fr hfs (fun e => HH.out.uQ e.symm)
      have hqF := hq5.fr hfs hgq.1
      have hVF := hV5.fr hfs HH.out.vu
      have hfrF := hfr5.trans hfs (fun _ _ e => .inl e)
      clear hv5 hG5l hold5 hv6 hold6 hsum0 hRv0 hR6 hx6e hq
      obtain ⟨u5, hu5⟩ : ∃ u5, Hid (u5 = (upd G6 (k + n) y6) (k + n1)) := ⟨_, Lib.hid rfl⟩
      have cu5 := hbF.cell (j := k + n1) (by have := HH.out.ul; omega)
      rw [← hu5.out] at cu5
      have cQ5 := hQF.cell (j := k) (by have := HH.out.ql; omega)
      have fQ5 := hQF.free k
      have hQ6 := hQF.store (i := k) (x := qf) qfB
      have HINV : Hid (DInv m n (Vb BB V 0 n) (Vb BB U 0 (m + n)) u5 k U (upd G6 (k + n) y6) (upd GQ k qf)) := .inr ⟨by omega, by rw [hu5.out]; have := hn1.out; rw [show k + n1 = k + n - 1 by omega], bas_step hkm2 HNN.out hsum hlow hrest.1, by rw [hrest.1]; exact hRv, fun j h1 h2 => by
       by_cases e : j = k + n
       ·rw [e]; exact hrest.2
       ·rw [hhigh j (by omega)]; exact HZ.out j (by omega) h2⟩
      have HFR := Lib.hid (hfrF.setCell ⟨gQ, k, none⟩ (.int .u64 (qf : Nat)) (.inr (.inr (.inl rfl))))
      have HBU := Lib.hid (hbF.other (p := ⟨gQ, k, none⟩) (fun e => HH.out.uQ e.symm) (.int .u64 (qf : Nat)))
      have HBQ := Lib.hid (hqF.of_eq (heap_setCell_other _ ⟨gQ, k, none⟩ gq (.int .u64 (qf : Nat)) hgq.2))
      have HVF := Lib.hid (hVF.fr ((Fr.refl (· = gQ) _).setCell ⟨gQ, k, none⟩ (.int .u64 (qf : Nat)) (.inr rfl)) HH.out.vQ)
      have b6 : ((k : Int) == (m : Int)) = false := by simp; omega
      clear hsum hlow hrest hRv hhigh
      go_wp2
      exact ⟨⟨k, u5, (upd G6 (k + n) y6), upd GQ k qf, _, by omega, rfl, rfl, HBU.out, hQ6, HBQ.out, HVF.out, HINV, HFR.out⟩, by simp [intOf]⟩
    ·have t1 : ((uj : Int) != (v1 : Int)) = true := by simp; omega
     have hujl : uj < v1 := by omega
     go_wp2_with fail
     refine (divWW uj u1 v1 0 rec _ hsh (by rw [Nat.pow_zero, Nat.mul_one]; exact hrec) hujl hu1B).mono ?_
     rintro e w4 ⟨qd, rd, rfl, hqr, hrd, rfl⟩
     have hqdB : qd < 18446744073709551616 := by
      have h1 : qd * v1 < 18446744073709551616 * v1 := by omega
      exact Nat.lt_of_mul_lt_mul_right h1
     go_wp2_with fail
     refine (mulWW qd v2 (by rw [BB_eq]; exact hqdB) hv2B _).mono ?_
     rintro e w4 ⟨x1, x2, rfl, hx1, hx2, hx12, rfl⟩
     have hTop := hGd.out.low
     rw [BB_eq] at hTop
     have HTOP := Lib.hid hTop
     have hless : uj * 18446744073709551616 + u1 < v1 * 18446744073709551616 + v2 := by omega
     have HLESS := Lib.hid hless
     have hv2l : v2 < 18446744073709551616 := hv2B
     have hv1l : v1 < 18446744073709551616 := hv1B
     have hge0 : Hid (Vb BB G k (n + 1) / Vb BB V 0 n ≤ qd) := Lib.hid (first_guess hTop hu0B hqr hrd)
     have HQR := Lib.hid hqr
     have HX := Lib.hid hx12
     clear hTop hless hqr hx12
     go_wp2_with fail
     go_loop [15, 16, 18, 19] (fun x y z t => ∃ q r a b : Nat, x = .int .u64 q ∧ y = .int .u64 r ∧ z = .int .u64 a ∧ t = .int .u64 b ∧ q < 18446744073709551616 ∧ r < 18446744073709551616 ∧ a < 18446744073709551616 ∧ b < 18446744073709551616 ∧ Hid (q * v1 + r = uj * 18446744073709551616 + u1) ∧ Hid (a * 18446744073709551616 + b = q * v2) ∧ Hid (Vb BB G k (n + 1) / Vb BB V 0 n ≤ q))
      (fun x _ _ _ => (intOf x).toNat)
     case atStart => exact ⟨qd, rd, x1, x2, rfl, rfl, rfl, rfl, hqdB, by omega, hx1, hx2, HQR.out.symm, HX.out, hge0.out⟩
     case round =>
      obtain ⟨q, r, a, b', rfl, rfl, rfl, rfl, hqB0, hrB, haB, hbB, hqr, hab, hge0⟩ := hrel
      have hgt := greaterThan a b' r u0
      by_cases hg : r * 18446744073709551616 + u0 < a * 18446744073709551616 + b'
      ·rw [decide_eq_true (show r < a ∨ r = a ∧ u0 < b' by omega)] at hgt
       have hk : Vb BB G k (n + 1) / Vb BB V 0 n + 1 ≤ q := half_keep (b := 18446744073709551616) hqr.out HTOP.out HLESS.out hu0B (.inr (by rw [← hab.out]; omega))
       have hq1 : 1 ≤ q := Nat.le_trans (Nat.le_add_left 1 _) hk
       obtain ⟨q', hqk⟩ : ∃ q', Hid (q = q' + 1) := ⟨q - 1, Lib.hid (by omega)⟩
       have e1 : IntKind.u64.wrap ((q : Int) - 1) = q' := by have := hqk.out; rw [IntKind.wrap_u64]; omega
       have hq'B : q' < 18446744073709551616 := by have := hqk.out; omega
       have hge1 : Hid (Vb BB G k (n + 1) / Vb BB V 0 n ≤ q') := Lib.hid (by have h := hk; rw [hqk.out] at h; exact Nat.le_of_succ_le_succ h)
       have hqr' : Hid (q' * v1 + (r + v1) = uj * 18446744073709551616 + u1) := Lib.hid (by
        have := hqr.out
        rw [hqk.out, Nat.add_mul, Nat.one_mul] at this
        omega)
       have hab' : Hid (a * 18446744073709551616 + b' = q' * v2 + v2) := Lib.hid (by have := hab.out; rw [hqk.out, Nat.add_mul, Nat.one_mul] at this; exact this)
       by_cases hov : 18446744073709551616 ≤ r + v1
       ·obtain ⟨rw', hrw⟩ : ∃ rw', Hid (rw' + 18446744073709551616 = r + v1) := ⟨r + v1 - 18446744073709551616, Lib.hid (by omega)⟩
        have er : IntKind.u64.wrap ((r : Int) + (v1 : Int)) = rw' := by have := hrw.out; rw [IntKind.wrap_u64]; omega
        have t2 : decide (rw' < v1) = true := decide_eq_true (by have := hrw.out; omega)
        have ho := half_over (b := 18446744073709551616) (n := u0) hqr'.out hov HLESS.out hv2l
        have hqB : q' < BB := by rw [BB_eq]; exact hq'B
        have hge : Hid (Vb BB G k (n + 1) / Vb BB V 0 n ≤ q') := hge1
        have hle : Hid (q' ≤ Vb BB G k (n + 1) / Vb BB V 0 n + 1) := Lib.hid (hGd.out.top (by rw [BB_eq]; exact half_done hqr'.out ho.2) (by rw [BB_eq]; omega))
        clear ho hov hg hk hge0 hab hab' hqr hqr' hqk hrw
        go_wp2_with fail
        refine (hgt _).mono ?_
        rintro e w4 ⟨rfl, rfl⟩
        go_wp2_with fail
        refine (mulAddVWW_r n gq oq szq lenq cq gv ov cv q' 0 0 rfl F V _ hF hV (by omega) (fun e => .inr (hqd e)) hqB BB_pos).mono ?_
        rintro e w4 ⟨c1, F1, rfl, hc1, hF1, hold1, hval1, hf1⟩
        have cq1 := hF1.cell (j := oq + n) (by omega)
        have fq1 := hF1.free (oq + n)
        have b1 : decide ((m : Int) + (n : Int) < (k : Int) + ((n : Int) + 1)) = false := decide_eq_false (by omega)
        have hF2 : Bs (w4.setCell ⟨gq, oq + n, none⟩ (.int .u64 (c1 : Nat))) gq szq lenq (upd F1 (oq + n) c1) := hF1.store (i := oq + n) (x := c1) hc1
        have hG2 : BlkW (w4.setCell ⟨gq, oq + n, none⟩ (.int .u64 (c1 : Nat))).drew gu lu G := ((hG.fr hf1 (fun e => hgq.1 e.symm)).other (p := ⟨gq, oq + n, none⟩) hgq.1 (.int .u64 (c1 : Nat))).drew
        have hX2 := Words.of_blk hG2 (o := k) (n := n + 1) (by have := HH.out.ul; omega)
        have hY2 := hF2.drew.words (o := oq) (n := n + 1) (by omega)
        have hV2 : Words (w4.setCell ⟨gq, oq + n, none⟩ (.int .u64 (c1 : Nat))).drew gv ov n V := (hV.keep (k := n + 1) hF hF2 (fun j hj => by rw [upd_other _ _ _ _ (by omega)]; exact hold1 j (by omega)) (hf1.setCell _ _ (.inr rfl)) hqd (by omega)).fr ((Fr.refl NoS _).drew) (fun x => x)
        have hQ2 : BlkW (w4.setCell ⟨gq, oq + n, none⟩ (.int .u64 (c1 : Nat))).drew gQ lQ GQ := ((hGQ.fr hf1 (fun e => hgq.2 e.symm)).other (p := ⟨gq, oq + n, none⟩) hgq.2 (.int .u64 (c1 : Nat))).drew
        have hfr2 : Fr (fun k => k = gu ∨ k = gQ ∨ k = gq) w1 (w4.setCell ⟨gq, oq + n, none⟩ (.int .u64 (c1 : Nat))).drew := hfr.trans (((hf1.mono (S' := fun k => k = gu ∨ k = gQ ∨ k = gq) (fun _ _ e => .inr (.inr e))).setCell ⟨gq, oq + n, none⟩ (.int .u64 (c1 : Nat)) (.inr (.inr (.inr rfl)))).drew) (fun _ _ x => x)
        have eQ : Hid (Vb BB (fun j => upd F1 (oq + n) c1 (oq + j)) 0 (n + 1) = q' * Vb BB V 0 n) := Lib.hid (by
         rw [V_congr (F := fun j => upd F1 (oq + n) c1 (oq + j)) (G := upd F1 (oq + n) c1) (o' := oq) (fun j hj => by rw [Nat.zero_add]), V_upd_succ, hval1, Nat.add_zero, Nat.mul_comm])
        have eX : Hid (Vb BB (fun j => G (k + j)) 0 (n + 1) = Vb BB G k (n + 1)) := Lib.hid (V_congr (fun j hj => by rw [Nat.zero_add]))
        have q1 : IntKind.i64.wrap ((k : Int) + ((n : Int) + 1)) = (k : Int) + ((n : Int) + 1) := IntWalk.i64_in _ (by omega)
        have q3 : (0 : Int) ≤ k := by omega
        have q4 : (k : Int) ≤ (k : Int) + ((n : Int) + 1) := by omega
        have q5 : (k : Int) + ((n : Int) + 1) ≤ cu := by omega
        have q6 : ((k : Int) + ((n : Int) + 1)).toNat = k + (n + 1) := by omega
        have q10 : k + (n + 1) - k = n + 1 := by omega
        have q11 : n + 1 ≤ cq := by omega
        have q12 : (n : Int) + 1 ≤ cq := by omega
        have q13 : (0 : Int) ≤ (n : Int) + 1 := by omega
        have q14 : ((n : Int) + 1).toNat = n + 1 := by omega
        clear hval1 hold1
        go_wp2_with fail
        refine wp_region_noPanic ?_
        go_region_with (go_at_call 143; (with_reducible refine (subVV (n + 1) gu k lu (cu - k) gu k (cu - k) gq oq cq G _ _ _ hG2 hX2 hY2 (by have := HH.out.ul; omega) (fun _ => rfl) (fun e => absurd e hgq.1)).mono ?_); rintro e w5 ⟨c5, G5, rfl, hc5, hb5, hold5, hv5, hf5⟩)
        refine NoPanic.normal ?_
        rw [eX.out, eQ.out] at hv5
        clear q1 q4 q5 q6 q10 q11 q12 q13 q14
        have hV5 := hV2.fr hf5 HH.out.vu
        have hQ5 := hQ2.fr hf5 (fun e => HH.out.uQ e.symm)
        have hq5 := hF2.drew.fr hf5 hgq.1
        have hfr5 := hfr2.trans hf5 (fun _ _ e => .inl e)
        have hG5l : Vb BB G5 k (n + 1) < BB ^ (n + 1) := V_lt (fun j hj => hb5.word _ (by have := HH.out.ul; omega))
        rcases Nat.eq_zero_or_pos c5 with hc0 | hc0
        ·subst hc0
         obtain ⟨hq, hsum, hRv⟩ := right_guess (q := Vb BB G k (n + 1) / Vb BB V 0 n) rfl hge.out hvp hv5 rfl
         rw [← hq] at hsum
         have hrest := rest_low rfl (Nat.lt_trans hRv HVB.out)
         have hlow : ∀ j, j < k → G5 j = G j := fun j hj => hold5 j (.inl hj)
         have hhigh : ∀ j, k + n + 1 ≤ j → G5 j = G j := fun j hj => hold5 j (.inr (by omega))
         have b4 : (((0 : Nat) : Int) != 0) = false := by simp
         have hbF := hb5
         have hQF := hQ5
         have hqF := hq5
         have hVF := hV5
         have hfrF := hfr5
         have q'B : q' < BB := hqB
         clear hv5 hG5l hq hold5
         obtain ⟨u5, hu5⟩ : ∃ u5, Hid (u5 = G5 (k + n1)) := ⟨_, Lib.hid rfl⟩
         have cu5 := hbF.cell (j := k + n1) (by have := HH.out.ul; omega)
         rw [← hu5.out] at cu5
         have cQ5 := hQF.cell (j := k) (by have := HH.out.ql; omega)
         have fQ5 := hQF.free k
         have hQ6 := hQF.store (i := k) (x := q') q'B
         have HINV : Hid (DInv m n (Vb BB V 0 n) (Vb BB U 0 (m + n)) u5 k U G5 (upd GQ k q')) := .inr ⟨by omega, by rw [hu5.out]; have := hn1.out; rw [show k + n1 = k + n - 1 by omega], bas_step hkm2 HNN.out hsum hlow hrest.1, by rw [hrest.1]; exact hRv, fun j h1 h2 => by
          by_cases e : j = k + n
          ·rw [e]; exact hrest.2
          ·rw [hhigh j (by omega)]; exact HZ.out j (by omega) h2⟩
         have HFR := Lib.hid (hfrF.setCell ⟨gQ, k, none⟩ (.int .u64 (q' : Nat)) (.inr (.inr (.inl rfl))))
         have HBU := Lib.hid (hbF.other (p := ⟨gQ, k, none⟩) (fun e => HH.out.uQ e.symm) (.int .u64 (q' : Nat)))
         have HBQ := Lib.hid (hqF.of_eq (heap_setCell_other _ ⟨gQ, k, none⟩ gq (.int .u64 (q' : Nat)) hgq.2))
         have HVF := Lib.hid (hVF.fr ((Fr.refl (· = gQ) _).setCell ⟨gQ, k, none⟩ (.int .u64 (q' : Nat)) (.inr rfl)) HH.out.vQ)
         have b6 : ((k : Int) == (m : Int)) = false := by simp; omega
         clear hsum hlow hrest hRv hhigh
         go_wp2
         exact ⟨⟨k, u5, G5, upd GQ k q', _, by omega, rfl, rfl, HBU.out, hQ6, HBQ.out, HVF.out, HINV, HFR.out⟩, by simp [intOf]⟩
        ·obtain rfl : c5 = 1 := by omega
         have b4 : (((1 : Nat) : Int) != 0) = true := by simp
         have hG3 := hb5.drew
         have hX3 := Words.of_blk hG3 (o := k) (n := n) (by have := HH.out.ul; omega)
         have hV3 : Words w5.drew gv ov n V := hV5.fr ((Fr.refl NoS _).drew) (fun x => x)
         have q1 : IntKind.i64.wrap ((k : Int) + (n : Int)) = (k : Int) + (n : Int) := IntWalk.i64_in _ (by omega)
         have q4 : (k : Int) ≤ (k : Int) + (n : Int) := by omega
         have q5 : (k : Int) + (n : Int) ≤ cu := by omega
         have q6 : ((k : Int) + (n : Int)).toNat = k + n := by omega
         have q10 : k + n - k = n := by omega
         go_wp2_with fail
         refine wp_region_noPanic ?_
         go_region_with (go_at_call 218; (with_reducible refine (addVV n gu k lu (cu - k) gu k (cu - k) gv ov cv G5 _ V _ hG3 hX3 hV3 (by have := HH.out.ul; omega) (fun _ => rfl) (fun e => absurd e HH.out.vu)).mono ?_); rintro e w6 ⟨c6, G6, rfl, hc6, hb6, hold6, hv6, hf6⟩)
         refine NoPanic.normal ?_
         clear q1 q4 q5 q6 q10
         rw [V_congr (F := fun j => G5 (k + j)) (G := G5) (o' := k) (fun j hj => by rw [Nat.zero_add])] at hv6
         obtain ⟨x6, hx6⟩ : ∃ x6, Hid (x6 = G6 (k + n)) := ⟨_, Lib.hid rfl⟩
         have hx6e : x6 = G5 (k + n) := by rw [hx6.out]; exact hold6 _ (.inr (Nat.le_refl _))
         have hx6B : x6 < 18446744073709551616 := by rw [hx6.out]; exact hb6.word _ (by have := HH.out.ul; omega)
         have cu6 : w6.cell? ⟨gu, k + n, none⟩ = some (.int .u64 x6) := by rw [hb6.cell (by have := HH.out.ul; omega), ← hx6.out]
         have fu6 := hb6.free (k + n)
         obtain ⟨y6, hy6⟩ : ∃ y6, Hid (y6 = (x6 + c6) % 18446744073709551616) := ⟨_, Lib.hid rfl⟩
         have ey6 : IntKind.u64.wrap ((x6 : Int) + (c6 : Int)) = y6 := by rw [hy6.out, IntKind.wrap_u64]; omega
         have hy6B : y6 < BB := by rw [hy6.out]; exact Nat.mod_lt _ BB_pos
         have hbF := hb6.store (i := k + n) (x := y6) hy6B
         have hw := wrong_guess (q := Vb BB G k (n + 1) / Vb BB V 0 n) (lo := Vb BB G5 k n) (hi := G5 (k + n)) (lo2 := Vb BB G6 k n) (c3 := c6) (p := BB ^ n) (B := BB) rfl hle.out hvp (by rw [Nat.pow_succ]) (Nat.pow_pos BB_pos) hv5 rfl (V_succ _ _ _ _) hG5l HVB.out hv6 (V_lt (fun j hj => hb6.word _ (by have := HH.out.ul; omega))) hc6 (hb5.word _ (by have := HH.out.ul; omega))
         rw [← hx6e, BB_eq, ← hy6.out, ← BB_eq] at hw
         obtain ⟨hq, hsum0, hRv0⟩ := hw
         obtain ⟨qf, hqf⟩ : ∃ qf, Hid (qf = Vb BB G k (n + 1) / Vb BB V 0 n) := ⟨_, Lib.hid rfl⟩
         rw [← hqf.out] at hq hsum0
         have eqf : IntKind.u64.wrap ((q' : Int) - 1) = qf := by have := hqB; rw [BB_eq] at this; rw [hq, IntKind.wrap_u64]; omega
         have qfB : qf < BB := by omega
         have hR6 : Vb BB (upd G6 (k + n) y6) k (n + 1) = Vb BB G6 k n + BB ^ n * y6 := V_upd_succ _ _ _ _ _
         have hsum : Vb BB G k (n + 1) = qf * Vb BB V 0 n + Vb BB (upd G6 (k + n) y6) k (n + 1) := by rw [hR6]; exact hsum0
         have hRv : Vb BB (upd G6 (k + n) y6) k (n + 1) < Vb BB V 0 n := by rw [hR6]; exact hRv0
         have hrest := rest_low rfl (Nat.lt_trans hRv HVB.out)
         have hlow : ∀ j, j < k → upd G6 (k + n) y6 j = G j := fun j hj => by rw [upd_other _ _ _ _ (by omega), hold6 j (.inl hj), hold5 j (.inl hj)]
         have hhigh : ∀ j, k + n + 1 ≤ j → upd G6 (k + n) y6 j = G j := fun j hj => by rw [upd_other _ _ _ _ (by omega), hold6 j (.inr (by omega)), hold5 j (.inr (by omega))]
         have hfs : Fr (· = gu) w5 (w6.setCell ⟨gu, k + n, none⟩ (.int .u64 (y6 : Nat))) := (((Fr.refl (· = gu) w5).drew).trans hf6 (fun _ _ e => e)).setCell _ _ (.inr rfl)
         have hQF := hQ5.fr hfs (fun e => HH.out.uQ e.symm)
         have hqF := hq5.fr hfs hgq.1
         have hVF := hV5.fr hfs HH.out.vu
         have hfrF := hfr5.trans hfs (fun _ _ e => .inl e)
         clear hv5 hG5l hold5 hv6 hold6 hsum0 hRv0 hR6 hx6e hq
         obtain ⟨u5, hu5⟩ : ∃ u5, Hid (u5 = (upd G6 (k + n) y6) (k + n1)) := ⟨_, Lib.hid rfl⟩
         have cu5 := hbF.cell (j := k + n1) (by have := HH.out.ul; omega)
         rw [← hu5.out] at cu5
         have cQ5 := hQF.cell (j := k) (by have := HH.out.ql; omega)
         have fQ5 := hQF.free k
         have hQ6 := hQF.store (i := k) (x := qf) qfB
         have HINV : Hid (DInv m n (Vb BB V 0 n) (Vb BB U 0 (m + n)) u5 k U (upd G6 (k + n) y6) (upd GQ k qf)) := .inr ⟨by omega, by rw [hu5.out]; have := hn1.out; rw [show k + n1 = k + n - 1 by omega], bas_step hkm2 HNN.out hsum hlow hrest.1, by rw [hrest.1]; exact hRv, fun j h1 h2 => by
          by_cases e : j = k + n
          ·rw [e]; exact hrest.2
          ·rw [hhigh j (by omega)]; exact HZ.out j (by omega) h2⟩
         have HFR := Lib.hid (hfrF.setCell ⟨gQ, k, none⟩ (.int .u64 (qf : Nat)) (.inr (.inr (.inl rfl))))
         have HBU := Lib.hid (hbF.other (p := ⟨gQ, k, none⟩) (fun e => HH.out.uQ e.symm) (.int .u64 (qf : Nat)))
         have HBQ := Lib.hid (hqF.of_eq (heap_setCell_other _ ⟨gQ, k, none⟩ gq (.int .u64 (qf : Nat)) hgq.2))
         have HVF := Lib.hid (hVF.fr ((Fr.refl (· = gQ) _).setCell ⟨gQ, k, none⟩ (.int .u64 (qf : Nat)) (.inr rfl)) HH.out.vQ)
         have b6 : ((k : Int) == (m : Int)) = false := by simp; omega
         clear hsum hlow hrest hRv hhigh
         go_wp2
         exact ⟨⟨k, u5, (upd G6 (k + n) y6), upd GQ k qf, _, by omega, rfl, rfl, HBU.out, hQ6, HBQ.out, HVF.out, HINV, HFR.out⟩, by simp [intOf]⟩
       ·obtain ⟨rw', hrw⟩ : ∃ rw', Hid (rw' = r + v1) := ⟨r + v1, Lib.hid rfl⟩
        have er : IntKind.u64.wrap ((r : Int) + (v1 : Int)) = rw' := by have := hrw.out; rw [IntKind.wrap_u64]; omega
        have t2 : decide (rw' < v1) = false := decide_eq_false (by have := hrw.out; omega)
        have hrwB : rw' < 18446744073709551616 := by have := hrw.out; omega
        have hqr2 : Hid (q' * v1 + rw' = uj * 18446744073709551616 + u1) := Lib.hid (by rw [hrw.out]; exact hqr'.out)
        by_cases hbv : b' < v2
        ·have t3 : decide (b' < v2) = true := decide_eq_true hbv
         have ha1 : 0 < a := by
          refine Nat.pos_of_ne_zero fun h0 => ?_
          have := hab'.out
          rw [h0] at this
          omega
         obtain ⟨a', ha'⟩ : ∃ a', Hid (a = a' + 1) := ⟨a - 1, Lib.hid (by omega)⟩
         have e2 : IntKind.u64.wrap ((a : Int) - 1) = a' := by have := ha'.out; rw [IntKind.wrap_u64]; omega
         obtain ⟨b2, hb2⟩ : ∃ b2, Hid (b2 + v2 = b' + 18446744073709551616) := ⟨b' + 18446744073709551616 - v2, Lib.hid (by omega)⟩
         have e3' : IntKind.u64.wrap ((b' : Int) - (v2 : Int)) = b2 := by have := hb2.out; rw [IntKind.wrap_u64]; omega
         have ha'B : a' < 18446744073709551616 := by have := ha'.out; omega
         have hb2B : b2 < 18446744073709551616 := by have := hb2.out; omega
         have hab2 : Hid (a' * 18446744073709551616 + b2 = q' * v2) := Lib.hid (down_one hab'.out ha'.out hb2.out)
         clear hov hg hk hge0 hab hab' hqr hqr' ha1 hbv
         go_wp2_with fail
         refine (hgt _).mono ?_
         rintro e w4 ⟨rfl, rfl⟩
         go_wp2
         go_round
         case rel => exact ⟨q', rw', a', b2, rfl, rfl, rfl, rfl, hq'B, hrwB, ha'B, hb2B, hqr2, hab2, hge1⟩
         case measure => have := hqk.out; simp [intOf]; omega
        ·have t3 : decide (b' < v2) = false := decide_eq_false hbv
         obtain ⟨b2, hb2⟩ : ∃ b2, Hid (b2 + v2 = b') := ⟨b' - v2, Lib.hid (by omega)⟩
         have e3' : IntKind.u64.wrap ((b' : Int) - (v2 : Int)) = b2 := by have := hb2.out; rw [IntKind.wrap_u64]; omega
         have hb2B : b2 < 18446744073709551616 := by have := hb2.out; omega
         have hab2 : Hid (a * 18446744073709551616 + b2 = q' * v2) := Lib.hid (down_none hab'.out hb2.out)
         clear hov hg hk hge0 hab hab' hqr hqr' hbv
         go_wp2_with fail
         refine (hgt _).mono ?_
         rintro e w4 ⟨rfl, rfl⟩
         go_wp2
         go_round
         case rel => exact ⟨q', rw', a, b2, rfl, rfl, rfl, rfl, hq'B, hrwB, haB, hb2B, hqr2, hab2, hge1⟩
         case measure => have := hqk.out; simp [intOf]; omega
      ·rw [decide_eq_false (show ¬ (r < a ∨ r = a ∧ u0 < b') by omega)] at hgt
       have hqB : q < BB := by rw [BB_eq]; exact hqB0
       have hge : Hid (Vb BB G k (n + 1) / Vb BB V 0 n ≤ q) := hge0
       have hle : Hid (q ≤ Vb BB G k (n + 1) / Vb BB V 0 n + 1) := Lib.hid (hGd.out.top (by rw [BB_eq]; exact half_done hqr.out (by rw [← hab.out]; omega)) (by rw [BB_eq]; omega))
       clear hg hab hqr
       go_wp2_with fail
       refine (hgt _).mono ?_
       rintro e w4 ⟨rfl, rfl⟩
       go_wp2_with fail
       refine (mulAddVWW_r n gq oq szq lenq cq gv ov cv q 0 0 rfl F V _ hF hV (by omega) (fun e => .inr (hqd e)) hqB BB_pos).mono ?_
       rintro e w4 ⟨c1, F1, rfl, hc1, hF1, hold1, hval1, hf1⟩
       have cq1 := hF1.cell (j := oq + n) (by omega)
       have fq1 := hF1.free (oq + n)
       have b1 : decide ((m : Int) + (n : Int) < (k : Int) + ((n : Int) + 1)) = false := decide_eq_false (by omega)
       have hF2 : Bs (w4.setCell ⟨gq, oq + n, none⟩ (.int .u64 (c1 : Nat))) gq szq lenq (upd F1 (oq + n) c1) := hF1.store (i := oq + n) (x := c1) hc1
       have hG2 : BlkW (w4.setCell ⟨gq, oq + n, none⟩ (.int .u64 (c1 : Nat))).drew gu lu G := ((hG.fr hf1 (fun e => hgq.1 e.symm)).other (p := ⟨gq, oq + n, none⟩) hgq.1 (.int .u64 (c1 : Nat))).drew
       have hX2 := Words.of_blk hG2 (o := k) (n := n + 1) (by have := HH.out.ul; omega)
       have hY2 := hF2.drew.words (o := oq) (n := n + 1) (by omega)
       have hV2 : Words (w4.setCell ⟨gq, oq + n, none⟩ (.int .u64 (c1 : Nat))).drew gv ov n V := (hV.keep (k := n + 1) hF hF2 (fun j hj => by rw [upd_other _ _ _ _ (by omega)]; exact hold1 j (by omega)) (hf1.setCell _ _ (.inr rfl)) hqd (by omega)).fr ((Fr.refl NoS _).drew) (fun x => x)
       have hQ2 : BlkW (w4.setCell ⟨gq, oq + n, none⟩ (.int .u64 (c1 : Nat))).drew gQ lQ GQ := ((hGQ.fr hf1 (fun e => hgq.2 e.symm)).other (p := ⟨gq, oq + n, none⟩) hgq.2 (.int .u64 (c1 : Nat))).drew
       have hfr2 : Fr (fun k => k = gu ∨ k = gQ ∨ k = gq) w1 (w4.setCell ⟨gq, oq + n, none⟩ (.int .u64 (c1 : Nat))).drew := hfr.trans (((hf1.mono (S' := fun k => k = gu ∨ k = gQ ∨ k = gq) (fun _ _ e => .inr (.inr e))).setCell ⟨gq, oq + n, none⟩ (.int .u64 (c1 : Nat)) (.inr (.inr (.inr rfl)))).drew) (fun _ _ x => x)
       have eQ : Hid (Vb BB (fun j => upd F1 (oq + n) c1 (oq + j)) 0 (n + 1) = q * Vb BB V 0 n) := Lib.hid (by
        rw [V_congr (F := fun j => upd F1 (oq + n) c1 (oq + j)) (G := upd F1 (oq + n) c1) (o' := oq) (fun j hj => by rw [Nat.zero_add]), V_upd_succ, hval1, Nat.add_zero, Nat.mul_comm])
       have eX : Hid (Vb BB (fun j => G (k + j)) 0 (n + 1) = Vb BB G k (n + 1)) := Lib.hid (V_congr (fun j hj => by rw [Nat.zero_add]))
       have q1 : IntKind.i64.wrap ((k : Int) + ((n : Int) + 1)) = (k : Int) + ((n : Int) + 1) := IntWalk.i64_in _ (by omega)
       have q3 : (0 : Int) ≤ k := by omega
       have q4 : (k : Int) ≤ (k : Int) + ((n : Int) + 1) := by omega
       have q5 : (k : Int) + ((n : Int) + 1) ≤ cu := by omega
       have q6 : ((k : Int) + ((n : Int) + 1)).toNat = k + (n + 1) := by omega
       have q10 : k + (n + 1) - k = n + 1 := by omega
       have q11 : n + 1 ≤ cq := by omega
       have q12 : (n : Int) + 1 ≤ cq := by omega
       have q13 : (0 : Int) ≤ (n : Int) + 1 := by omega
       have q14 : ((n : Int) + 1).toNat = n + 1 := by omega
       clear hval1 hold1
       go_wp2_with fail
       refine wp_region_noPanic ?_
       go_region_with (go_at_call 143; (with_reducible refine (subVV (n + 1) gu k lu (cu - k) gu k (cu - k) gq oq cq G _ _ _ hG2 hX2 hY2 (by have := HH.out.ul; omega) (fun _ => rfl) (fun e => absurd e hgq.1)).mono ?_); rintro e w5 ⟨c5, G5, rfl, hc5, hb5, hold5, hv5, hf5⟩)
       refine NoPanic.normal ?_
       rw [eX.out, eQ.out] at hv5
       clear q1 q4 q5 q6 q10 q11 q12 q13 q14
       have hV5 := hV2.fr hf5 HH.out.vu
       have hQ5 := hQ2.fr hf5 (fun e => HH.out.uQ e.symm)
       have hq5 := hF2.drew.fr hf5 hgq.1
       have hfr5 := hfr2.trans hf5 (fun _ _ e => .inl e)
       have hG5l : Vb BB G5 k (n + 1) < BB ^ (n + 1) := V_lt (fun j hj => hb5.word _ (by have := HH.out.ul; omega))
       rcases Nat.eq_zero_or_pos c5 with hc0 | hc0
       ·subst hc0
        obtain ⟨hq, hsum, hRv⟩ := right_guess (q := Vb BB G k (n + 1) / Vb BB V 0 n) rfl hge.out hvp hv5 rfl
        rw [← hq] at hsum
        have hrest := rest_low rfl (Nat.lt_trans hRv HVB.out)
        have hlow : ∀ j, j < k → G5 j = G j := fun j hj => hold5 j (.inl hj)
        have hhigh : ∀ j, k + n + 1 ≤ j → G5 j = G j := fun j hj => hold5 j (.inr (by omega))
        have b4 : (((0 : Nat) : Int) != 0) = false := by simp
        have hbF := hb5
        have hQF := hQ5
        have hqF := hq5
        have hVF := hV5
        have hfrF := hfr5
        have qB : q < BB := hqB
        clear hv5 hG5l hq hold5
        obtain ⟨u5, hu5⟩ : ∃ u5, Hid (u5 = G5 (k + n1)) := ⟨_, Lib.hid rfl⟩
        have cu5 := hbF.cell (j := k + n1) (by have := HH.out.ul; omega)
        rw [← hu5.out] at cu5
        have cQ5 := hQF.cell (j := k) (by have := HH.out.ql; omega)
        have fQ5 := hQF.free k
        have hQ6 := hQF.store (i := k) (x := q) qB
        have HINV : Hid (DInv m n (Vb BB V 0 n) (Vb BB U 0 (m + n)) u5 k U G5 (upd GQ k q)) := .inr ⟨by omega, by rw [hu5.out]; have := hn1.out; rw [show k + n1 = k + n - 1 by omega], bas_step hkm2 HNN.out hsum hlow hrest.1, by rw [hrest.1]; exact hRv, fun j h1 h2 => by
         by_cases e : j = k + n
         ·rw [e]; exact hrest.2
         ·rw [hhigh j (by omega)]; exact HZ.out j (by omega) h2⟩
        have HFR := Lib.hid (hfrF.setCell ⟨gQ, k, none⟩ (.int .u64 (q : Nat)) (.inr (.inr (.inl rfl))))
        have HBU := Lib.hid (hbF.other (p := ⟨gQ, k, none⟩) (fun e => HH.out.uQ e.symm) (.int .u64 (q : Nat)))
        have HBQ := Lib.hid (hqF.of_eq (heap_setCell_other _ ⟨gQ, k, none⟩ gq (.int .u64 (q : Nat)) hgq.2))
        have HVF := Lib.hid (hVF.fr ((Fr.refl (· = gQ) _).setCell ⟨gQ, k, none⟩ (.int .u64 (q : Nat)) (.inr rfl)) HH.out.vQ)
        have b6 : ((k : Int) == (m : Int)) = false := by simp; omega
        clear hsum hlow hrest hRv hhigh
        go_wp2
        exact ⟨⟨k, u5, G5, upd GQ k q, _, by omega, rfl, rfl, HBU.out, hQ6, HBQ.out, HVF.out, HINV, HFR.out⟩, by simp [intOf]⟩
       ·obtain rfl : c5 = 1 := by omega
        have b4 : (((1 : Nat) : Int) != 0) = true := by simp
        have hG3 := hb5.drew
        have hX3 := Words.of_blk hG3 (o := k) (n := n) (by have := HH.out.ul; omega)
        have hV3 : Words w5.drew gv ov n V := hV5.fr ((Fr.refl NoS _).drew) (fun x => x)
        have q1 : IntKind.i64.wrap ((k : Int) + (n : Int)) = (k : Int) + (n : Int) := IntWalk.i64_in _ (by omega)
        have q4 : (k : Int) ≤ (k : Int) + (n : Int) := by omega
        have q5 : (k : Int) + (n : Int) ≤ cu := by omega
        have q6 : ((k : Int) + (n : Int)).toNat = k + n := by omega
        have q10 : k + n - k = n := by omega
        go_wp2_with fail
        refine wp_region_noPanic ?_
        go_region_with (go_at_call 218; (with_reducible refine (addVV n gu k lu (cu - k) gu k (cu - k) gv ov cv G5 _ V _ hG3 hX3 hV3 (by have := HH.out.ul; omega) (fun _ => rfl) (fun e => absurd e HH.out.vu)).mono ?_); rintro e w6 ⟨c6, G6, rfl, hc6, hb6, hold6, hv6, hf6⟩)
        refine NoPanic.normal ?_
        clear q1 q4 q5 q6 q10
        rw [V_congr (F := fun j => G5 (k + j)) (G := G5) (o' := k) (fun j hj => by rw [Nat.zero_add])] at hv6
        obtain ⟨x6, hx6⟩ : ∃ x6, Hid (x6 = G6 (k + n)) := ⟨_, Lib.hid rfl⟩
        have hx6e : x6 = G5 (k + n) := by rw [hx6.out]; exact hold6 _ (.inr (Nat.le_refl _))
        have hx6B : x6 < 18446744073709551616 := by rw [hx6.out]; exact hb6.word _ (by have := HH.out.ul; omega)
        have cu6 : w6.cell? ⟨gu, k + n, none⟩ = some (.int .u64 x6) := by rw [hb6.cell (by have := HH.out.ul; omega), ← hx6.out]
        have fu6 := hb6.free (k + n)
        obtain ⟨y6, hy6⟩ : ∃ y6, Hid (y6 = (x6 + c6) % 18446744073709551616) := ⟨_, Lib.hid rfl⟩
        have ey6 : IntKind.u64.wrap ((x6 : Int) + (c6 : Int)) = y6 := by rw [hy6.out, IntKind.wrap_u64]; omega
        have hy6B : y6 < BB := by rw [hy6.out]; exact Nat.mod_lt _ BB_pos
        have hbF := hb6.store (i := k + n) (x := y6) hy6B
        have hw := wrong_guess (q := Vb BB G k (n + 1) / Vb BB V 0 n) (lo := Vb BB G5 k n) (hi := G5 (k + n)) (lo2 := Vb BB G6 k n) (c3 := c6) (p := BB ^ n) (B := BB) rfl hle.out hvp (by rw [Nat.pow_succ]) (Nat.pow_pos BB_pos) hv5 rfl (V_succ _ _ _ _) hG5l HVB.out hv6 (V_lt (fun j hj => hb6.word _ (by have := HH.out.ul; omega))) hc6 (hb5.word _ (by have := HH.out.ul; omega))
        rw [← hx6e, BB_eq, ← hy6.out, ← BB_eq] at hw
        obtain ⟨hq, hsum0, hRv0⟩ := hw
        obtain ⟨qf, hqf⟩ : ∃ qf, Hid (qf = Vb BB G k (n + 1) / Vb BB V 0 n) := ⟨_, Lib.hid rfl⟩
        rw [← hqf.out] at hq hsum0
        have eqf : IntKind.u64.wrap ((q : Int) - 1) = qf := by have := hqB; rw [BB_eq] at this; rw [hq, IntKind.wrap_u64]; omega
        have qfB : qf < BB := by omega
        have hR6 : Vb BB (upd G6 (k + n) y6) k (n + 1) = Vb BB G6 k n + BB ^ n * y6 := V_upd_succ _ _ _ _ _
        have hsum : Vb BB G k (n + 1) = qf * Vb BB V 0 n + Vb BB (upd G6 (k + n) y6) k (n + 1) := by rw [hR6]; exact hsum0
        have hRv : Vb BB (upd G6 (k + n) y6) k (n + 1) < Vb BB V 0 n := by rw [hR6]; exact hRv0
        have hrest := rest_low rfl (Nat.lt_trans hRv HVB.out)
        have hlow : ∀ j, j < k → upd G6 (k + n) y6 j = G j := fun j hj => by rw [upd_other _ _ _ _ (by omega), hold6 j (.inl hj), hold5 j (.inl hj)]
        have hhigh : ∀ j, k + n + 1 ≤ j → upd G6 (k + n) y6 j = G j := fun j hj => by rw [upd_other _ _ _ _ (by omega), hold6 j (.inr (by omega)), hold5 j (.inr (by omega))]
        have hfs : Fr (· = gu) w5 (w6.setCell ⟨gu, k + n, none⟩ (.int .u64 (y6 : Nat))) := (((Fr.refl (· = gu) w5).drew).trans hf6 (fun _ _ e => e)).setCell _ _ (.inr rfl)
        have hQF := hQ5.fr hfs (fun e => HH.out.uQ e.symm)
        have hqF := hq5.fr hfs hgq.1
        have hVF := hV5.fr hfs HH.out.vu
        have hfrF := hfr5.trans hfs (fun _ _ e => .inl e)
        clear hv5 hG5l hold5 hv6 hold6 hsum0 hRv0 hR6 hx6e hq
        obtain ⟨u5, hu5⟩ : ∃ u5, Hid (u5 = (upd G6 (k + n) y6) (k + n1)) := ⟨_, Lib.hid rfl⟩
        have cu5 := hbF.cell (j := k + n1) (by have := HH.out.ul; omega)
        rw [← hu5.out] at cu5
        have cQ5 := hQF.cell (j := k) (by have := HH.out.ql; omega)
        have fQ5 := hQF.free k
        have hQ6 := hQF.store (i := k) (x := qf) qfB
        have HINV : Hid (DInv m n (Vb BB V 0 n) (Vb BB U 0 (m + n)) u5 k U (upd G6 (k + n) y6) (upd GQ k qf)) := .inr ⟨by omega, by rw [hu5.out]; have := hn1.out; rw [show k + n1 = k + n - 1 by omega], bas_step hkm2 HNN.out hsum hlow hrest.1, by rw [hrest.1]; exact hRv, fun j h1 h2 => by
         by_cases e : j = k + n
         ·rw [e]; exact hrest.2
         ·rw [hhigh j (by omega)]; exact HZ.out j (by omega) h2⟩
        have HFR := Lib.hid (hfrF.setCell ⟨gQ, k, none⟩ (.int .u64 (qf : Nat)) (.inr (.inr (.inl rfl))))
        have HBU := Lib.hid (hbF.other (p := ⟨gQ, k, none⟩) (fun e => HH.out.uQ e.symm) (.int .u64 (qf : Nat)))
        have HBQ := Lib.hid (hqF.of_eq (heap_setCell_other _ ⟨gQ, k, none⟩ gq (.int .u64 (qf : Nat)) hgq.2))
        have HVF := Lib.hid (hVF.fr ((Fr.refl (· = gQ) _).setCell ⟨gQ, k, none⟩ (.int .u64 (qf : Nat)) (.inr rfl)) HH.out.vQ)
        have b6 : ((k : Int) == (m : Int)) = false := by simp; omega
        clear hsum hlow hrest hRv hhigh
        go_wp2
        exact ⟨⟨k, u5, (upd G6 (k + n) y6), upd GQ k qf, _, by omega, rfl, rfl, HBU.out, hQ6, HBQ.out, HVF.out, HINV, HFR.out⟩, by simp [intOf]⟩
end Go.Proofs.YtilmldfbmmcchaaGreatDoor
