/- A natural number divided by another one of several words: the library's own text, walked. A natural number divided by another one: the library's own text, walked. Conditions: each theorem bears its own. -/
import Derived.Test.YtilmldfbmmcchaaGreatDoorZ19
set_option linter.unusedVariables false
set_option linter.unusedSimpArgs false
namespace Go.Proofs.YtilmldfbmmcchaaGreatDoor
open Go.RowKit
theorem norm_alg {B p VL vn YL t q c H : Nat} (h : VL + p * vn + p * B * c = YL + p * t) (hVL : VL < p) (hYL : YL < p * q) (ht : t + q ≤ B) (h2 : H ≤ t) : c = 0 ∧ H ≤ vn := by
 have h5 := Nat.mul_le_mul_left p ht
 rw [Nat.mul_add] at h5
 have hc : c = 0 := by
  refine Nat.eq_zero_of_not_pos fun h0 => ?_
  have := Nat.mul_le_mul_left (p * B) h0
  omega
 subst hc
 refine ⟨rfl, Nat.le_trans h2 ?_⟩
 have h6 : p * t < p * (vn + 1) := by rw [Nat.mul_add, Nat.mul_one]; omega
 have := Nat.lt_of_mul_lt_mul_left h6
 omega
theorem top_room {y s : Nat} (hs : s ≤ 63) (h1 : y * 2 ^ s < 18446744073709551616) : y * 2 ^ s + 2 ^ s ≤ BB := by
 have e := pow64 (64 - s) s (by omega)
 rw [← e] at h1
 have h4 := Nat.lt_of_mul_lt_mul_right h1
 have h5 := Nat.mul_le_mul_right (2 ^ s) (Nat.succ_le_of_lt h4)
 rw [Nat.succ_mul, e] at h5
 exact h5
theorem norm_top {Y V : Nat → Nat} {n s c : Nat} (hs : s ≤ 63) (hY : ∀ j, j < n + 1 → Y j < BB) (hV : ∀ j, j < n + 1 → V j < BB) (h1 : Y n * 2 ^ s < 18446744073709551616) (h2 : 9223372036854775808 ≤ Y n * 2 ^ s) (h : Vb BB V 0 (n + 1) + BB ^ (n + 1) * c = Vb BB Y 0 (n + 1) * 2 ^ s) :
  c = 0 ∧ 9223372036854775808 ≤ V n := by
 have a1 : Vb BB Y 0 n < BB ^ n := V_lt (fun j hj => by rw [Nat.zero_add]; exact hY j (by omega))
 have a2 : Vb BB V 0 n < BB ^ n := V_lt (fun j hj => by rw [Nat.zero_add]; exact hV j (by omega))
 have e1 : Vb BB Y 0 (n + 1) * 2 ^ s = Vb BB Y 0 n * 2 ^ s + BB ^ n * (Y n * 2 ^ s) := by rw [V_succ, Nat.zero_add, Nat.add_mul, Nat.mul_assoc]
 have e2 : Vb BB V 0 (n + 1) = Vb BB V 0 n + BB ^ n * V n := by rw [V_succ, Nat.zero_add]
 rw [e1, e2, Nat.pow_succ] at h
 exact norm_alg h a2 (Nat.mul_lt_mul_of_pos_right a1 (Nat.pow_pos (by decide))) (top_room hs h1) h2
theorem unshift2 {X Y Q R p : Nat} (hp : 0 < p) (h : X * p = Q * (Y * p) + R) (hR : R < Y * p) : Q = X / Y ∧ R / p = X % Y ∧ R % p = 0 := by
 obtain ⟨a, b⟩ := unshift hp h hR
 refine ⟨a, b, ?_⟩
 have h1 : R = (X - Q * Y) * p := by
  rw [Nat.mul_sub_right_distrib, Nat.mul_assoc]
  omega
 rw [h1]
 exact Nat.mul_mod_left _ _
theorem shifted_back {a r p R : Nat} (h : a * p + r = R) (hr : r < p) : a = R / p := by
 subst h
 rw [Nat.mul_comm, Nat.mul_add_div (by omega), Nat.div_eq_of_lt hr]; rfl
theorem Stk.inner_ne {w : World} {p g len : Nat} {F : Nat → Nat} {S : Option Held} (h : Stk w p S) (hb : BlkW w g len F) : ∀ s, S = some s → g ≠ s.q := by
 rintro s rfl rfl
 obtain ⟨c, hc, _⟩ := hb.row
 have := h.2.1.1
 rw [hc] at this
 injection this with this
 injection this with _ this
 exact absurd this (by decide)
theorem Stk.fr_blk {w w' : World} {p g len : Nat} {F F' : Nat → Nat} {S : Option Held} (h : Stk w p S) (hb : BlkW w g len F) (hb' : BlkW w' g len F') (hf : Fr (· = g) w w') (hne : g ≠ p) : Stk w' p S := by
 cases S with
 | none => exact (hf.block p (Array.getElem?_eq_some_iff.1 (show w.heap[p]? = some (.cells #[.pointer none] TSt (0, 0)) from h)).1 (fun e => hne e.symm)).trans h
 | some s =>
  have hq := Stk.inner_ne h hb s rfl
  obtain ⟨hp, ⟨hI, hl, hB, hgq⟩, h3, h4⟩ := h
  refine ⟨(hf.block p (zLt hp) (fun e => hne e.symm)).trans hp, ⟨(hf.block s.q (zLt hI) (fun e => hq e.symm)).trans hI, hl, ?_, hgq⟩, h3, h4⟩
  obtain ⟨hm, F0, hbs⟩ := hB
  refine ⟨hm, ?_⟩
  by_cases e : s.g = g
  ·obtain ⟨c, hc, hsz, _⟩ := hbs.row
   obtain ⟨c2, hc2, hsz2, _⟩ := hb.row
   rw [e, hc2] at hc
   injection hc with hc
   injection hc with hc
   have hr := hb.room
   have hl2 : s.cap = len := by rw [← hsz, ← hc]; exact hsz2
   have hl3 : min s.cap LL = len := by omega
   rw [hl3, e, hl2]
   exact ⟨F', hb'.bs⟩
  ·exact ⟨F0, hbs.fr hf e⟩
theorem Own.back {w w' : World} {p b k n : Nat} {v : Value} {F : Nat → Nat} {S : Option Held} (h : OwnW w v n F) (hS : Stk w p S) (hB : Back w w' p b k S) : OwnW w' v n F := by
 refine h.of_eq fun j hj => hB.heap j ?_
 rcases h with ⟨rfl, _⟩ | ⟨g, c, rfl, _, hb⟩
 ·simp [Value.ownBlock] at hj
 ·simp only [Value.ownBlock, Option.some.injEq] at hj
  subst hj
  exact Stk.inner_ne hS hb
set_option maxHeartbeats 8000000 in
set_option maxRecDepth 100000 in
theorem divLarge (p n N : Nat) (vx vy : Value) (X Y : Nat → Nat) (w : World) (hS : Stk w p none) (hx : RdW w vx N X) (hy : RdW w vy n Y) (ty : Top Y n) (hn2 : 2 ≤ n) (hnN : n ≤ N) (hn40 : n < 40) (hN : N ≤ 90000000)
  (hDT : w.cell? ⟨8, 0, none⟩ = some (.int .i64 40)) :
  Calls Tryz.prog 217 #[.slice none 0 0, .pointer (some ⟨p, 0, none⟩), .slice none 0 0, vx, vy] w fun e w' =>
   ∃ (vq vr : Value) (nq nr : Nat) (Q R : Nat → Nat) (S' : Option Held), e = .returned (.tuple #[vq, vr]) ∧ OwnW w' vq nq Q ∧ OwnW w' vr nr R ∧ Top Q nq ∧ Top R nr ∧ nq ≤ N - n + 1 ∧ nr ≤ N + 1 ∧
    Vb BB Q 0 nq = Vb BB X 0 N / Vb BB Y 0 n ∧ Vb BB R 0 nr = Vb BB X 0 N % Vb BB Y 0 n ∧ Fr (· = p) w w' ∧ Stk w' p S' ∧ (∀ k, StkB S' k → w.heap.size ≤ k) ∧ (∀ k, vq.ownBlock = some k → vr.ownBlock ≠ some k) ∧ (∀ k, vq.ownBlock = some k → w.heap.size ≤ k) ∧ (∀ k, vr.ownBlock = some k → w.heap.size ≤ k) := by
 obtain ⟨gx, ox, cx, rfl, hcx1, hcx2, hxw⟩ := hx.words_of (by omega)
 obtain ⟨gy, oy, cy, rfl, hcy1, hcy2, hyw⟩ := hy.words_of (by omega)
 obtain ⟨m, hm⟩ : ∃ m, Hid (N = m + n) := ⟨N - n, Lib.hid (by omega)⟩
 have e1 : (N : Int) - (n : Int) = m := by have := hm.out; omega
 obtain ⟨n1, hn1⟩ : ∃ n1, Hid (n = n1 + 1) := ⟨n - 1, Lib.hid (by omega)⟩
 have e2 : (n : Int) - 1 = n1 := by have := hn1.out; omega
 have hn1n : n1 < n := by have := hn1.out; omega
 obtain ⟨y1, hy1⟩ : ∃ y1, Hid (y1 = Y n1) := ⟨_, Lib.hid rfl⟩
 have hy1B : y1 < BB := by rw [hy1.out]; exact hyw.word _ hn1n
 have hy10 : 0 < y1 := by
  rcases ty with h | h
  ·omega
  ·rw [hy1.out]; have := hn1.out; rwa [show n1 = n - 1 by omega]
 obtain ⟨s, hs⟩ := shift_of y1 hy10 hy1B
 have cy1 : w.cell? ⟨gy, oy + n1, none⟩ = some (.int .u64 y1) := by rw [hyw.cell _ hn1n, ← hy1.out]
 have hgp : 8 ≠ p := by
  intro e
  have h1 : w.heap[p]? = some (.cells #[.pointer none] TSt (0, 0)) := hS
  rw [e] at hDT
  simp [World.cell?, h1] at hDT
 have hgl := World.block_lt_of_cell? w _ hDT
 have hpl := (Array.getElem?_eq_some_iff.1 (show w.heap[p]? = some (.cells #[.pointer none] TSt (0, 0)) from hS)).1
 go_enter_defers Tryz.func217, Tryz.ntmps217
 go_wp2_with fail
 refine (stack_save p none _ hS).mono ?_
 rintro e w1 ⟨rfl, rfl⟩
 go_wp2_with fail
 refine (hs.nlz _).mono ?_
 rintro e w1 ⟨rfl, rfl⟩
 go_wp2_with fail
 refine (stack_nat p n w1.heap.size none _ hS (fun k ⟨_, h, _⟩ => by cases h) (Nat.le_refl _) (by omega) (by simp only [slen]; omega)).mono ?_
 rintro e w2 ⟨gv, ov, cv, szv, lenv, Fv, S1, rfl, hT⟩
 go_wp2_with fail
 refine (nat_make (.slice none 0 0) 0 (N + 1) _ (fun _ => 0) _ (.inl ⟨rfl, rfl⟩) (by omega) (by omega)).mono ?_
 rintro e w3 ⟨v3, F3, rfl, hm3, hf3, _⟩
 obtain ⟨gu, cu, rfl, hcu, hb3⟩ : ∃ g c, v3 = .slice (some ⟨g, 0, none⟩) (N + 1) c ∧ N + 1 ≤ c ∧ BlkW w3 g c F3 := by
  rcases hm3.own with ⟨_, h0⟩ | ⟨g, c, rfl, h1, hb⟩
  ·omega
  ·exact ⟨g, c, rfl, h1, hb⟩
 have hgu : w2.heap.size ≤ gu := by
  rcases hm3.at_ gu rfl with e | e
  ·simp [Value.ownBlock] at e
  ·exact e
 have hgvl := hT.bs.lt
 have hguv : gv ≠ gu := by omega
 have hT3 : Bs w3 gv szv lenv Fv := hT.bs.fr hf3 (fun x => x)
 obtain ⟨hxT, _, _⟩ := hT.keep gx ox N X (by omega) hxw (fun s h => by cases h)
 obtain ⟨hyT, _, _⟩ := hT.keep gy oy n Y (by omega) hyw (fun s h => by cases h)
 have hx3 := hxT.fr hf3 (fun x => x)
 have hy3 := hyT.fr hf3 (fun x => x)
 have hxl := hxw.lt (by omega)
 have hyl := hyw.lt (by omega)
 have hgvw : w1.heap.size ≤ gv := hT.gb
 have hgxv : gx ≠ gv := by omega
 have hgyv : gy ≠ gv := by omega
 have hsz2 := hT.fr.size
 have hgxu : gx ≠ gu := by omega
 have hgyu : gy ≠ gu := by omega
 by_cases hs0 : s = 0
 ·have b1 : ((s : Int) == 0) = true := by simp; exact hs0
  have hcv := hT.cap
  have hfv := hT.fit
  go_wp2_with (with_reducible refine copy_bs rfl (.tmp 41) (.tmp 42) _ _ rfl Tryz.underlying95 gv ov n cv szv lenv gy oy n cy Fv Y ?hd ?hs hT3 hfv hy3 (Nat.le_refl _) ?_)
  case hd => rfl
  case hs => rfl
  intro w4 G4 hb4 hG4 hold4 hf4
  have hu4 := hb3.fr hf4 (fun e => hguv e.symm)
  have hx4 := hx3.fr hf4 hgxv
  have hNcu : N < cu := by omega
  have hv4 : Vb BB G4 ov n + BB ^ n * 0 = Vb BB Y 0 n * 2 ^ s := by
   rw [hs0, Nat.pow_zero, Nat.mul_one, Nat.mul_zero, Nat.add_zero]
   exact V_congr (fun j hj => by rw [Nat.zero_add]; exact hG4.out j hj)
  clear hG4 hold4
  go_wp2_with (with_reducible refine copy_blk rfl (.tmp 47) (.tmp 48) _ _ rfl Tryz.underlying95 gu 0 N cu cu gx ox N cx F3 X ?hd ?hs hu4 (by omega) hx4 (Nat.le_refl _) ?_)
  case hd => rfl
  case hs => rfl
  intro w5 G5 hb5 hG5 hold5 hf5
  have cuN := hb5.cell (j := N) (by omega)
  have fuN := hb5.free N
  have hc5B : 0 < BB := BB_pos
  have hv5 : Vb BB G5 0 N + BB ^ N * 0 = Vb BB X 0 N * 2 ^ s := by
   rw [hs0, Nat.pow_zero, Nat.mul_one, Nat.mul_zero, Nat.add_zero]
   exact V_congr (fun j hj => by rw [Nat.zero_add]; exact hG5.out j hj)
  clear hG5 hold5
  go_wp2_with fail
  refine (alias_none none 0 _ _).mono ?_
  rintro e w6 ⟨ka, rfl, rfl⟩
  go_wp2_with fail
  refine (nat_make (.slice none 0 0) 0 (m + 1) _ (fun _ => 0) _ (.inl ⟨rfl, rfl⟩) (by omega) (by have := hm.out; omega)).mono ?_
  rintro e w7 ⟨v7, F7, rfl, hm7, hf7, _⟩
  obtain ⟨gQ, cQ, rfl, hcQ, hbQ⟩ : ∃ g c, v7 = .slice (some ⟨g, 0, none⟩) (m + 1) c ∧ m + 1 ≤ c ∧ BlkW w7 g c F7 := by
   rcases hm7.own with ⟨_, h0⟩ | ⟨g, c, rfl, h1, hb⟩
   ·omega
   ·exact ⟨g, c, rfl, h1, hb⟩
  have hgQ5 : w5.heap.size ≤ gQ := by
   rcases hm7.at_ gQ rfl with e | e
   ·simp [Value.ownBlock] at e
   ·simpa using e
  have hs3 := hf3.size
  have hs4 := hf4.size
  have hs5 := hf5.size
  have hul5 := hb5.lt
  have hgQu : gQ ≠ gu := by omega
  have hgQv : gQ ≠ gv := by omega
  -- what has been written since the stack's row was taken
  have fr27 : Fr (fun k => k = gv ∨ w2.heap.size ≤ k) w2 w7 := by
   have a := hf3.mono (S' := fun k => k = gv ∨ w2.heap.size ≤ k) (fun _ _ x => x.elim)
   have b := hf4.mono (S' := fun k => k = gv ∨ w2.heap.size ≤ k) (fun _ _ x => .inl x)
   have c := hf5.mono (S' := fun k => k = gv ∨ w2.heap.size ≤ k) (fun _ _ x => .inr (by rw [x]; exact hgu))
   have d := (c.setCell ⟨gu, N, none⟩ (.int .u64 (0 : Nat)) (.inr (.inr hgu))).drewN ka
   have f := hf7.mono (S' := fun k => k = gv ∨ w2.heap.size ≤ k) (fun _ _ x => x.elim)
   exact (((a.trans b (fun _ _ x => x)).trans d (fun _ _ x => x))).trans f (fun _ _ x => x)
  have fr17 : Fr (fun k => k = p ∨ w1.heap.size ≤ k) w1 w7 := by
   have a := hT.fr.mono (S' := fun k => k = p ∨ w1.heap.size ≤ k) (fun k _ x => x.elim .inl (fun ⟨_, h, _⟩ => by cases h))
   have b := fr27.mono (S' := fun k => k = p ∨ w1.heap.size ≤ k) (fun k _ x => x.elim (fun e => .inr (by rw [e]; exact hgvw)) (fun e => .inr (by omega)))
   exact a.trans b (fun _ _ x => x)
  have hD7 := (fr17.cell (p := ⟨8, 0, none⟩) hgl (by
   rintro (e | e)
   ·exact hgp e
   ·exact absurd hgl (Nat.not_lt.2 e))).trans hDT
  have hv7 : Bs w7 gv szv lenv G4 := ((((hb4.fr hf5 hguv).of_eq (heap_setCell_other _ ⟨gu, N, none⟩ gv (.int .u64 (0 : Nat)) hguv)).drewN ka)).fr hf7 (fun x => x)
  have hu7 : BlkW w7 gu cu (upd G5 N 0) := (((hb5.store (i := N) (x := 0) hc5B)).drewN ka).fr hf7 (fun x => x)
  have hq2 : ∀ s, S1 = some s → s.q < w2.heap.size ∧ s.q ≠ gv := by
   intro s hs1
   have hst := hT.stk
   rw [hs1] at hst
   have h5 := hst.2.1.2.2.2
   rw [(hT.buf s hs1).1] at h5
   exact ⟨(Array.getElem?_eq_some_iff.1 hst.2.1.1).1, fun e => h5 e.symm⟩
  have hstk7 : Stk w7 p S1 := hT.stk_after hv7 fr27 (by
   rintro (e | e)
   ·exact hT.gp e.symm
   ·omega) (fun s hs1 => by
   obtain ⟨a1, a2⟩ := hq2 s hs1
   rintro (e | e)
   ·exact a2 e
   ·omega)
  have hvw : ∀ j, j < n1 + 1 → Y j < BB := fun j hj => hyw.word j (by omega)
  have hvw4 : ∀ j, j < n1 + 1 → G4 (ov + j) < BB := fun j hj => hb4.word _ (by omega)
  have eV : Vb BB (fun j => G4 (ov + j)) 0 n = Vb BB G4 ov n := V_congr (fun j hj => by rw [Nat.zero_add])
  have hsY : Y n1 * 2 ^ s < 18446744073709551616 ∧ 9223372036854775808 ≤ Y n1 * 2 ^ s := by rw [← hy1.out]; exact ⟨hs.lt, hs.top⟩
  obtain ⟨hc40, hVtop⟩ := norm_top (Y := Y) (V := fun j => G4 (ov + j)) (n := n1) (s := s) (c := 0) hs.le hvw hvw4 hsY.1 hsY.2 (by rw [← hn1.out, eV]; exact hv4)
  rw [Nat.mul_zero, Nat.add_zero] at hv4
  have hUval : Vb BB (upd G5 N 0) 0 (N + 1) = Vb BB X 0 N * 2 ^ s := by
   have := V_upd_succ BB G5 0 N 0
   rw [Nat.zero_add] at this
   rw [this]; exact hv5
  have hc5l : 0 < 9223372036854775808 := by decide
  have hmN : m + 1 + n = N + 1 := by have := hm.out; omega
  have hIn : DivIn w7 p w1.heap.size n (m + 1) gu cu gQ cQ gv ov (upd G5 N 0) (fun j => G4 (ov + j)) F7 S1 := {
   stk := hstk7
   base := hT.base
   hb := fr17.size
   u := hu7
   ul := by omega
   v := hv7.words (by omega)
   live := hT.live
   q := hbQ
   ql := by omega
   n2 := hn2
   m1 := by omega
   small := by omega
   short := by have h0 : slen S1 ≤ 0 + n + 3 := hT.short; omega
   top := by have := hn1.out; rw [show n - 1 = n1 by omega]; exact hVtop
   fits := by
    have := hn1.out
    rw [show n - 1 = n1 by omega, show m + 1 + n - 1 = N by omega, upd_same]
    exact Nat.lt_of_lt_of_le hc5l hVtop
   uQ := fun e => hgQu e.symm
   vu := hguv
   vQ := fun e => hgQv e.symm
   up := by omega
   Qp := by omega
   su := by
    rintro k ⟨s1, h1, h2⟩
    obtain ⟨a1, _⟩ := hq2 s1 h1
    have a3 := (hT.buf s1 h1).1
    rcases h2 with h2 | h2
    ·omega
    ·rw [h2, a3]; exact ⟨hguv, fun e => hgQv e.symm⟩ }
  have hDB := divBasic p w1.heap.size n (m + 1) gu cu cu gQ cQ cQ gv ov cv _ _ _ _ _ hIn (by omega) (by omega) hT.cap
  rw [hmN, eV, hv4, hUval] at hDB
  have HDB := Lib.hid hDB
  have g40 : decide ((n : Int) < 40) = true := decide_eq_true (by omega)
  clear hDB hIn hUval hc5l hVtop hsY eV hv4 hv5 hvw hvw4
  go_wp2_with fail
  refine HDB.out.mono ?_
  rintro e w8 ⟨G8, Q8, S8, rfl, hu8, hQ8, hN8, hlt8, hz8, hstk8, hb8, hf8⟩
  have hoQ : OwnW w8 (.slice (some ⟨gQ, 0, none⟩) (m + 1) cQ) (m + 1) Q8 := .inr ⟨gQ, cQ, rfl, hcQ, hQ8⟩
  go_wp2_with fail
  refine (nat_norm_own _ (m + 1) Q8 _ hoQ).mono ?_
  rintro e w9 ⟨vq, nq, rfl, hoq, hnq, htq, hvq, hobq, rfl⟩
  have b9 : ((s : Int) != 0) = false := by simp; exact hs0
  have eA : Vb BB G8 0 (N + 1) / 2 ^ s = Vb BB G8 0 (N + 1) := by rw [hs0, Nat.pow_zero, Nat.div_one]
  have hoU : OwnW w8 (.slice (some ⟨gu, 0, none⟩) (N + 1) cu) (N + 1) G8 := .inr ⟨gu, cu, rfl, hcu, hu8⟩
  go_wp2_with fail
  refine (nat_norm_own _ (N + 1) G8 _ hoU).mono ?_
  rintro e wB ⟨vr, nr, rfl, hor, hnr, htr, hvr, hobr, rfl⟩
  have hoqA := hoq
  obtain ⟨Aq, kq, rfl, _, _⟩ := hoqA.rd.shape
  obtain ⟨Ar, kr, rfl, _, _⟩ := hor.rd.shape
  have HD := Lib.hid (show Vb BB Q8 0 nq = Vb BB X 0 N / Vb BB Y 0 n ∧ Vb BB G8 0 nr = Vb BB X 0 N % Vb BB Y 0 n by
   have hz9 : Vb BB G8 0 n = Vb BB G8 0 (N + 1) := V_norm (by omega) (fun j h1 h2 => hz8 j h1 (by omega))
   rw [Nat.mul_comm (Vb BB Y 0 n) (2 ^ s)] at hN8 hlt8
   rw [Nat.mul_comm (2 ^ s)] at hN8 hlt8
   obtain ⟨a1, a2, a3⟩ := unshift2 (Nat.pow_pos (by omega)) hN8 hlt8
   refine ⟨hvq.trans a1, ?_⟩
   rw [hvr, ← a2, hz9]
   exact eA.symm)
  clear hN8 hlt8 hz8 eA hvr hvq
  have hs7 := fr17.size
  have hs8 := hf8.size
  go_wp2
  refine leaves_cons (f := 185) (args := #[.pointer (some ⟨p, 0, none⟩), .int .i64 (slen none : Nat)]) (by simp) (by simp [go_sem]) ?_
  refine (stack_restore_later p w1.heap.size 0 _ S8 _ hstk8 (Nat.zero_le _)).mono ?_
  rintro e u' wZ ⟨rfl, rfl, hB⟩
  have hoqZ := hoqA.back hstk8 hB
  have horZ := hor.back hstk8 hB
  have frZ : Fr (· = p) w1 wZ := by
   have a := fr17.mono (S' := fun k => k = p ∨ w1.heap.size ≤ k) (fun _ _ x => x)
   have b := hf8.mono (S' := fun k => k = p ∨ w1.heap.size ≤ k) (fun k _ x => by rcases x with x | x | x | x <;> omega)
   have d := hB.fr.mono (S' := fun k => k = p ∨ w1.heap.size ≤ k) (fun k _ x => .inr (hb8 k x.1))
   have e := (a.trans b (fun _ _ x => x))
   exact (e.trans d (fun _ _ x => x)).mono (fun k h1 x => by rcases x with x | x <;> omega)
  obtain ⟨S9, hS9, _, hS9b⟩ := hB.stk
  simp only [Leaves, settle]
  refine ⟨_, results_tmp2 rfl _ _ _, .slice Aq nq kq, .slice Ar nr kr, nq, nr, Q8, G8, S9, rfl, hoqZ, horZ, htq, htr, by omega, hnr, HD.out.1, HD.out.2, frZ, hS9, fun k hk => hb8 k (hS9b k hk), fun k hk hk2 => ?_, fun k hk => ?_, fun k hk => ?_⟩
  ·rw [hobq] at hk; rw [hobr] at hk2; simp only [Value.ownBlock, Option.some.injEq] at hk hk2; omega
  ·rw [hobq] at hk; simp only [Value.ownBlock, Option.some.injEq] at hk; omega
  ·rw [hobr] at hk; simp only [Value.ownBlock, Option.some.injEq] at hk; omega
 ·have b1 : ((s : Int) == 0) = false := by simp; exact hs0
  have hcv := hT.cap
  have hfv := hT.fit
  go_wp2_with fail
  refine (lshVU_s n gv ov szv lenv cv gy oy cy s Fv Y _ hT3 hy3 hfv (fun e => absurd e hgyv) (by omega) (by omega) hs.le).mono ?_
  rintro e w4 ⟨c4, G4, rfl, _, hb4, hold4, hv4, hf4⟩
  have hu4 := hb3.fr hf4 (fun e => hguv e.symm)
  have hx4 := hx3.fr hf4 hgxv
  go_wp2_with fail
  refine (lshVU N gu 0 cu cu gx ox cx s F3 X _ hu4 hx4 (by omega) (fun e => absurd e hgxu) (by omega) (by omega) hs.le).mono ?_
  rintro e w5 ⟨c5, G5, rfl, hc5, hb5, hold5, hv5, hf5⟩
  have cuN := hb5.cell (j := N) (by omega)
  have fuN := hb5.free N
  have hNcu : N < cu := by omega
  have hc5B : c5 < BB := Nat.lt_of_lt_of_le hc5 (by rw [BB_eq]; exact Nat.pow_le_pow_right (n := 2) (by omega) (show s ≤ 64 by have := hs.le; omega))
  go_wp2_with fail
  refine (alias_none none 0 _ _).mono ?_
  rintro e w6 ⟨ka, rfl, rfl⟩
  go_wp2_with fail
  refine (nat_make (.slice none 0 0) 0 (m + 1) _ (fun _ => 0) _ (.inl ⟨rfl, rfl⟩) (by omega) (by have := hm.out; omega)).mono ?_
  rintro e w7 ⟨v7, F7, rfl, hm7, hf7, _⟩
  obtain ⟨gQ, cQ, rfl, hcQ, hbQ⟩ : ∃ g c, v7 = .slice (some ⟨g, 0, none⟩) (m + 1) c ∧ m + 1 ≤ c ∧ BlkW w7 g c F7 := by
   rcases hm7.own with ⟨_, h0⟩ | ⟨g, c, rfl, h1, hb⟩
   ·omega
   ·exact ⟨g, c, rfl, h1, hb⟩
  have hgQ5 : w5.heap.size ≤ gQ := by
   rcases hm7.at_ gQ rfl with e | e
   ·simp [Value.ownBlock] at e
   ·simpa using e
  have hs3 := hf3.size
  have hs4 := hf4.size
  have hs5 := hf5.size
  have hul5 := hb5.lt
  have hgQu : gQ ≠ gu := by omega
  have hgQv : gQ ≠ gv := by omega
  -- what has been written since the stack's row was taken
  have fr27 : Fr (fun k => k = gv ∨ w2.heap.size ≤ k) w2 w7 := by
   have a := hf3.mono (S' := fun k => k = gv ∨ w2.heap.size ≤ k) (fun _ _ x => x.elim)
   have b := hf4.mono (S' := fun k => k = gv ∨ w2.heap.size ≤ k) (fun _ _ x => .inl x)
   have c := hf5.mono (S' := fun k => k = gv ∨ w2.heap.size ≤ k) (fun _ _ x => .inr (by rw [x]; exact hgu))
   have d := (c.setCell ⟨gu, N, none⟩ (.int .u64 (c5 : Nat)) (.inr (.inr hgu))).drewN ka
   have f := hf7.mono (S' := fun k => k = gv ∨ w2.heap.size ≤ k) (fun _ _ x => x.elim)
   exact (((a.trans b (fun _ _ x => x)).trans d (fun _ _ x => x))).trans f (fun _ _ x => x)
  have fr17 : Fr (fun k => k = p ∨ w1.heap.size ≤ k) w1 w7 := by
   have a := hT.fr.mono (S' := fun k => k = p ∨ w1.heap.size ≤ k) (fun k _ x => x.elim .inl (fun ⟨_, h, _⟩ => by cases h))
   have b := fr27.mono (S' := fun k => k = p ∨ w1.heap.size ≤ k) (fun k _ x => x.elim (fun e => .inr (by rw [e]; exact hgvw)) (fun e => .inr (by omega)))
   exact a.trans b (fun _ _ x => x)
  have hD7 := (fr17.cell (p := ⟨8, 0, none⟩) hgl (by
   rintro (e | e)
   ·exact hgp e
   ·exact absurd hgl (Nat.not_lt.2 e))).trans hDT
  have hv7 : Bs w7 gv szv lenv G4 := ((((hb4.fr hf5 hguv).of_eq (heap_setCell_other _ ⟨gu, N, none⟩ gv (.int .u64 (c5 : Nat)) hguv)).drewN ka)).fr hf7 (fun x => x)
  have hu7 : BlkW w7 gu cu (upd G5 N c5) := (((hb5.store (i := N) (x := c5) hc5B)).drewN ka).fr hf7 (fun x => x)
  have hq2 : ∀ s, S1 = some s → s.q < w2.heap.size ∧ s.q ≠ gv := by
   intro s hs1
   have hst := hT.stk
   rw [hs1] at hst
   have h5 := hst.2.1.2.2.2
   rw [(hT.buf s hs1).1] at h5
   exact ⟨(Array.getElem?_eq_some_iff.1 hst.2.1.1).1, fun e => h5 e.symm⟩
  have hstk7 : Stk w7 p S1 := hT.stk_after hv7 fr27 (by
   rintro (e | e)
   ·exact hT.gp e.symm
   ·omega) (fun s hs1 => by
   obtain ⟨a1, a2⟩ := hq2 s hs1
   rintro (e | e)
   ·exact a2 e
   ·omega)
  have hvw : ∀ j, j < n1 + 1 → Y j < BB := fun j hj => hyw.word j (by omega)
  have hvw4 : ∀ j, j < n1 + 1 → G4 (ov + j) < BB := fun j hj => hb4.word _ (by omega)
  have eV : Vb BB (fun j => G4 (ov + j)) 0 n = Vb BB G4 ov n := V_congr (fun j hj => by rw [Nat.zero_add])
  have hsY : Y n1 * 2 ^ s < 18446744073709551616 ∧ 9223372036854775808 ≤ Y n1 * 2 ^ s := by rw [← hy1.out]; exact ⟨hs.lt, hs.top⟩
  obtain ⟨hc40, hVtop⟩ := norm_top (Y := Y) (V := fun j => G4 (ov + j)) (n := n1) (s := s) (c := c4) hs.le hvw hvw4 hsY.1 hsY.2 (by rw [← hn1.out, eV]; exact hv4)
  rw [hc40, Nat.mul_zero, Nat.add_zero] at hv4
  have hUval : Vb BB (upd G5 N c5) 0 (N + 1) = Vb BB X 0 N * 2 ^ s := by
   have := V_upd_succ BB G5 0 N c5
   rw [Nat.zero_add] at this
   rw [this]; exact hv5
  have hc5l : c5 < 9223372036854775808 := Nat.lt_of_lt_of_le hc5 (Nat.pow_le_pow_right (n := 2) (by omega) hs.le)
  have hmN : m + 1 + n = N + 1 := by have := hm.out; omega
  have hIn : DivIn w7 p w1.heap.size n (m + 1) gu cu gQ cQ gv ov (upd G5 N c5) (fun j => G4 (ov + j)) F7 S1 := {
   stk := hstk7
   base := hT.base
   hb := fr17.size
   u := hu7
   ul := by omega
   v := hv7.words (by omega)
   live := hT.live
   q := hbQ
   ql := by omega
   n2 := hn2
   m1 := by omega
   small := by omega
   short := by have h0 : slen S1 ≤ 0 + n + 3 := hT.short; omega
   top := by have := hn1.out; rw [show n - 1 = n1 by omega]; exact hVtop
   fits := by
    have := hn1.out
    rw [show n - 1 = n1 by omega, show m + 1 + n - 1 = N by omega, upd_same]
    exact Nat.lt_of_lt_of_le hc5l hVtop
   uQ := fun e => hgQu e.symm
   vu := hguv
   vQ := fun e => hgQv e.symm
   up := by omega
   Qp := by omega
   su := by
    rintro k ⟨s1, h1, h2⟩
    obtain ⟨a1, _⟩ := hq2 s1 h1
    have a3 := (hT.buf s1 h1).1
    rcases h2 with h2 | h2
    ·omega
    ·rw [h2, a3]; exact ⟨hguv, fun e => hgQv e.symm⟩ }
  have hDB := divBasic p w1.heap.size n (m + 1) gu cu cu gQ cQ cQ gv ov cv _ _ _ _ _ hIn (by omega) (by omega) hT.cap
  rw [hmN, eV, hv4, hUval] at hDB
  have HDB := Lib.hid hDB
  have g40 : decide ((n : Int) < 40) = true := decide_eq_true (by omega)
  clear hDB hIn hUval hc5l hVtop hsY eV hv4 hv5 hvw hvw4
  go_wp2_with fail
  refine HDB.out.mono ?_
  rintro e w8 ⟨G8, Q8, S8, rfl, hu8, hQ8, hN8, hlt8, hz8, hstk8, hb8, hf8⟩
  have hoQ : OwnW w8 (.slice (some ⟨gQ, 0, none⟩) (m + 1) cQ) (m + 1) Q8 := .inr ⟨gQ, cQ, rfl, hcQ, hQ8⟩
  go_wp2_with fail
  refine (nat_norm_own _ (m + 1) Q8 _ hoQ).mono ?_
  rintro e w9 ⟨vq, nq, rfl, hoq, hnq, htq, hvq, hobq, rfl⟩
  have b9 : ((s : Int) != 0) = true := by simp; exact hs0
  go_wp2_with fail
  refine (rshVU (N + 1) gu 0 cu cu gu 0 cu s G8 _ _ hu8 (Words.of_blk hu8 (o := 0) (n := N + 1) (by omega)) (by omega) (fun _ => rfl) (by omega) (by omega) hs.le).mono ?_
  rintro e wA ⟨cA, GA, rfl, huA, holdA, hvA, hfA⟩
  have hstkA : Stk wA p S8 := hstk8.fr_blk hu8 huA hfA (by omega)
  have eA : Vb BB G8 0 (N + 1) / 2 ^ s = Vb BB GA 0 (N + 1) := by
   have e8 : Vb BB (fun j => G8 (0 + j)) 0 (N + 1) = Vb BB G8 0 (N + 1) := V_congr (fun j hj => by simp)
   rw [e8] at hvA
   exact (shifted_back hvA (Nat.mod_lt _ (Nat.pow_pos (by omega)))).symm
  have hsA := hfA.size
  clear hvA
  have hoU : OwnW wA (.slice (some ⟨gu, 0, none⟩) (N + 1) cu) (N + 1) GA := .inr ⟨gu, cu, rfl, hcu, huA⟩
  go_wp2_with fail
  refine (nat_norm_own _ (N + 1) GA _ hoU).mono ?_
  rintro e wB ⟨vr, nr, rfl, hor, hnr, htr, hvr, hobr, rfl⟩
  have hoqA : OwnW wA vq nq Q8 := hoq.fr hfA (fun k hk e => hgQu (by rw [hobq] at hk; simp only [Value.ownBlock, Option.some.injEq] at hk; omega))
  obtain ⟨Aq, kq, rfl, _, _⟩ := hoqA.rd.shape
  obtain ⟨Ar, kr, rfl, _, _⟩ := hor.rd.shape
  have HD := Lib.hid (show Vb BB Q8 0 nq = Vb BB X 0 N / Vb BB Y 0 n ∧ Vb BB GA 0 nr = Vb BB X 0 N % Vb BB Y 0 n by
   have hz9 : Vb BB G8 0 n = Vb BB G8 0 (N + 1) := V_norm (by omega) (fun j h1 h2 => hz8 j h1 (by omega))
   rw [Nat.mul_comm (Vb BB Y 0 n) (2 ^ s)] at hN8 hlt8
   rw [Nat.mul_comm (2 ^ s)] at hN8 hlt8
   obtain ⟨a1, a2, a3⟩ := unshift2 (Nat.pow_pos (by omega)) hN8 hlt8
   refine ⟨hvq.trans a1, ?_⟩
   rw [hvr, ← a2, hz9]
   exact eA.symm)
  clear hN8 hlt8 hz8 eA hvr hvq
  have hs7 := fr17.size
  have hs8 := hf8.size
  go_wp2
  refine leaves_cons (f := 185) (args := #[.pointer (some ⟨p, 0, none⟩), .int .i64 (slen none : Nat)]) (by simp) (by simp [go_sem]) ?_
  refine (stack_restore_later p w1.heap.size 0 _ S8 _ hstkA (Nat.zero_le _)).mono ?_
  rintro e u' wZ ⟨rfl, rfl, hB⟩
  have hoqZ := hoqA.back hstkA hB
  have horZ := hor.back hstkA hB
  have frZ : Fr (· = p) w1 wZ := by
   have a := fr17.mono (S' := fun k => k = p ∨ w1.heap.size ≤ k) (fun _ _ x => x)
   have b := hf8.mono (S' := fun k => k = p ∨ w1.heap.size ≤ k) (fun k _ x => by rcases x with x | x | x | x <;> omega)
   have d := hB.fr.mono (S' := fun k => k = p ∨ w1.heap.size ≤ k) (fun k _ x => .inr (hb8 k x.1))
   have e := ((a.trans b (fun _ _ x => x)).trans (hfA.mono (S' := fun k => k = p ∨ w1.heap.size ≤ k) (fun k _ x => by omega)) (fun _ _ x => x))
   exact (e.trans d (fun _ _ x => x)).mono (fun k h1 x => by rcases x with x | x <;> omega)
  obtain ⟨S9, hS9, _, hS9b⟩ := hB.stk
  simp only [Leaves, settle]
  refine ⟨_, results_tmp2 rfl _ _ _, .slice Aq nq kq, .slice Ar nr kr, nq, nr, Q8, GA, S9, rfl, hoqZ, horZ, htq, htr, by omega, hnr, HD.out.1, HD.out.2, frZ, hS9, fun k hk => hb8 k (hS9b k hk), fun k hk hk2 => ?_, fun k hk => ?_, fun k hk => ?_⟩
  ·rw [hobq] at hk; rw [hobr] at hk2; simp only [Value.ownBlock, Option.some.injEq] at hk hk2; omega
  ·rw [hobq] at hk; simp only [Value.ownBlock, Option.some.injEq] at hk; omega
  ·rw [hobr] at hk; simp only [Value.ownBlock, Option.some.injEq] at hk; omega
structure Quot (w w' : World) (vq vr : Value) (N M : Nat) (mq mr : Nat) : Prop where
 fr : Fr NoS w w'
 q : ∃ (nq : Nat) (Q : Nat → Nat), OwnW w' vq nq Q ∧ Top Q nq ∧ nq ≤ mq ∧ Vb BB Q 0 nq = N / M ∧ ∀ k, vq.ownBlock = some k → w.heap.size ≤ k
 r : ∃ (nr : Nat) (R : Nat → Nat), OwnW w' vr nr R ∧ Top R nr ∧ nr ≤ mr ∧ Vb BB R 0 nr = N % M ∧ ∀ k, vr.ownBlock = some k → w.heap.size ≤ k
 ne : ∀ k, vq.ownBlock = some k → vr.ownBlock ≠ some k
set_option maxHeartbeats 4000000 in
set_option maxRecDepth 100000 in
theorem nat_div (n N : Nat) (vx vy : Value) (X Y : Nat → Nat) (w : World) (hx : RdW w vx N X) (hy : RdW w vy n Y) (tx : Top X N) (ty : Top Y n) (hn0 : 0 < n) (hN0 : 0 < N) (hn40 : n < 40) (hN : N ≤ 90000000)
  (hDT : w.cell? ⟨8, 0, none⟩ = some (.int .i64 40)) :
  Calls Tryz.prog 161 #[.slice none 0 0, .pointer none, .slice none 0 0, vx, vy] w fun e w' =>
   ∃ vq vr : Value, e = .returned (.tuple #[vq, vr]) ∧ Quot w w' vq vr (Vb BB X 0 N) (Vb BB Y 0 n) N (N + 1) := by
 obtain ⟨gy, oy, cy, rfl, hcy1, hcy2, hyw⟩ := hy.words_of (by omega)
 obtain ⟨gx, ox, cx, rfl, hcx1, hcx2, hxw⟩ := hx.words_of (by omega)
 have b0 : ((n : Int) == 0) = false := by simp; omega
 by_cases h1 : n = 1
 ·subst h1
  have b1 : (((1 : Nat) : Int) == 1) = true := by simp
  obtain ⟨y0, hy0⟩ : ∃ y0, Hid (y0 = Y 0) := ⟨_, Lib.hid rfl⟩
  have cy0 : w.cell? ⟨gy, oy, none⟩ = some (.int .u64 y0) := by
   have := hyw.cell 0 (by omega)
   rw [Nat.add_zero] at this
   rw [this, ← hy0.out]
  have hy0B : y0 < BB := by rw [hy0.out]; exact hyw.word 0 (by omega)
  have hy0p : 0 < y0 := by
   rcases ty with h | h
   ·omega
   ·rw [hy0.out]; exact h
  have D := nat_divW (.slice none 0 0) _ 0 N y0 (fun _ => 0) X w (.inl ⟨rfl, rfl⟩) hx tx hN0 (by omega) (fun k h => by cases h) hy0p hy0B
  go_enter_defers Tryz.func161, Tryz.ntmps161
  go_wp2_with fail
  refine D.mono ?_
  rintro e w1 ⟨v1, n1, r, G, rfl, hm1, hn1, ht1, hr, hV⟩
  have hrB : r < BB := Nat.lt_trans hr hy0B
  obtain ⟨A1, k1, rfl, _, _⟩ := hm1.own.rd.shape
  have HV := Lib.hid hV
  clear hV
  go_wp2_with fail
  refine (nat_setWord (.slice none 0 0) 0 r (fun _ => 0) _ (.inl ⟨rfl, rfl⟩) hrB).mono ?_
  rintro e w2 ⟨v2, n2, G2, rfl, hm2, hn2, ht2, hV2⟩
  obtain ⟨A2, k2, rfl, _, _⟩ := hm2.own.rd.shape
  have HV2 := Lib.hid hV2
  clear hV2
  go_wp2
  have hf2 : Fr NoS w1 w2 := hm2.fr.mono (fun _ _ e => by cases e)
  refine bodyPostD_ret (results_tmp2 rfl _ _ _) rfl ⟨.slice A1 n1 k1, .slice A2 n2 k2, rfl, ⟨(hm1.fr.mono (S' := NoS) (fun _ _ e => by cases e)).trans' hf2, ⟨n1, G, hm1.own.fr hf2 (fun _ _ x => x), ht1, hn1, ?_, fun k hk => ?_⟩, ⟨n2, G2, hm2.own, ht2, by omega, ?_, fun k hk => ?_⟩, fun k hk hk2 => ?_⟩⟩
  ·have hs := hm2.fr
   rw [hy0.out] at HV hr
   have eY : Vb BB Y 0 1 = Y 0 := by simp [Vb]
   rw [eY, HV.out, Nat.add_comm, Nat.add_mul_div_right _ _ (by omega), Nat.div_eq_of_lt hr, Nat.zero_add]
  ·rcases hm1.at_ k hk with h | h
   ·cases h
   ·exact h
  ·rw [hy0.out] at HV hr
   have eY : Vb BB Y 0 1 = Y 0 := by simp [Vb]
   rw [eY, HV.out, Nat.add_comm, Nat.add_mul_mod_self_right, Nat.mod_eq_of_lt hr]
   exact HV2.out
  ·have := hm1.fr.size
   rcases hm2.at_ k hk with h | h
   ·cases h
   ·omega
  ·have h2 := hm1.own.lt hk
   rcases hm2.at_ k hk2 with h | h
   ·cases h
   ·omega
 ·have b1 : ((n : Int) == 1) = false := by simp; omega
  have C := nat_cmp _ _ N n X Y w hx hy tx ty
  by_cases hlt : Vb BB X 0 N < Vb BB Y 0 n
  ·rw [cmpI_lt hlt] at C
   have b2 : decide ((-1 : Int) < 0) = true := by decide
   go_enter_defers Tryz.func161, Tryz.ntmps161
   go_wp2_with fail
   refine C.mono ?_
   rintro e w1 ⟨rfl, q, rfl⟩
   go_wp2_with fail
   refine (nat_set (.slice none 0 0) _ 0 N (fun _ => 0) X _ (.inl ⟨rfl, rfl⟩) (hx.fr ((Fr.refl NoS w).drewN q) (fun _ _ x => x)) hN0 (by omega)).mono ?_
   rintro e w2 ⟨v2, G2, rfl, hm2, hG2⟩
   obtain ⟨A2, k2, rfl, _, _⟩ := hm2.own.rd.shape
   go_wp2
   have hf2 : Fr NoS w w2 := ((Fr.refl NoS w).drewN q).trans' (hm2.fr.mono (fun _ _ e => by cases e))
   refine bodyPostD_ret (results_tmp2 rfl _ _ _) rfl ⟨.slice none 0 0, .slice A2 N k2, rfl, ⟨hf2, ⟨0, fun _ => 0, .inl ⟨rfl, rfl⟩, .inl rfl, by omega, ?_, fun k hk => by cases hk⟩, ⟨N, G2, hm2.own, ?_, by omega, ?_, fun k hk => ?_⟩, fun k hk => by cases hk⟩⟩
   ·rw [Nat.div_eq_of_lt hlt]; simp [Vb]
   ·rcases tx with h | h
    ·exact .inl h
    ·exact .inr (by rw [hG2 _ (by omega)]; exact h)
   ·rw [Nat.mod_eq_of_lt hlt]
    exact V_congr (fun j hj => by rw [Nat.zero_add]; exact hG2 j hj)
   ·rcases hm2.at_ k hk with h | h
    ·cases h
    ·exact h
  ·have hnN : n ≤ N := by
    refine Nat.le_of_not_lt fun h => hlt ?_
    exact V_top_lt (fun j hj => hx.word hj) ty h
   have b2 : decide (cmpI (Vb BB X 0 N) (Vb BB Y 0 n) < 0) = false := by rw [decide_eq_false]; rw [cmpI, if_neg hlt]; split <;> decide
   go_enter_defers Tryz.func161, Tryz.ntmps161
   go_wp2_with fail
   refine C.mono ?_
   rintro e w1 ⟨rfl, q, rfl⟩
   generalize cmpI (Vb BB X 0 N) (Vb BB Y 0 n) = cc at b2
   go_wp2_with fail
   refine (getStack _).mono ?_
   rintro e w2 ⟨p, rfl, hS, hp, hf⟩
   have hf2 : Fr NoS w w2 := ((Fr.refl NoS w).drewN q).trans' hf
   have HP : Hid (p = w.heap.size) := Lib.hid hp
   clear hp
   have L := divLarge p n N _ _ X Y w2 hS (hx.fr hf2 (fun _ _ x => x)) (hy.fr hf2 (fun _ _ x => x)) ty (by omega) hnN hn40 hN ((hf2.cell (World.block_lt_of_cell? w _ hDT) (fun x => x)).trans hDT)
   go_wp2_with fail
   refine L.mono ?_
   rintro e w3 ⟨vq, vr, nq, nr, Q, R, S', rfl, hoq, hor, htq, htr, hnq, hnr, hvq, hvr, hf3, hS3, hkS, hqr, hkq, hkr⟩
   obtain ⟨Aq, kq, rfl, _, _⟩ := hoq.rd.shape
   obtain ⟨Ar, kr, rfl, _, _⟩ := hor.rd.shape
   have HV := Lib.hid (And.intro hvq hvr)
   clear hvq hvr
   go_wp2
   refine leaves_cons (f := 180) (args := #[.pointer (some ⟨p, 0, none⟩)]) (by simp) (by simp [go_sem]) ?_
   refine (stack_free_later p _ S' _ hS3).mono ?_
   rintro e u' wZ ⟨rfl, rfl, hfZ, hheap, _⟩
   have hpn : p = w.heap.size := HP.out
   have hs2 := hf2.size
   have frZ : Fr NoS w wZ := (hf2.trans (hf3.mono (S' := fun k => w.heap.size ≤ k) (fun k _ e => by omega)) (fun k h e => by omega)).trans hfZ (fun k hk e => by have := hkS k e; omega)
   have hback : ∀ (v : Value) (m : Nat) (F : Nat → Nat), OwnW w3 v m F → OwnW wZ v m F := by
    intro v m F h
    refine h.of_eq fun j hj => hheap j ?_
    rcases h with ⟨rfl, _⟩ | ⟨g, c, rfl, _, hb⟩
    ·cases hj
    ·simp only [Value.ownBlock, Option.some.injEq] at hj
     subst hj
     exact Stk.inner_ne hS3 hb
   simp only [Leaves, settle]
   refine ⟨_, results_tmp2 rfl _ _ _, .slice Aq nq kq, .slice Ar nr kr, rfl, ⟨frZ, ⟨nq, Q, hback _ _ _ hoq, htq, by omega, HV.out.1, fun k hk => ?_⟩, ⟨nr, R, hback _ _ _ hor, htr, hnr, HV.out.2, fun k hk => ?_⟩, hqr⟩⟩
   ·have := hkq k hk; omega
   ·have := hkr k hk; omega
end Go.Proofs.YtilmldfbmmcchaaGreatDoor
