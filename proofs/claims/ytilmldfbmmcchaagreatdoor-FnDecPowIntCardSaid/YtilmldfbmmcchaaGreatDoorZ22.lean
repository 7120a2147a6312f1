/- Quotients of decimals, with the remainder. Quotients of decimals where the divisor is scaled. Twice a number, in its own place. A row of words and a carry. Conditions: each theorem bears its own. -/
import Derived.StillTailTactics
import Derived.Test.YtilmldfbmmcchaaGreatDoorZ21
set_option linter.unusedVariables false
set_option linter.unusedSimpArgs false
namespace Go.Proofs.YtilmldfbmmcchaaGreatDoor
open Go.RowKit
theorem Fr.kp {w w' : World} (f : Fr NoS w w') {g : Nat} {o : Obj} (B : w.heap[g]? = some o) : w'.heap[g]? = some o := (f.block _ (zLt B) (fun x => x)).trans B
theorem old1 {w : World} {o : Obj} {g : Nat} (h : g < w.heap.size) : (w.alloc o).heap[g]? = w.heap[g]? := Below.heap_alloc _ _ _ h
theorem new1 {w : World} {o : Obj} {g : Nat} (h : g = w.heap.size) : (w.alloc o).heap[g]? = some o := by subst h; exact heap_alloc_new w o
theorem RI.beside {w w' : World} {p g : Nat} {z : Int} {c : Array Value} {t : TypeId} (h : RI w p z) (f : Fr (· = g) w w') (hg : w.heap[g]? = some (.cells c t (0, 0))) (ht : t ≠ TW) (hpg : p ≠ g) : RI w' p z := by
 obtain ⟨s, v, n, F, h1, h2⟩ := h
 refine ⟨s, v, n, F, h1.fr f hpg (fun k hk e => ?_), h2⟩
 subst e
 rcases h1.rd with ⟨rfl, _⟩ | ⟨b, o, c', cs, rfl, _, _, _, hc, _⟩
 ·cases hk
 ·simp only [Value.ownBlock, Option.some.injEq] at hk
  subst hk
  rw [hc] at hg
  injection hg with hg
  injection hg with _ hg
  exact ht hg.symm
theorem RI.copied {w : World} {p q : Nat} {z : Int} {s : Bool} {v : Value} {n : Nat} {F : Nat → Nat} (h : IntRd w p s v n F) (hv : sgn s (Vb BB F 0 n) = z) {c : Array Value} (hq : w.heap[q]? = some (.cells c TI (0, 0))) (hc : c.size = 2) :
  RI ((w.setCell ⟨q, 0, none⟩ (.bool s)).setCell ⟨q, 1, none⟩ v) q z := by
 obtain ⟨c0, c1, rfl⟩ : ∃ c0 c1, c = #[c0, c1] := by
  obtain ⟨l⟩ := c
  match l, hc with
  | [a, b], _ => exact ⟨a, b, rfl⟩
 have f : Fr (· = q) w ((w.setCell ⟨q, 0, none⟩ (.bool s)).setCell ⟨q, 1, none⟩ v) := (Fr.set _ _ _ _).trans' (Fr.set _ _ _ _)
 have h1 : (w.setCell ⟨q, 0, none⟩ (.bool s)).heap[q]? = some (.cells #[.bool s, c1] TI (0, 0)) := by
  rw [heap_setCell_same w q 0 _ _ _ hq]; rfl
 have h2 : ((w.setCell ⟨q, 0, none⟩ (.bool s)).setCell ⟨q, 1, none⟩ v).heap[q]? = some (.cells #[.bool s, v] TI (0, 0)) := by
  rw [heap_setCell_same _ q 1 _ _ _ h1]; rfl
 refine ⟨s, v, n, F, ⟨h2, h.rd.fr f (fun k hk e => ?_), h.top, h.sign⟩, hv⟩
 exact h.rd.ne_int hq (by rw [hk, e])
theorem NewZ.rebase {w0 w7 w10 : World} {p : Nat} {z : Int} (h : NewZ w7 w10 p z) (f : Fr NoS w0 w10) (hs : w0.heap.size ≤ w7.heap.size) : NewZ w0 w10 p z := by
 obtain ⟨s, v, n, G, h1, h2, h3⟩ := h.own
 exact ⟨f, Nat.le_trans hs h.old, s, v, n, G, h1, h2, fun k hk => Nat.le_trans hs (h3 k hk)⟩
structure QR (w0 w w' : World) (pbb pq pr : Nat) (A B : Int) : Prop where
 fr : Fr (· = pbb) w w'
 bb : RI w' pbb B
 q : NewZ w0 w' pq (A.tdiv B)
 r : NewZ w0 w' pr (A.tmod B)
 nq : w.heap.size ≤ pq
 nr : w.heap.size ≤ pr
 ne : pq ≠ pr
theorem QR.after {w0 w w1 w2 : World} {pbb pq pr : Nat} {A B : Int} (h : QR w0 w w1 pbb pq pr A B) (f : Fr NoS w1 w2) : QR w0 w w2 pbb pq pr A B :=
 ⟨h.fr.trans' (f.mono fun _ _ x => x.elim), h.bb.fr f, h.q.after f, h.r.after f, h.nq, h.nr, h.ne⟩
theorem QR.beside {w0 w w1 w2 : World} {pbb pq pr : Nat} {A B : Int} {g : Nat} {c : Array Value} {t : TypeId} (h : QR w0 w w1 pbb pq pr A B) (f : Fr (· = g) w1 w2) (hg : w1.heap[g]? = some (.cells c t (0, 0))) (ht : t ≠ TW)
  (h0 : w0.heap.size ≤ g) (h1 : w.heap.size ≤ g) (n1 : pbb ≠ g) (n2 : pq ≠ g) (n3 : pr ≠ g) : QR w0 w w2 pbb pq pr A B :=
 ⟨h.fr.trans f (fun i hi e => by omega), h.bb.beside f hg ht n1, h.q.beside f hg ht h0 n2, h.r.beside f hg ht h0 n3, h.nq, h.nr, h.ne⟩
theorem QR.boxes {w0 w w1 : World} {pbb pq pr : Nat} {A B : Int} {g k : Nat} {c d : Array Value} {t : TypeId} (h : QR w0 w w1 pbb pq pr A B) (hg : w1.heap[g]? = some (.cells c t (0, 0))) (hk : w1.heap[k]? = some (.cells d t (0, 0))) (ht : t ≠ TW) (hgk : g ≠ k)
  (h0 : w0.heap.size ≤ g) (h1 : w.heap.size ≤ g) (n1 : pbb ≠ g) (n2 : pq ≠ g) (n3 : pr ≠ g) (h0' : w0.heap.size ≤ k) (h1' : w.heap.size ≤ k) (n1' : pbb ≠ k) (n2' : pq ≠ k) (n3' : pr ≠ k) (a b x y : Value) :
  QR w0 w (((((w1.setCell ⟨g, 0, none⟩ a).setCell ⟨g, 1, none⟩ b).setCell ⟨k, 0, none⟩ x).setCell ⟨k, 1, none⟩ y).drew) pbb pq pr A B := by
 have f1 : Fr (· = g) w1 ((w1.setCell ⟨g, 0, none⟩ a).setCell ⟨g, 1, none⟩ b) := (Fr.set _ _ _ _).trans' (Fr.set _ _ _ _)
 have q2 := h.beside f1 hg ht h0 h1 n1 n2 n3
 exact (q2.beside ((Fr.set _ _ _ _).trans' (Fr.set _ _ _ _)) ((f1.block k (zLt hk) (fun e => hgk e.symm)).trans hk) ht h0' h1' n1' n2' n3').after (Fr.refl NoS _).drew
set_option maxRecDepth 100000 in
set_option maxHeartbeats 8000000 in
theorem sh_quoRem_pos (p1 px pbb E : Nat) (ex P : Int) (zx : Int) (w0 w : World) (h0 : Fr NoS w0 w) (h00 : w0.heap.size ≤ pbb) (h1 : RI w p1 1) (hx : RI w px zx) (hz : Zr w pbb) (hz0 : zx ≠ 0) (hs : Sm zx) (hP : -1000 ≤ P ∧ P ≤ 1000) (hex : -1000 ≤ ex ∧ ex ≤ 1000) (hE : P - ex = E) (hE420 : E ≤ 420) (hne1 : p1 ≠ pbb) (hnex : px ≠ pbb) (hG : Glob w) :
  Calls Tryz.prog 147 #[DV p1 0, DV px ex, .int .i32 P, .pointer (some ⟨pbb, 0, none⟩)] w fun en w' =>
   ∃ (pq pr : Nat) (sr : Int), en = .returned (.tuple #[DV pq (-P), DV pr sr]) ∧ QR w0 w w' pbb pq pr (10 ^ E) zx := by
 obtain ⟨u0, hu0⟩ : ∃ u0 : World, Hid (u0 = (((w.alloc (.cells #[.pointer (some ⟨p1, 0, none⟩), .int .i32 0] 48 (0, 0))).alloc (.cells #[.pointer (some ⟨px, 0, none⟩), .int .i32 ex] 48 (0, 0))).alloc (.cells #[.pointer none, .int .i32 0] 48 (0, 0))).alloc (.cells #[.pointer none, .int .i32 0] 48 (0, 0))) := ⟨_, Lib.hid rfl⟩
 have hA : Fr NoS w u0 := by rw [hu0.out]; exact ((((Fr.refl NoS w).alloc _).alloc _).alloc _).alloc _
 have B4 : u0.heap[w.heap.size]? = some (.cells #[.pointer (some ⟨p1, 0, none⟩), .int .i32 0] 48 (0, 0)) := by rw [hu0.out, old1 (by simp <;> omega), old1 (by simp <;> omega), old1 (by simp), new1 (by simp)]
 have B5 : u0.heap[w.heap.size + 1]? = some (.cells #[.pointer (some ⟨px, 0, none⟩), .int .i32 ex] 48 (0, 0)) := by rw [hu0.out, old1 (by simp <;> omega), old1 (by simp), new1 (by simp)]
 have B8 : u0.heap[w.heap.size + 1 + 1]? = some (.cells #[.pointer none, .int .i32 0] 48 (0, 0)) := by rw [hu0.out, old1 (by simp), new1 (by simp)]
 have B9 : u0.heap[w.heap.size + 1 + 1 + 1]? = some (.cells #[.pointer none, .int .i32 0] 48 (0, 0)) := by rw [hu0.out, new1 (by simp)]
 obtain ⟨c40, c41, _, _⟩ := cells2 B4
 obtain ⟨c50, c51, _, _⟩ := cells2 B5
 have G := sh_getValue px ex u0 zx (hx.fr hA)
 have hsg : zx.sign ≠ 0 := fun e => hz0 (Int.sign_eq_zero_iff_zero.1 e)
 have bsg : (zx.sign == 0) = false := by simp; exact hz0
 have eP : IntKind.i32.wrap (-P) = -P := IntWalk.i32_in _ (by omega)
 have bP : (P == -2147483648) = false := by simp; omega
 go_enter Tryz.func147, Tryz.ntmps147
 go_wp2_with fail
 rw [← hu0.out]
 refine G.mono ?_
 rintro en w1 ⟨rfl, hf1⟩
 go_wp2_with fail
 refine (z_Sign px zx w1 ((hx.fr hA).fr hf1)).mono ?_
 rintro en w2 ⟨rfl, rfl⟩
 have hF1 : Fr NoS w w1 := hA.trans' hf1
 have hl4 : w.heap.size < u0.heap.size := (zLt B4)
 have hl5 : w.heap.size + 1 < u0.heap.size := (zLt B5)
 have D4 := (hf1.block _ hl4 (fun x => x)).trans B4
 have D5 := (hf1.block _ hl5 (fun x => x)).trans B5
 have D8 := hf1.kp B8
 have D9 := hf1.kp B9
 have hl41 := hf1.lt hl4
 have hl51 := hf1.lt hl5
 obtain ⟨u2, hu2⟩ : ∃ u2 : World, Hid (u2 = w1.alloc (.cells #[.bool false, .slice none 0 0] TI (0, 0))) := ⟨_, Lib.hid rfl⟩
 have hA2 : Fr NoS w1 u2 := by rw [hu2.out]; exact (Fr.refl NoS w1).alloc _
 have hz12 : Zr u2 w1.heap.size := by rw [hu2.out]; exact Zr.made w1
 obtain ⟨d40, d41, _, _⟩ := cells2 D4
 obtain ⟨d50, d51, _, _⟩ := cells2 D5
 have E4 := (hA2.block _ hl41 (fun x => x)).trans D4
 have E5 := (hA2.block _ hl51 (fun x => x)).trans D5
 have E8 := hA2.kp D8
 have E9 := hA2.kp D9
 obtain ⟨e40, e41, _, _⟩ := cells2 E4
 obtain ⟨e50, e51, _, _⟩ := cells2 E5
 rw [hu2.out] at e40 e41 e50 e51
 have hF2 := hF1.trans' hA2
 have G1 := sh_getValue p1 0 u2 1 (h1.fr hF2)
 rw [hu2.out] at G1
 have eE : -ex + P = (E : Int) := by omega
 have t1 : decide ((2147483647 : Int) < (E : Int)) = false := decide_eq_false (by omega)
 have t2 : decide ((E : Int) < -2147483648) = false := decide_eq_false (by omega)
 have t3 : decide ((E : Int) < 0) = false := by simp
 clear c40 c41 c50 c51 G B4 B5 B8 B9
 go_wp2_with fail
 refine G1.mono ?_
 rintro en w3 ⟨rfl, hf3⟩
 rw [← hu2.out] at hf3
 have hF3 := hF2.trans' hf3
 go_wp2_with fail
 refine (sh_pow10 E w3 hE420 (hG.fr hF3)).mono ?_
 rintro en w4 ⟨pt, rfl, hN⟩
 have hF4 := hF3.trans' hN.fr
 have hz4 := (hz12.fr hf3 (fun x => x)).fr hN.fr (fun x => x)
 have hp1l := h1.lt
 have hsz1 := hF1.size
 have hs3 := hf3.size
 have hsz2 : w1.heap.size < u2.heap.size := hz12.lt
 have hsm1 := sm_one
 have hsmE := sm_pow10 E (by omega)
 go_wp2_with fail
 refine (z_Mul w1.heap.size p1 pt 1 (10 ^ E) w4 hz4 (h1.fr hF4) hN.rd (by have := hN.old; omega) hsm1 hsmE (hG.fr hF4).kar).mono ?_
 rintro en w5 ⟨rfl, hP5⟩
 rw [Int.one_mul] at hP5
 have hz4s : Fr (· = w1.heap.size) w4 w5 := hP5.fr
 have l4u := (zLt E4)
 have l5u := (zLt E5)
 have l8u := (zLt E8)
 have l9u := (zLt E9)
 have hfu4 : Fr NoS u2 w4 := hf3.trans' hN.fr
 have l5w : w.heap.size + 1 < w1.heap.size := hl51
 have F5 := (hz4s.block _ (hfu4.lt l5u) (by omega)).trans ((hfu4.block _ l5u (fun x => x)).trans E5)
 have F8 := (hz4s.block _ (hfu4.lt l8u) (by have := (zLt D8); omega)).trans ((hfu4.block _ l8u (fun x => x)).trans E8)
 have F9 := (hz4s.block _ (hfu4.lt l9u) (by have := (zLt D9); omega)).trans ((hfu4.block _ l9u (fun x => x)).trans E9)
 obtain ⟨g50, g51, _, _⟩ := cells2 F5
 have hpxl := hx.lt
 have hx5 : RI w5 px zx := (hx.fr hF4).put hP5 (by omega)
 have ha5 := hP5.rd
 have hF5 : Fr NoS w w5 := hF4.trans hz4s (fun i hi e => by omega)
 have hz5 : Zr w5 pbb := (hz.fr hF5 (fun x => x))
 have G2 := sh_getValue px ex w5 zx hx5
 clear e40 e41 e50 e51 d40 d41 d50 d51 E4 E5 E8 E9 D4 D5 D8 D9 G1
 go_wp2_with fail
 refine G2.mono ?_
 rintro en w6 ⟨rfl, hf6⟩
 obtain ⟨sx, vx, nx, X, hxr, hxv⟩ := hx5.fr hf6
 obtain ⟨Ax, kx, rfl, _, _⟩ := hxr.rd.shape
 have hz6 := hz5.fr hf6 (fun x => x)
 have x60 := hxr.c0
 have x61 := hxr.c1
 have z60 := hz6.own.rd.c0
 have z61 := hz6.own.rd.c1
 have zf0 := hz6.own.rd.fz 0
 have zf1 := hz6.own.rd.fz 1
 have H5 := hf6.kp F5
 have H8 := hf6.kp F8
 have H9 := hf6.kp F9
 have hpb5 : w.heap.size + 1 ≠ pbb := by have := hz.lt; omega
 have hpb8 : w.heap.size + 1 + 1 ≠ pbb := by have := hz.lt; omega
 have hpb9 : w.heap.size + 1 + 1 + 1 ≠ pbb := by have := hz.lt; omega
 obtain ⟨w7, hw7⟩ : ∃ w7 : World, Hid (w7 = (w6.setCell ⟨pbb, 0, none⟩ (.bool sx)).setCell ⟨pbb, 1, none⟩ (.slice Ax nx kx)) := ⟨_, Lib.hid rfl⟩
 have hf7 : Fr (· = pbb) w6 w7 := by rw [hw7.out]; exact (Fr.set _ _ _ _).trans' (Fr.set _ _ _ _)
 have hbb7 : RI w7 pbb zx := by rw [hw7.out]; exact RI.copied hxr hxv hz6 rfl
 have I5 := (hf7.block _ (zLt H5) hpb5).trans H5
 have I8 := (hf7.block _ (zLt H8) hpb8).trans H8
 have I9 := (hf7.block _ (zLt H9) hpb9).trans H9
 have hzl := hz.lt
 have ha7 : RI w7 w1.heap.size (10 ^ E) := (ha5.fr hf6).ints hf7 (by omega) (fun k e => by subst e; exact ⟨_, hz6⟩)
 have hF6 := hF5.trans' hf6
 have hF7 : Fr (· = pbb) w w7 := (hF6.mono (fun _ _ x => x.elim)).trans' hf7
 obtain ⟨i50, i51, _, _⟩ := cells2 I5
 rw [hw7.out] at i50 i51
 clear g50 g51 F5 F8 F9 H5 H8 H9 G2 hz5 hx5 ha5 hz4s hfu4 hP5 hN hz4 hf3 hf6
 obtain ⟨w9, hw9⟩ : ∃ w9 : World, Hid (w9 = (w7.alloc (.cells #[.bool false, .slice none 0 0] TI (0, 0))).alloc (.cells #[.bool false, .slice none 0 0] TI (0, 0))) := ⟨_, Lib.hid rfl⟩
 have hA9 : Fr NoS w7 w9 := by rw [hw9.out]; exact ((Fr.refl NoS w7).alloc _).alloc _
 have hq9 : Zr w9 w7.heap.size := by rw [hw9.out]; exact (old1 (by simp)).trans (Zr.made w7)
 have hr9 : Zr w9 (w7.heap.size + 1) := by
  rw [hw9.out]
  have := Zr.made (w7.alloc (.cells #[.bool false, .slice none 0 0] TI (0, 0)))
  simpa using this
 have hpbl7 : pbb < w7.heap.size := hbb7.lt
 have hal7 : w1.heap.size < w7.heap.size := ha7.lt
 have hs76 : w7.heap.size = w6.heap.size := by rw [hw7.out]; simp
 rw [hs76] at hq9 hr9 hal7 hpbl7
 have hDT7 := ((hG.fr hF6).dt)
 have hDT9 : w9.cell? ⟨8, 0, none⟩ = some (.int .i64 40) := by
  refine (hA9.cell (hf7.lt (World.block_lt_of_cell? w6 _ hDT7)) (fun x => x)).trans ((hf7.cell (World.block_lt_of_cell? w6 _ hDT7) (fun e => ?_)).trans hDT7)
  have h1 := hz6
  have h2 := hDT7
  rw [← e] at h1
  simp [World.cell?, Zr] at h1 h2
  simp [h1] at h2
 have Q := int_QuoRem w6.heap.size w1.heap.size pbb (w6.heap.size + 1) (10 ^ E) zx w7 w9 hA9 (Nat.le_of_eq hs76) (by omega) hq9 hr9 (ha7.fr hA9) (hbb7.fr hA9) (by have := Int.pow_pos (n := 10) (m := E) (by omega); omega) hz0 (by omega) (by omega) (by omega) (by omega) (by omega) hs hsmE hDT9
 rw [hw9.out, hw7.out] at Q
 go_wp2_with fail
 refine Q.mono ?_
 rintro en w10 ⟨rfl, hq, hr, hfq⟩
 rw [← hw7.out] at hq hr hfq
 rw [← hw9.out] at hfq
 clear Q hq9 hr9 ha7 hf7 hDT7 hDT9
 have J5 := (hfq.block _ (hA9.lt (zLt I5)) (by have := (zLt I5); omega)).trans ((hA9.kp I5))
 have J8 := (hfq.block _ (hA9.lt (zLt I8)) (by have := (zLt I8); omega)).trans ((hA9.kp I8))
 have J9 := (hfq.block _ (hA9.lt (zLt I9)) (by have := (zLt I9); omega)).trans ((hA9.kp I9))
 obtain ⟨j50, j51, _, _⟩ := cells2 J5
 obtain ⟨j80, j81, jf8, jg8⟩ := cells2 J8
 obtain ⟨j90, j91, jf9, jg9⟩ := cells2 J9
 go_wp2_with fail
 obtain ⟨u, hu⟩ : ∃ u : World, Hid (u = (w10.alloc (.cells #[.pointer (some ⟨w6.heap.size, 0, none⟩), .int .i32 (-P)] 48 (0, 0))).alloc (.cells #[.pointer (some ⟨w6.heap.size + 1, 0, none⟩), .int .i32 (-P + ex)] 48 (0, 0))) := ⟨_, Lib.hid rfl⟩
 rw [← hu.out]
 have hA11 : Fr NoS w10 u := by rw [hu.out]; exact ((Fr.refl NoS w10).alloc _).alloc _
 have f010 : Fr NoS w0 w10 := (h0.trans hF7 (fun i hi e => by omega)).trans' hq.fr
 have s07 : w0.heap.size ≤ w7.heap.size := Nat.le_trans h0.size hF7.size
 have s67 : w.heap.size ≤ w6.heap.size := hF6.size
 have q10 : QR w0 w w10 pbb w6.heap.size (w6.heap.size + 1) (10 ^ E) zx := ⟨hF7.trans' (hq.fr.mono fun _ _ x => x.elim), hbb7.fr hq.fr, hq.rebase f010 s07, hr.rebase f010 s07, s67, Nat.le_succ_of_le s67, by omega⟩
 have q11 := q10.after hA11
 have s00 := h0.size
 have K16 : u.heap[w10.heap.size]? = some (.cells #[.pointer (some ⟨w6.heap.size, 0, none⟩), .int .i32 (-P)] 48 (0, 0)) := by rw [hu.out, old1 (by simp), new1 (by simp)]
 have K17 : u.heap[w10.heap.size + 1]? = some (.cells #[.pointer (some ⟨w6.heap.size + 1, 0, none⟩), .int .i32 (-P + ex)] 48 (0, 0)) := by rw [hu.out, new1 (by simp)]
 have K8 := hA11.kp J8
 have K9 := hA11.kp J9
 have l8 : w.heap.size + 1 + 1 < w10.heap.size := (zLt J8)
 have l9 : w.heap.size + 1 + 1 + 1 < w10.heap.size := (zLt J9)
 have l8' : w.heap.size + 1 + 1 < w6.heap.size := (by have := (zLt I8); omega)
 have l9' : w.heap.size + 1 + 1 + 1 < w6.heap.size := (by have := (zLt I9); omega)
 have qB := fun a b x y => q11.boxes K8 K9 (by decide) (by omega) (by omega) (by omega) (by omega) (by omega) (by omega) (by omega) (by omega) (by omega) (by omega) (by omega) a b x y
 have m1 : w.heap.size + 1 + 1 ≠ w10.heap.size := by omega
 have m2 : w10.heap.size ≠ w.heap.size + 1 := by omega
 have m3 : w.heap.size + 1 + 1 + 1 ≠ w10.heap.size := by omega
 have m4 : w10.heap.size ≠ w.heap.size + 1 + 1 := by omega
 have m6 : w.heap.size + 1 ≠ w10.heap.size := by omega
 have m7 : w10.heap.size + 1 ≠ w.heap.size + 1 + 1 := by omega
 have m8 : w.heap.size + 1 + 1 ≠ w10.heap.size + 1 := by omega
 have m9 : w10.heap.size + 1 ≠ w.heap.size + 1 + 1 + 1 := by omega
 have m10 : w.heap.size + 1 + 1 + 1 ≠ w10.heap.size + 1 := by omega
 have m5 : w10.heap.size ≠ w.heap.size + 1 + 1 + 1 := by omega
 have QB := Lib.hid qB
 clear qB q11 q10
 clear j50 j51 j80 j81 jf8 jg8 j90 j91 jf9 jg9
 obtain ⟨j80, j81, jf8, jg8⟩ := cells2 K8
 obtain ⟨j90, j91, jf9, jg9⟩ := cells2 K9
 obtain ⟨k160, k161, _, _⟩ := cells2 K16
 obtain ⟨k170, k171, _, _⟩ := cells2 K17
 go_region_held3 (fun w' => w'.cell? ⟨w10.heap.size, 0, none⟩ = some (.pointer (some ⟨w6.heap.size, 0, none⟩)) ∧ w'.cell? ⟨w10.heap.size, 1, none⟩ = some (.int .i32 (-P)) ∧ w'.cell? ⟨w10.heap.size + 1, 0, none⟩ = some (.pointer (some ⟨w6.heap.size + 1, 0, none⟩)) ∧ w'.cell? ⟨w10.heap.size + 1, 1, none⟩ = some (.int .i32 (-P + ex))) (go_keep) (fail)
 all_goals
  have Q2 := Lib.hid (QB.out (.pointer (some ⟨w6.heap.size, 0, none⟩)) (.int .i32 (-P)) (.pointer (some ⟨w6.heap.size + 1, 0, none⟩)) (.int .i32 (-P + ex)))
  go_wp2
  exact bodyPost_ret (v := .tuple #[DV w6.heap.size (-P), DV (w6.heap.size + 1) (-P + ex)]) (by simp [results, Tryz.results147, go_sem, j80, j81, j90, j91]) rfl ⟨_, _, _, rfl, Q2.out⟩
set_option maxRecDepth 100000 in
set_option maxHeartbeats 8000000 in
theorem sh_quoRem_neg (p1 px pbb E : Nat) (ex P : Int) (zx : Int) (w0 w : World) (h0 : Fr NoS w0 w) (h00 : w0.heap.size ≤ pbb) (h1 : RI w p1 1) (hx : RI w px zx) (hz : Zr w pbb) (hz0 : zx ≠ 0) (hs : Sm zx) (hP : -1000 ≤ P ∧ P ≤ 1000) (hex : -1000 ≤ ex ∧ ex ≤ 1000) (hE : P - ex = -(E : Int)) (hE1 : 1 ≤ E) (hsB : Sm (zx * 10 ^ E)) (hE420 : E ≤ 420) (hne1 : p1 ≠ pbb) (hnex : px ≠ pbb) (hG : Glob w) :
  Calls Tryz.prog 147 #[DV p1 0, DV px ex, .int .i32 P, .pointer (some ⟨pbb, 0, none⟩)] w fun en w' =>
   ∃ (pq pr : Nat) (sr : Int), en = .returned (.tuple #[DV pq (-P), DV pr sr]) ∧ QR w0 w w' pbb pq pr 1 (zx * 10 ^ E) := by
 obtain ⟨u0, hu0⟩ : ∃ u0 : World, Hid (u0 = (((w.alloc (.cells #[.pointer (some ⟨p1, 0, none⟩), .int .i32 0] 48 (0, 0))).alloc (.cells #[.pointer (some ⟨px, 0, none⟩), .int .i32 ex] 48 (0, 0))).alloc (.cells #[.pointer none, .int .i32 0] 48 (0, 0))).alloc (.cells #[.pointer none, .int .i32 0] 48 (0, 0))) := ⟨_, Lib.hid rfl⟩
 have hA : Fr NoS w u0 := by rw [hu0.out]; exact ((((Fr.refl NoS w).alloc _).alloc _).alloc _).alloc _
 have B4 : u0.heap[w.heap.size]? = some (.cells #[.pointer (some ⟨p1, 0, none⟩), .int .i32 0] 48 (0, 0)) := by rw [hu0.out, old1 (by simp <;> omega), old1 (by simp <;> omega), old1 (by simp), new1 (by simp)]
 have B5 : u0.heap[w.heap.size + 1]? = some (.cells #[.pointer (some ⟨px, 0, none⟩), .int .i32 ex] 48 (0, 0)) := by rw [hu0.out, old1 (by simp <;> omega), old1 (by simp), new1 (by simp)]
 have B8 : u0.heap[w.heap.size + 1 + 1]? = some (.cells #[.pointer none, .int .i32 0] 48 (0, 0)) := by rw [hu0.out, old1 (by simp), new1 (by simp)]
 have B9 : u0.heap[w.heap.size + 1 + 1 + 1]? = some (.cells #[.pointer none, .int .i32 0] 48 (0, 0)) := by rw [hu0.out, new1 (by simp)]
 obtain ⟨c40, c41, _, _⟩ := cells2 B4
 obtain ⟨c50, c51, _, _⟩ := cells2 B5
 have G := sh_getValue px ex u0 zx (hx.fr hA)
 have hsg : zx.sign ≠ 0 := fun e => hz0 (Int.sign_eq_zero_iff_zero.1 e)
 have bsg : (zx.sign == 0) = false := by simp; exact hz0
 have eP : IntKind.i32.wrap (-P) = -P := IntWalk.i32_in _ (by omega)
 have bP : (P == -2147483648) = false := by simp; omega
 go_enter Tryz.func147, Tryz.ntmps147
 go_wp2_with fail
 rw [← hu0.out]
 refine G.mono ?_
 rintro en w1 ⟨rfl, hf1⟩
 go_wp2_with fail
 refine (z_Sign px zx w1 ((hx.fr hA).fr hf1)).mono ?_
 rintro en w2 ⟨rfl, rfl⟩
 have hF1 : Fr NoS w w1 := hA.trans' hf1
 have hl4 : w.heap.size < u0.heap.size := (zLt B4)
 have hl5 : w.heap.size + 1 < u0.heap.size := (zLt B5)
 have D4 := (hf1.block _ hl4 (fun x => x)).trans B4
 have D5 := (hf1.block _ hl5 (fun x => x)).trans B5
 have D8 := hf1.kp B8
 have D9 := hf1.kp B9
 have hl41 := hf1.lt hl4
 have hl51 := hf1.lt hl5
 obtain ⟨u2, hu2⟩ : ∃ u2 : World, Hid (u2 = w1.alloc (.cells #[.bool false, .slice none 0 0] TI (0, 0))) := ⟨_, Lib.hid rfl⟩
 have hA2 : Fr NoS w1 u2 := by rw [hu2.out]; exact (Fr.refl NoS w1).alloc _
 have hz12 : Zr u2 w1.heap.size := by rw [hu2.out]; exact Zr.made w1
 obtain ⟨d40, d41, _, _⟩ := cells2 D4
 obtain ⟨d50, d51, _, _⟩ := cells2 D5
 have E4 := (hA2.block _ hl41 (fun x => x)).trans D4
 have E5 := (hA2.block _ hl51 (fun x => x)).trans D5
 have E8 := hA2.kp D8
 have E9 := hA2.kp D9
 obtain ⟨e40, e41, _, _⟩ := cells2 E4
 obtain ⟨e50, e51, _, _⟩ := cells2 E5
 rw [hu2.out] at e40 e41 e50 e51
 have hF2 := hF1.trans' hA2
 have G1 := sh_getValue p1 0 u2 1 (h1.fr hF2)
 rw [hu2.out] at G1
 have eE : -ex + P = -(E : Int) := by omega
 have wE : IntKind.i64.wrap (-(E : Int)) = -(E : Int) := IntWalk.i64_in _ (by omega)
 have wE2 : IntKind.i64.wrap (- -(E : Int)) = (E : Int) := by rw [Int.neg_neg]; exact IntWalk.i64_in _ (by omega)
 have t1 : decide ((2147483647 : Int) < -(E : Int)) = false := decide_eq_false (by omega)
 have t2 : decide (-(E : Int) < -2147483648) = false := decide_eq_false (by omega)
 have t3 : decide (-(E : Int) < 0) = true := decide_eq_true (by omega)
 clear c40 c41 c50 c51 G B4 B5 B8 B9
 go_wp2_with fail
 refine G1.mono ?_
 rintro en w3 ⟨rfl, hf3⟩
 rw [← hu2.out] at hf3
 have hF3 := hF2.trans' hf3
 obtain ⟨s1, v1, n1, X1, h1r, h1v⟩ := h1.fr hF3
 obtain ⟨A1, k1, rfl, _, _⟩ := h1r.rd.shape
 have hz3 := hz12.fr hf3 (fun x => x)
 have x60 := h1r.c0
 have x61 := h1r.c1
 have z60 := hz3.own.rd.c0
 have z61 := hz3.own.rd.c1
 have zf0 := hz3.own.rd.fz 0
 have zf1 := hz3.own.rd.fz 1
 have hp1l := h1.lt
 have hpxl := hx.lt
 have hzl := hz.lt
 have hsz1 := hF1.size
 have hs3 := hf3.size
 have hsz2 : w1.heap.size < u2.heap.size := hz12.lt
 obtain ⟨w4, hw4⟩ : ∃ w4 : World, Hid (w4 = (w3.setCell ⟨w1.heap.size, 0, none⟩ (.bool s1)).setCell ⟨w1.heap.size, 1, none⟩ (.slice A1 n1 k1)) := ⟨_, Lib.hid rfl⟩
 have hf4 : Fr (· = w1.heap.size) w3 w4 := by rw [hw4.out]; exact (Fr.set _ _ _ _).trans' (Fr.set _ _ _ _)
 have ha4 : RI w4 w1.heap.size 1 := by rw [hw4.out]; exact RI.copied h1r h1v hz3 rfl
 have hF4 : Fr NoS w w4 := hF3.trans hf4 (fun i hi e => by omega)
 have l4u := (zLt E4)
 have l5u := (zLt E5)
 have l8u := (zLt E8)
 have l9u := (zLt E9)
 have l5w : w.heap.size + 1 < w1.heap.size := hl51
 have F4 := (hf4.block _ (hf3.lt l4u) (by omega)).trans ((hf3.block _ l4u (fun x => x)).trans E4)
 have F5 := (hf4.block _ (hf3.lt l5u) (by omega)).trans ((hf3.block _ l5u (fun x => x)).trans E5)
 have F8 := (hf4.block _ (hf3.lt l8u) (by have := (zLt D8); omega)).trans ((hf3.block _ l8u (fun x => x)).trans E8)
 have F9 := (hf4.block _ (hf3.lt l9u) (by have := (zLt D9); omega)).trans ((hf3.block _ l9u (fun x => x)).trans E9)
 obtain ⟨g50, g51, _, _⟩ := cells2 F5
 have G2 := sh_getValue px ex w4 zx (hx.fr hF4)
 rw [hw4.out] at g50 g51 G2
 clear e40 e41 e50 e51 d40 d41 d50 d51 E4 E5 E8 E9 D4 D5 D8 D9 G1
 go_wp2_with fail
 refine G2.mono ?_
 rintro en w5 ⟨rfl, hf5⟩
 rw [← hw4.out] at hf5
 have hF5 := hF4.trans' hf5
 go_wp2_with fail
 refine (sh_pow10 E w5 hE420 (hG.fr hF5)).mono ?_
 rintro en w6 ⟨pt, rfl, hN⟩
 have hF6 := hF5.trans' hN.fr
 have hz6 : Zr w6 pbb := (hz.fr hF6 (fun x => x))
 have hsmE := sm_pow10 E (by omega)
 go_wp2_with fail
 refine (z_Mul pbb px pt zx (10 ^ E) w6 hz6 (hx.fr hF6) hN.rd (by have := hN.old; have := hF5.size; omega) hs hsmE (hG.fr hF6).kar).mono ?_
 rintro en w7 ⟨rfl, hP7⟩
 have hf7 : Fr (· = pbb) w6 w7 := hP7.fr
 have hbb7 : RI w7 pbb (zx * 10 ^ E) := hP7.rd
 have hpb4 : w.heap.size ≠ pbb := by omega
 have hpb5 : w.heap.size + 1 ≠ pbb := by omega
 have hpb8 : w.heap.size + 1 + 1 ≠ pbb := by omega
 have hpb9 : w.heap.size + 1 + 1 + 1 ≠ pbb := by omega
 have hf46 := hf5.trans' hN.fr
 have I4 := (hf7.block _ (hf46.lt (zLt F4)) hpb4).trans ((hf46.kp F4))
 have I5 := (hf7.block _ (hf46.lt (zLt F5)) hpb5).trans ((hf46.kp F5))
 have I8 := (hf7.block _ (hf46.lt (zLt F8)) hpb8).trans ((hf46.kp F8))
 have I9 := (hf7.block _ (hf46.lt (zLt F9)) hpb9).trans ((hf46.kp F9))
 have ha7 : RI w7 w1.heap.size 1 := (ha4.fr hf46).put hP7 (by omega)
 have hF7 : Fr (· = pbb) w w7 := (hF6.mono (fun _ _ x => x.elim)).trans' hf7
 obtain ⟨i40, i41, _, _⟩ := cells2 I4
 have hB0 : zx * 10 ^ E ≠ 0 := Int.mul_ne_zero hz0 (Int.ne_of_gt (Int.pow_pos (n := 10) (m := E) (by omega)))
 clear g50 g51 F5 F8 F9 G2 hP7 hN hf3 hf5
 obtain ⟨w9, hw9⟩ : ∃ w9 : World, Hid (w9 = (w7.alloc (.cells #[.bool false, .slice none 0 0] TI (0, 0))).alloc (.cells #[.bool false, .slice none 0 0] TI (0, 0))) := ⟨_, Lib.hid rfl⟩
 have hA9 : Fr NoS w7 w9 := by rw [hw9.out]; exact ((Fr.refl NoS w7).alloc _).alloc _
 have hq9 : Zr w9 w7.heap.size := by rw [hw9.out]; exact (old1 (by simp)).trans (Zr.made w7)
 have hr9 : Zr w9 (w7.heap.size + 1) := by
  rw [hw9.out]
  have := Zr.made (w7.alloc (.cells #[.bool false, .slice none 0 0] TI (0, 0)))
  simpa using this
 have hpbl7 : pbb < w7.heap.size := hbb7.lt
 have hal7 : w1.heap.size < w7.heap.size := ha7.lt
 have hDT7 := ((hG.fr hF6).dt)
 have hDT9 : w9.cell? ⟨8, 0, none⟩ = some (.int .i64 40) := by
  refine (hA9.cell (hf7.lt (World.block_lt_of_cell? w6 _ hDT7)) (fun x => x)).trans ((hf7.cell (World.block_lt_of_cell? w6 _ hDT7) (fun e => ?_)).trans hDT7)
  have h1 := hz6
  have h2 := hDT7
  rw [← e] at h1
  simp [World.cell?, Zr] at h1 h2
  simp [h1] at h2
 have Q := int_QuoRem w7.heap.size w1.heap.size pbb (w7.heap.size + 1) 1 (zx * 10 ^ E) w7 w9 hA9 (Nat.le_refl _) (by omega) hq9 hr9 (ha7.fr hA9) (hbb7.fr hA9) (by omega) hB0 (by omega) (by omega) (by omega) (by omega) (by omega) hsB sm_one hDT9
 rw [hw9.out] at Q
 go_wp2_with fail
 refine Q.mono ?_
 rintro en w10 ⟨rfl, hq, hr, hfq⟩
 rw [← hw9.out] at hfq
 clear Q hq9 hr9 ha7 hf7 hDT7 hDT9
 have J5 := (hfq.block _ (hA9.lt (zLt I5)) (by have := (zLt I5); omega)).trans ((hA9.kp I5))
 have J8 := (hfq.block _ (hA9.lt (zLt I8)) (by have := (zLt I8); omega)).trans ((hA9.kp I8))
 have J9 := (hfq.block _ (hA9.lt (zLt I9)) (by have := (zLt I9); omega)).trans ((hA9.kp I9))
 obtain ⟨j50, j51, _, _⟩ := cells2 J5
 obtain ⟨j80, j81, jf8, jg8⟩ := cells2 J8
 obtain ⟨j90, j91, jf9, jg9⟩ := cells2 J9
 go_wp2_with fail
 obtain ⟨u, hu⟩ : ∃ u : World, Hid (u = (w10.alloc (.cells #[.pointer (some ⟨w7.heap.size, 0, none⟩), .int .i32 (-P)] 48 (0, 0))).alloc (.cells #[.pointer (some ⟨w7.heap.size + 1, 0, none⟩), .int .i32 (0)] 48 (0, 0))) := ⟨_, Lib.hid rfl⟩
 rw [← hu.out]
 have hA11 : Fr NoS w10 u := by rw [hu.out]; exact ((Fr.refl NoS w10).alloc _).alloc _
 have f010 : Fr NoS w0 w10 := (h0.trans hF7 (fun i hi e => by omega)).trans' hq.fr
 have s07 : w0.heap.size ≤ w7.heap.size := Nat.le_trans h0.size hF7.size
 have s67 : w.heap.size ≤ w7.heap.size := hF7.size
 have q10 : QR w0 w w10 pbb w7.heap.size (w7.heap.size + 1) 1 (zx * 10 ^ E) := ⟨hF7.trans' (hq.fr.mono fun _ _ x => x.elim), hbb7.fr hq.fr, hq.rebase f010 s07, hr.rebase f010 s07, s67, Nat.le_succ_of_le s67, by omega⟩
 have q11 := q10.after hA11
 have s00 := h0.size
 have K16 : u.heap[w10.heap.size]? = some (.cells #[.pointer (some ⟨w7.heap.size, 0, none⟩), .int .i32 (-P)] 48 (0, 0)) := by rw [hu.out, old1 (by simp), new1 (by simp)]
 have K17 : u.heap[w10.heap.size + 1]? = some (.cells #[.pointer (some ⟨w7.heap.size + 1, 0, none⟩), .int .i32 (0)] 48 (0, 0)) := by rw [hu.out, new1 (by simp)]
 have K8 := hA11.kp J8
 have K9 := hA11.kp J9
 have l8 : w.heap.size + 1 + 1 < w10.heap.size := (zLt J8)
 have l9 : w.heap.size + 1 + 1 + 1 < w10.heap.size := (zLt J9)
 have l8' : w.heap.size + 1 + 1 < w7.heap.size := (by have := (zLt I8); omega)
 have l9' : w.heap.size + 1 + 1 + 1 < w7.heap.size := (by have := (zLt I9); omega)
 have qB := fun a b x y => q11.boxes K8 K9 (by decide) (by omega) (by omega) (by omega) (by omega) (by omega) (by omega) (by omega) (by omega) (by omega) (by omega) (by omega) a b x y
 have m1 : w.heap.size + 1 + 1 ≠ w10.heap.size := by omega
 have m2 : w10.heap.size ≠ w.heap.size + 1 := by omega
 have m3 : w.heap.size + 1 + 1 + 1 ≠ w10.heap.size := by omega
 have m4 : w10.heap.size ≠ w.heap.size + 1 + 1 := by omega
 have m6 : w.heap.size + 1 ≠ w10.heap.size := by omega
 have m7 : w10.heap.size + 1 ≠ w.heap.size + 1 + 1 := by omega
 have m8 : w.heap.size + 1 + 1 ≠ w10.heap.size + 1 := by omega
 have m9 : w10.heap.size + 1 ≠ w.heap.size + 1 + 1 + 1 := by omega
 have m10 : w.heap.size + 1 + 1 + 1 ≠ w10.heap.size + 1 := by omega
 have m5 : w10.heap.size ≠ w.heap.size + 1 + 1 + 1 := by omega
 have QB := Lib.hid qB
 clear qB q11 q10
 clear j50 j51 j80 j81 jf8 jg8 j90 j91 jf9 jg9
 obtain ⟨j80, j81, jf8, jg8⟩ := cells2 K8
 obtain ⟨j90, j91, jf9, jg9⟩ := cells2 K9
 obtain ⟨k160, k161, _, _⟩ := cells2 K16
 obtain ⟨k170, k171, _, _⟩ := cells2 K17
 go_region_held3 (fun w' => w'.cell? ⟨w10.heap.size, 0, none⟩ = some (.pointer (some ⟨w7.heap.size, 0, none⟩)) ∧ w'.cell? ⟨w10.heap.size, 1, none⟩ = some (.int .i32 (-P)) ∧ w'.cell? ⟨w10.heap.size + 1, 0, none⟩ = some (.pointer (some ⟨w7.heap.size + 1, 0, none⟩)) ∧ w'.cell? ⟨w10.heap.size + 1, 1, none⟩ = some (.int .i32 (0))) (go_keep) (fail)
 all_goals
  have Q2 := Lib.hid (QB.out (.pointer (some ⟨w7.heap.size, 0, none⟩)) (.int .i32 (-P)) (.pointer (some ⟨w7.heap.size + 1, 0, none⟩)) (.int .i32 (0)))
  go_wp2
  exact bodyPost_ret (v := .tuple #[DV w7.heap.size (-P), DV (w7.heap.size + 1) (0)]) (by simp [results, Tryz.results147, go_sem, j80, j81, j90, j91]) rfl ⟨_, _, _, rfl, Q2.out⟩
set_option maxRecDepth 100000 in
set_option maxHeartbeats 1000000 in
theorem nat_lsh_zero (A : Option Addr) (c : Nat) (w : World) (hc : A = none → c = 0) :
  Calls Tryz.prog 202 #[.slice A 0 c, .slice A 0 c, .int .u64 1] w fun e w' => e = .returned (.slice A 0 c) ∧ w = w' := by
 have b0 : (((0 : Nat) : Int) == 0) = true := by simp
 cases A
 ·obtain rfl := hc rfl
  go_enter Tryz.func202, Tryz.ntmps202
  go_wp2
  go_ret
  exact ⟨rfl, rfl⟩
 ·clear hc
  go_enter Tryz.func202, Tryz.ntmps202
  go_wp2
  go_ret
  exact ⟨rfl, rfl⟩
set_option maxRecDepth 100000 in
set_option maxHeartbeats 4000000 in
theorem nat_lsh1 (v : Value) (m : Nat) (F : Nat → Nat) (w : World) (h : OwnW w v m F) (hm : m ≤ 90000000) :
  Calls Tryz.prog 202 #[v, v, .int .u64 1] w fun e w' =>
   ∃ (v' : Value) (n' : Nat) (G : Nat → Nat), e = .returned v' ∧ MadeNat w w' v v' n' G ∧ Top G n' ∧ Vb BB G 0 n' = Vb BB F 0 m * 2 := by
 by_cases h0 : m = 0
 ·subst h0
  rcases h with ⟨rfl, _⟩ | ⟨g, c, rfl, hmc, hb⟩
  ·refine (nat_lsh_zero none 0 w (fun _ => rfl)).mono ?_
   rintro e w' ⟨rfl, rfl⟩
   exact ⟨_, 0, F, rfl, ⟨.inl ⟨rfl, rfl⟩, Fr.refl _ _, fun k hk => .inl hk⟩, .inl rfl, by simp [Vb]⟩
  ·refine (nat_lsh_zero (some ⟨g, 0, none⟩) c w (fun h => by cases h)).mono ?_
   rintro e w' ⟨rfl, rfl⟩
   exact ⟨_, 0, F, rfl, ⟨.inr ⟨g, c, rfl, Nat.zero_le _, hb⟩, Fr.refl _ _, fun k hk => .inl hk⟩, .inl rfl, by simp [Vb]⟩
 ·have h' := h
  rcases h with ⟨_, e⟩ | ⟨g, c, rfl, hmc, hb⟩
  ·omega
  have b0 : ((m : Int) == 0) = false := by simp; omega
  have hroom := hb.room
  rw [LL_eq] at hroom
  have hgl := hb.lt
  have wx : Words w g 0 m F := h'.rd.words
  go_enter Tryz.func202, Tryz.ntmps202
  go_wp2_with fail
  refine (nat_make _ m (m + 1) ((m : Int) + 1) F _ h' (by omega) (by omega)).mono ?_
  rintro e w2 ⟨v2, G2, rfl, hm2, hf2, _⟩
  rcases hm2.own with ⟨_, e0⟩ | ⟨g2, c2, rfl, hmc2, hbk2⟩
  ·omega
  have hroom2 := hbk2.room
  rw [LL_eq] at hroom2
  have wx2 : Words w2 g 0 m F := wx.fr (S := NoS) hf2 (fun x => x)
  have q1 : m ≤ c2 := by omega
  go_wp2_with fail
  refine (lshVU m g2 0 c2 c2 g 0 c 1 G2 F w2 hbk2 wx2 (by omega) (fun _ => rfl) (by omega) (by omega) (by omega)).mono ?_
  rintro e w3 ⟨cc, G3, rfl, hcc, hb3, hG3, hV3, hf3⟩
  have HV3 := Lib.hid hV3
  have HG3 := Lib.hid hG3
  clear hV3 hG3
  have k1 := hb3.cell (j := m) (by omega)
  have f1 := hb3.free m
  have hccB : cc < BB := by rw [BB_eq]; omega
  have hb4 := hb3.store (i := m) (x := cc) hccB
  go_wp2_with (with_reducible refine clear_blk rfl _ _ rfl Tryz.underlying95 g2 0 0 c2 c2 _ ?hs hb4 (by omega) ?_)
  case hs => rfl
  intro w5 G5 hG5 _ hsame hf5
  have HS5 := Lib.hid hsame
  clear hsame
  go_wp2_with fail
  refine (nat_norm_own (.slice (some ⟨g2, 0, none⟩) (m + 1) c2) (m + 1) G5 _ (.inr ⟨g2, c2, rfl, hmc2, hG5⟩)).mono ?_
  rintro e w6 ⟨v4, n4, rfl, hown4, hn4, ht4, hv4, hob4, rfl⟩
  have HV4 := Lib.hid hv4
  clear hv4
  go_wp2
  go_ret
  have hfA : Fr (· = g2) w2 w5 := (hf3.trans' (Fr.set _ _ _ _)).trans' hf5
  refine ⟨v4, n4, G5, rfl, ⟨hown4, hm2.fr.trans hfA (fun i hi e => ?_), fun k hk => ?_⟩, ht4, ?_⟩
  ·rcases hm2.at_ g2 rfl with e2 | e2
   ·rw [e2, e]
   ·omega
  ·rw [hob4] at hk
   exact hm2.at_ k hk
  ·rw [HV4.out, V_same (F := upd G3 m cc) (fun j _ => HS5.out.out j)]
   have := V_upd_succ BB G3 0 m cc
   rw [Nat.zero_add] at this
   rw [this]
   exact HV3.out
set_option maxRecDepth 100000 in
set_option maxHeartbeats 4000000 in
theorem z_Lsh1 (p : Nat) (z : Int) (w0 w : World) (h : NewZ w0 w p z) (hs : Sm z) :
  Calls Tryz.prog 148 #[.pointer (some ⟨p, 0, none⟩), .pointer (some ⟨p, 0, none⟩), .int .u64 1] w fun e w' =>
   e = .returned (.pointer (some ⟨p, 0, none⟩)) ∧ NewZ w0 w' p (2 * z) := by
 have hfr := h.fr
 have hold := h.old
 obtain ⟨s, v, n, F, ho, rfl, hk⟩ := h.own
 have hn : n ≤ 39 := ho.rd.len hs
 have L := nat_lsh1 v n F w.drew (ho.own.fr ((Fr.refl NoS w).drew) (fun _ _ x => x)) (by omega)
 have c0 := ho.rd.c0
 have c1 := ho.rd.c1
 have hblk := ho.blk
 have hne0 := ho.own.rd.ne_int hblk
 have hpos := ho.top.pos
 have hsg := ho.sign
 obtain ⟨A, c, rfl, _, _⟩ := ho.own.rd.shape
 have HT := Lib.hid (And.intro hpos hsg)
 clear hpos hsg
 go_enter Tryz.func148, Tryz.ntmps148
 go_wp2_with fail
 go_region_with (go_at_call 202; go_loud ((with_reducible refine L.mono ?_); rintro e w1 ⟨v', n', G, rfl, hm, ht, hv⟩; have HV := Lib.hid hv; clear hv; obtain ⟨A', c', rfl, _, _⟩ := hm.own.rd.shape; have hb1 : w1.heap[p]? = some (.cells #[.bool s, .slice A n c] TI (0, 0)) := (hm.fr.block p (zLt hblk) hne0).trans hblk; have d1 : w1.cell? ⟨p, 1, none⟩ = some (.slice A n c) := (by simp [World.cell?, hb1]); have f1 : w1.frozen? ⟨p, 1, none⟩ = false := (by simp [World.frozen?, hb1])))
 all_goals
  have hb2 := int_set hb1 (.slice A' n' c')
  have e0 : (w1.setCell ⟨p, 1, none⟩ (.slice A' n' c')).cell? ⟨p, 0, none⟩ = some (.bool s) := by simp [World.cell?, hb2]
  have g0 : (w1.setCell ⟨p, 1, none⟩ (.slice A' n' c')).frozen? ⟨p, 0, none⟩ = false := by simp [World.frozen?, hb2]
  have hne1 := hm.own.rd.ne_int hb1
  have fB : Fr (· = p) w1 ((w1.setCell ⟨p, 1, none⟩ (.slice A' n' c')).setCell ⟨p, 0, none⟩ (.bool s)) := (Fr.set _ _ _ _).trans' (Fr.set _ _ _ _)
  have fA : Fr NoS w0 w1 := (hfr.drew).trans hm.fr (fun i hi e => by have := hk i e; omega)
  have fin : NewZ w0 ((w1.setCell ⟨p, 1, none⟩ (.slice A' n' c')).setCell ⟨p, 0, none⟩ (.bool s)) p (2 * sgn s (Vb BB F 0 n)) := by
   refine ⟨fA.trans fB (fun i hi e => by omega), hold, s, .slice A' n' c', n', G, ⟨int_set0 hb2 s, hm.own.fr fB (fun k hk e => hne1 (by rw [hk, e])), ht, fun e => ?_⟩, ?_, fun k hk2 => ?_⟩
   ·refine ht.pos.1 ?_
    rw [HV.out]
    have := HT.out.1.2 (HT.out.2 e)
    omega
   ·rw [HV.out]; cases s <;> simp [sgn] <;> omega
   ·rcases hm.at_ k hk2 with e | e
    ·exact hk k e
    ·exact Nat.le_trans hfr.size e
  have FIN := Lib.hid fin
  clear fin hb2 hb1 hm ht hne1 fB fA
  go_wp2
  go_ret
  exact ⟨rfl, FIN.out⟩
theorem neq_ptr (a b : Addr) (w : World) (ca cb : Array Value) (ta tb : TypeId) (ha : w.heap[a.block]? = some (.cells ca ta (0, 0))) (hb : w.heap[b.block]? = some (.cells cb tb (0, 0))) (T te : TypeId) (hT : Tryz.prog.underlying T = some (.pointer te)) (hte : (Tryz.prog.info? te).map (fun i => decide (i.size ≠ 0)) = some true) :
  (binOp .neq T (.pointer (some a)) (.pointer (some b))).run Tryz.prog w = .ok (.bool (!decide (a = b))) w := by
 obtain ⟨j, hj, hs⟩ := Option.map_eq_some_iff.1 hte
 by_cases e : a = b
 ·subst e
  have h : ∀ d : Nat, (Op.equalIn (d + 1) T (.pointer (some a)) (.pointer (some a))).run Tryz.prog w = .ok true w := fun d => by
   simp [Op.equalIn, run_underlying hT, sizeOf, typeInfo, hj, run_sameAddr_same]
  simp only [binOp]
  simp [Op.equal, Op.maxDepth, h 9999]
 ·rw [run_neq_ptr_other w hT hj (by simpa using hs) e ha hb]; simp [e]
theorem vw_read {w wr : World} {n gz oz lz gx ox i : Nat} {F X G : Nat → Nat} (hz : BlkW w gz lz F) (hx : Words w gx ox n X) (hzn : oz + n ≤ lz) (ha : gx = gz → ox = oz) (hG : BlkW wr gz lz G) (hout : ∀ j, j < oz ∨ oz + i ≤ j → G j = F j) (hf : Fr (· = gz) w wr) :
  ∀ j, i ≤ j → j < n → wr.cell? ⟨gx, ox + j, none⟩ = some (.int .u64 (X j : Nat)) := by
 intro j h1 h2
 by_cases e : gx = gz
 ·subst e
  obtain rfl := ha rfl
  have h3 := (hz.cell (j := ox + j) (by omega)).symm.trans (hx.cell j h2)
  simp at h3
  rw [hG.cell (by omega), hout _ (by omega)]
  simp; omega
 ·rw [(hx.fr hf e).cell j h2]
theorem vw_done {G X : Nat → Nat} {oz i n y c : Nat} (h : Vb BB G oz i + BB ^ i * c = Vb BB X 0 i + y) (hi : i < n) (h1 : G (oz + i) = X i + c) (hr : ∀ j, i < j → j < n → G (oz + j) = X j) :
  Vb BB G oz n = Vb BB X 0 n + y := by
 obtain ⟨k, rfl⟩ : ∃ k, n = i + 1 + k := ⟨n - (i + 1), by omega⟩
 rw [V_add, V_add BB X, V_succ, V_succ, h1, Nat.zero_add, Nat.zero_add, Nat.mul_add]
 have e : Vb BB G (oz + (i + 1)) k = Vb BB X (i + 1) k := V_congr fun j hj => by rw [Nat.add_assoc]; exact hr _ (by omega) (by omega)
 rw [e]
 omega
theorem alias_eq {w : World} {n g o lz : Nat} {F X : Nat → Nat} (hz : BlkW w g lz F) (hx : Words w g o n X) (hzn : o + n ≤ lz) : ∀ j, j < n → F (o + j) = X j := by
 intro j hj
 have h3 := (hz.cell (j := o + j) (by omega)).symm.trans (hx.cell j hj)
 simp at h3
 omega
def VW (w : World) (gz oz lz n y : Nat) (F X : Nat → Nat) (e : Ending) (w' : World) : Prop :=
 ∃ (c : Nat) (G : Nat → Nat), e = .returned (.int .u64 c) ∧ c ≤ 1 ∧ BlkW w' gz lz G ∧ (∀ j, j < oz ∨ oz + n ≤ j → G j = F j) ∧ Vb BB G oz n + BB ^ n * c = Vb BB X 0 n + y ∧ Fr (· = gz) w w'
set_option maxRecDepth 100000 in
set_option maxHeartbeats 8000000 in
theorem addVW (n gz oz lz cz gx ox cx y : Nat) (F X : Nat → Nat) (w : World) (cb : Array Value) (tb : TypeId) (hz : BlkW w gz lz F) (hx : Words w gx ox n X) (hxh : w.heap[gx]? = some (.cells cb tb (0, 0))) (hzn : oz + n ≤ lz) (ha : gx = gz → ox = oz) (hn : 0 < n) (hcz : n < cz) (hczl : cz ≤ 1000000000) (hcx : n ≤ cx) (hcxl : cx ≤ 9223372036854775807) (hy : y < BB) :
  Calls Tryz.prog 205 #[.slice (some ⟨gz, oz, none⟩) n cz, .slice (some ⟨gx, ox, none⟩) n cx, .int .u64 y] w (VW w gz oz lz n y F X) := by
 have hroom := hz.room
 rw [LL_eq] at hroom
 have b0 : ((n : Int) == 0) = false := by simp; omega
 have bn : ((n : Int) != (n : Int)) = false := by simp
 have x0c := hx.cell 0 hn
 have x0B := hx.word 0 hn
 rw [Nat.add_zero] at x0c
 obtain ⟨x0, hx0⟩ : ∃ x0, Hid (X 0 = x0) := ⟨_, Lib.hid rfl⟩
 rw [hx0.out] at x0c x0B
 have f0 := hz.free (oz + 0)
 have c0 := hz.cell (j := oz + 0) (by omega)
 rw [Nat.add_zero] at f0 c0
 obtain ⟨s, c, hc1, hs, hsc, hA⟩ := bits_Add_ex x0 y 0 (by rw [← BB_eq]; exact x0B) (by rw [← BB_eq]; exact hy) (by omega)
 rw [← BB_eq] at hs
 have hst := hz.store (i := oz) (x := s) hs
 have hff : Fr (· = gz) w (w.setCell ⟨gz, oz, none⟩ (.int .u64 (s : Nat))) := Fr.set _ _ _ _
 have hout0 : ∀ j, j < oz ∨ oz + 1 ≤ j → upd F oz s j = F j := fun j hj => upd_other _ _ _ _ (by omega)
 have hheap : ∀ wr : World, Fr (· = gz) w wr → ∀ G, BlkW wr gz lz G → (∃ cz0, wr.heap[gz]? = some (.cells cz0 TW (0, 0))) ∧ ∃ cx0 tx0, wr.heap[gx]? = some (.cells cx0 tx0 (0, 0)) := by
  intro wr hf G hG
  obtain ⟨cz0, hcz0, _⟩ := hG.row
  refine ⟨⟨cz0, hcz0⟩, ?_⟩
  by_cases e : gx = gz
  ·subst e; exact ⟨_, _, hcz0⟩
  ·exact ⟨_, _, (hf.block gx (zLt hxh) e).trans hxh⟩
 have NEall : ∀ wr : World, Fr (· = gz) w wr → ∀ G, BlkW wr gz lz G → ∀ nq, (binOp .neq 204 (.pointer (some ⟨gz, oz, none⟩)) (.pointer (some ⟨gx, ox, none⟩))).run Tryz.prog (wr.drewN nq) = .ok (.bool (!decide ((⟨gz, oz, none⟩ : Addr) = ⟨gx, ox, none⟩))) (wr.drewN nq) := by
  intro wr hf G hG nq
  obtain ⟨⟨cz0, hcz0⟩, cx0, tx0, hcx0⟩ := hheap wr hf G hG
  exact neq_ptr ⟨gz, oz, none⟩ ⟨gx, ox, none⟩ (wr.drewN nq) _ _ _ _ hcz0 hcx0 204 94 Tryz.underlying204 (by kernel_rfl)
 have HNE := Lib.hid NEall
 have HA := Lib.hid ha
 clear NEall hheap
 have q1 : 1 ≤ n := hn
 have q2 : (1 : Int) ≤ (n : Int) := by omega
 have q3 : ¬ 1 = cz := by omega
 have q4 : ¬ cz = 1 := by omega
 by_cases e : gx = gz
 ·subst e
  obtain rfl := ha rfl
  have hd : (!decide ((⟨gx, ox, none⟩ : Addr) = ⟨gx, ox, none⟩)) = false := by simp
  rw [hd] at HNE
  have HAL := Lib.hid (alias_eq hz hx hzn)
  rcases Nat.lt_or_ge 0 c with h0 | h0
  ·obtain rfl : c = 1 := by omega
   have hV0 : Hid (Vb BB (upd F ox s) ox 1 + BB ^ 1 = Vb BB X 0 1 + y) := by
    refine Lib.hid ?_
    rw [V_one, V_one, upd_same, hx0.out, Nat.pow_one, BB_eq]
    omega
   have HOUT := Lib.hid hout0
   clear hout0 hd
   go_enter Tryz.func205, Tryz.ntmps205
   go_wp2_with (go_at_call 246; refine (hA _).mono ?_; rintro e w' ⟨rfl, rfl⟩)
   go_loopw [9] (fun i wr => ∃ (k : Nat) (G : Nat → Nat), 1 ≤ k ∧ k ≤ n ∧ i = .int .i64 k ∧ BlkW wr gx lz G ∧ Hid (∀ j, j < ox ∨ ox + k ≤ j → G j = F j) ∧ Hid (Vb BB G ox k + BB ^ k = Vb BB X 0 k + y) ∧ Fr (· = gx) w wr)
    (fun i _ => n - (intOf i).toNat)
   case atStart => exact ⟨1, _, Nat.le_refl _, hn, rfl, hst, HOUT.out, hV0, hff⟩
   case round =>
    obtain ⟨k, G, hk1, hk, rfl, hG, hout, hV, hfr⟩ := hrel
    by_cases hlt : k < n
    ·have hread := vw_read hz hx hzn (fun _ => rfl) hG hout.out hfr k (Nat.le_refl _) hlt
     have hXB := hx.word k hlt
     obtain ⟨xk, hxk⟩ : ∃ xk, Hid (X k = xk) := ⟨_, Lib.hid rfl⟩
     rw [hxk.out] at hread hXB
     have hzf := hG.free (ox + k)
     have hzc := hG.cell (j := ox + k) (by omega)
     have bt : decide ((k : Int) < (n : Int)) = true := by simp; exact hlt
     by_cases hmax : xk = 18446744073709551615
     ·have bm : ((xk : Int) != 18446744073709551615) = false := by subst hmax; simp
      have hMX := Lib.hid hmax
      have hst2 := hG.store (i := ox + k) (x := 0) BB_pos
      clear hmax
      go_wp2
      go_roundw
      case rel =>
       refine ⟨k + 1, upd G (ox + k) 0, by omega, by omega, by go_num, hst2, Lib.hid fun j hj => by rw [upd_other _ _ _ _ (by omega)]; exact hout.out j (by omega), Lib.hid ?_, hfr.setCell _ _ (.inr rfl)⟩
       rw [V_upd_succ, V_succ, Nat.zero_add, hxk.out, hMX.out, Nat.pow_succ, Nat.mul_zero, Nat.add_zero]
       have h1 := hV.out
       have h2 : BB ^ k * BB = BB ^ k + BB ^ k * 18446744073709551615 := by rw [BB_eq]; omega
       omega
      case measure => simp [intOf]; omega
     ·have bm : ((xk : Int) != 18446744073709551615) = true := by simp; omega
      have hx1B : xk + 1 < BB := by rw [BB_eq] at hXB ⊢; omega
      have ew : IntKind.u64.wrap ((xk : Int) + 1) = (xk : Int) + 1 := IntWalk.u64_in _ (by rw [BB_eq] at hx1B; omega)
      have ec : ((xk : Int) + 1) = ((xk + 1 : Nat) : Int) := by omega
      rw [ec] at ew
      have hst2 := hG.store (i := ox + k) (x := xk + 1) hx1B
      have hfr2 : Fr (· = gx) w (wr.setCell ⟨gx, ox + k, none⟩ (.int .u64 ((xk + 1 : Nat) : Int))) := hfr.setCell _ _ (.inr rfl)
      have NE := HNE.out _ hfr2 _ hst2
      rw [← ec] at hst2 hfr2 NE ew
      have hmaxlt : xk < 18446744073709551615 := by rw [BB_eq] at hx1B; omega
      clear hmax ec
      go_wp2
      go_quiet (fail)
      go_wp2
      go_ret
      refine ⟨0, _, rfl, by omega, hst2.drewN _, fun j hj => by rw [upd_other _ _ _ _ (by omega)]; exact hout.out j (by omega), ?_, hfr2.drewN _⟩
      rw [Nat.mul_zero, Nat.add_zero]
      refine vw_done (i := k) (c := 1) ?_ hlt (by rw [upd_same, hxk.out]) fun j h1 h2 => ?_
      ·rw [Nat.mul_one, V_congr (G := G) (o' := ox) (fun j hj => upd_other _ _ _ _ (by omega))]; exact hV.out
      ·rw [upd_other _ _ _ _ (by omega), hout.out _ (by omega)]; exact HAL.out j h2
    ·have bt : decide ((k : Int) < (n : Int)) = false := by simp; omega
     obtain rfl : k = n := by omega
     have HV2 := Lib.hid (And.intro hV.out hout.out)
     clear hV hout
     go_wp2
     go_ret
     exact ⟨1, G, rfl, Nat.le_refl _, hG, HV2.out.2, by rw [Nat.mul_one]; exact HV2.out.1, hfr⟩
  ·obtain rfl : c = 0 := by omega
   have NE := HNE.out _ hff _ hst
   have fin : ∀ nq, VW w gx ox lz n y F X (.returned (.int .u64 (0 : Nat))) ((w.setCell ⟨gx, ox, none⟩ (.int .u64 (s : Nat))).drewN nq) := fun nq => ⟨0, upd F ox s, rfl, by omega, hst.drewN nq, fun j hj => hout0 j (by omega), by
    rw [Nat.mul_zero, Nat.add_zero]
    refine vw_done (i := 0) (c := y) (by simp [Vb]) hn (by rw [Nat.add_zero, upd_same, hx0.out]; omega) fun j h1 h2 => by rw [upd_other _ _ _ _ (by omega)]; exact HAL.out j h2, hff.drewN nq⟩
   have FIN := Lib.hid fin
   clear fin hd
   go_enter Tryz.func205, Tryz.ntmps205
   go_wp2_with (go_at_call 246; refine (hA _).mono ?_; rintro e w' ⟨rfl, rfl⟩)
   go_quiet (fail)
   go_wp2
   go_ret
   exact FIN.out _
 ·have hd : (!decide ((⟨gz, oz, none⟩ : Addr) = ⟨gx, ox, none⟩)) = true := by rw [decide_eq_false (fun e' => e (congrArg Addr.block e').symm)]; rfl
  rw [hd] at HNE
  rcases Nat.lt_or_ge 0 c with h0 | h0
  ·obtain rfl : c = 1 := by omega
   have hV0 : Hid (Vb BB (upd F oz s) oz 1 + BB ^ 1 = Vb BB X 0 1 + y) := by
    refine Lib.hid ?_
    rw [V_one, V_one, upd_same, hx0.out, Nat.pow_one, BB_eq]
    omega
   have HOUT := Lib.hid hout0
   clear hout0 hd
   go_enter Tryz.func205, Tryz.ntmps205
   go_wp2_with (go_at_call 246; refine (hA _).mono ?_; rintro e w' ⟨rfl, rfl⟩)
   go_loopw [9] (fun i wr => ∃ (k : Nat) (G : Nat → Nat), 1 ≤ k ∧ k ≤ n ∧ i = .int .i64 k ∧ BlkW wr gz lz G ∧ Hid (∀ j, j < oz ∨ oz + k ≤ j → G j = F j) ∧ Hid (Vb BB G oz k + BB ^ k = Vb BB X 0 k + y) ∧ Fr (· = gz) w wr)
    (fun i _ => n - (intOf i).toNat)
   case atStart => exact ⟨1, _, Nat.le_refl _, hn, rfl, hst, HOUT.out, hV0, hff⟩
   case round =>
    obtain ⟨k, G, hk1, hk, rfl, hG, hout, hV, hfr⟩ := hrel
    by_cases hlt : k < n
    ·have hread := vw_read hz hx hzn HA.out hG hout.out hfr k (Nat.le_refl _) hlt
     have hXB := hx.word k hlt
     obtain ⟨xk, hxk⟩ : ∃ xk, Hid (X k = xk) := ⟨_, Lib.hid rfl⟩
     rw [hxk.out] at hread hXB
     have hzf := hG.free (oz + k)
     have hzc := hG.cell (j := oz + k) (by omega)
     have bt : decide ((k : Int) < (n : Int)) = true := by simp; exact hlt
     by_cases hmax : xk = 18446744073709551615
     ·have bm : ((xk : Int) != 18446744073709551615) = false := by subst hmax; simp
      have hMX := Lib.hid hmax
      have hst2 := hG.store (i := oz + k) (x := 0) BB_pos
      clear hmax
      go_wp2
      go_roundw
      case rel =>
       refine ⟨k + 1, upd G (oz + k) 0, by omega, by omega, by go_num, hst2, Lib.hid fun j hj => by rw [upd_other _ _ _ _ (by omega)]; exact hout.out j (by omega), Lib.hid ?_, hfr.setCell _ _ (.inr rfl)⟩
       rw [V_upd_succ, V_succ, Nat.zero_add, hxk.out, hMX.out, Nat.pow_succ, Nat.mul_zero, Nat.add_zero]
       have h1 := hV.out
       have h2 : BB ^ k * BB = BB ^ k + BB ^ k * 18446744073709551615 := by rw [BB_eq]; omega
       omega
      case measure => simp [intOf]; omega
     ·have bm : ((xk : Int) != 18446744073709551615) = true := by simp; omega
      have hx1B : xk + 1 < BB := by rw [BB_eq] at hXB ⊢; omega
      have ew : IntKind.u64.wrap ((xk : Int) + 1) = (xk : Int) + 1 := IntWalk.u64_in _ (by rw [BB_eq] at hx1B; omega)
      have ec : ((xk : Int) + 1) = ((xk + 1 : Nat) : Int) := by omega
      rw [ec] at ew
      have hst2 := hG.store (i := oz + k) (x := xk + 1) hx1B
      have hfr2 : Fr (· = gz) w (wr.setCell ⟨gz, oz + k, none⟩ (.int .u64 ((xk + 1 : Nat) : Int))) := hfr.setCell _ _ (.inr rfl)
      have NE := HNE.out _ hfr2 _ hst2
      rw [← ec] at hst2 hfr2 NE ew
      have hmaxlt : xk < 18446744073709551615 := by rw [BB_eq] at hx1B; omega
      clear hmax ec
      by_cases hkn : k + 1 = n
      ·by_cases hcxk : k + 1 = cx
       all_goals
        have p1 : ((k : Int) + 1).toNat = k + 1 := by omega
        have p2 : IntKind.i64.wrap ((k : Int) + 1) = (k : Int) + 1 := IntWalk.i64_in _ (by omega)
        have p3 : ¬ k + 1 = cz := by omega
        have p4 : ¬ cz = k + 1 := by omega
        have p5 : (k : Int) + 1 ≤ (n : Int) := by omega
        have p9 : (0 : Int) ≤ (k : Int) + 1 := by omega
        have p6 : n - (k + 1) = 0 := by omega
        have HK := Lib.hid hkn
        have HCX := Lib.hid hcxk
        clear hkn
        go_wp2
        go_quiet (fail)
        go_wp2
        go_still_tail 8, (by kernel_rfl)
        change wpList _ _ _ _ _ (World.drew _)
        with_reducible refine wpList_copy_nothing rfl (.tmp 69) (.tmp 73) _ _ rfl _ Tryz.underlying93 (by kernel_rfl) _ _ _ _ _ _ rfl rfl (by simp) ?_
        go_wp2
        go_ret
        refine ⟨0, _, rfl, by omega, (hst2.drewN _).drew, fun j hj => by rw [upd_other _ _ _ _ (by omega)]; exact hout.out j (by omega), ?_, (hfr2.drewN _).drew⟩
        rw [Nat.mul_zero, Nat.add_zero]
        refine vw_done (i := k) (c := 1) ?_ hlt (by rw [upd_same, hxk.out]) fun j h1 h2 => by have := HK.out; omega
        rw [Nat.mul_one, V_congr (G := G) (o' := oz) (fun j hj => upd_other _ _ _ _ (by omega))]; exact hV.out
      ·have p1 : ((k : Int) + 1).toNat = k + 1 := by omega
       have p2 : IntKind.i64.wrap ((k : Int) + 1) = (k : Int) + 1 := IntWalk.i64_in _ (by omega)
       have p3 : ¬ k + 1 = cz := by omega
       have p4 : ¬ cz = k + 1 := by omega
       have p5 : (k : Int) + 1 ≤ (n : Int) := by omega
       have p9 : (0 : Int) ≤ (k : Int) + 1 := by omega
       have p7 : ¬ k + 1 = cx := by omega
       have p8 : ¬ cx = k + 1 := by omega
       have hx1 : ∀ nq, Words (((wr.setCell ⟨gz, oz + k, none⟩ (.int .u64 ((xk : Int) + 1))).drewN nq).drew) gx (ox + (k + 1)) (n - (k + 1)) (fun j => X (k + 1 + j)) := fun nq =>
        ⟨fun j hj => by rw [Nat.add_assoc]; exact (hx.fr hfr2 e).cell (k + 1 + j) (by omega), fun j hj => hx.word (k + 1 + j) (by omega)⟩
       have HX1 := Lib.hid hx1
       clear hx1
       go_wp2
       go_quiet (fail)
       go_wp2
       go_still_tail 8, (by kernel_rfl)
       change wpList _ _ _ _ _ (World.drew _)
       with_reducible refine copy_blk rfl (.tmp 69) (.tmp 73) _ _ rfl Tryz.underlying93 gz (oz + (k + 1)) (n - (k + 1)) (cz - (k + 1)) lz gx (ox + (k + 1)) (n - (k + 1)) (cx - (k + 1)) _ _ ?hd ?hs ((hst2.drewN _).drew) (by omega) (HX1.out _) (Nat.le_refl _) ?_
       case hd => rfl
       case hs => rfl
       intro w2 G2 hb2 hG2 hold2 hf2
       go_wp2
       go_ret
       refine ⟨0, G2, rfl, by omega, hb2, fun j hj => by rw [hold2.out j (by omega), upd_other _ _ _ _ (by omega)]; exact hout.out j (by omega), ?_, ((hfr2.drewN _).drew).trans' hf2⟩
       rw [Nat.mul_zero, Nat.add_zero]
       refine vw_done (i := k) (c := 1) ?_ hlt (by rw [hold2.out (oz + k) (by omega), upd_same, hxk.out]) fun j h1 h2 => ?_
       ·rw [Nat.mul_one, V_congr (F := G2) (G := G) (o' := oz) (fun j hj => by rw [hold2.out _ (by omega), upd_other _ _ _ _ (by omega)])]; exact hV.out
       ·have := hG2.out (j - (k + 1)) (by omega)
        rw [show oz + (k + 1) + (j - (k + 1)) = oz + j by omega, show k + 1 + (j - (k + 1)) = j by omega] at this
        exact this
    ·have bt : decide ((k : Int) < (n : Int)) = false := by simp; omega
     obtain rfl : k = n := by omega
     have HV2 := Lib.hid (And.intro hV.out hout.out)
     clear hV hout
     go_wp2
     go_ret
     exact ⟨1, G, rfl, Nat.le_refl _, hG, HV2.out.2, by rw [Nat.mul_one]; exact HV2.out.1, hfr⟩
  ·obtain rfl : c = 0 := by omega
   have NE := HNE.out _ hff _ hst
   by_cases hn1 : n = 1
   ·subst hn1
    have fin : ∀ nq, VW w gz oz lz 1 y F X (.returned (.int .u64 (0 : Nat))) ((w.setCell ⟨gz, oz, none⟩ (.int .u64 (s : Nat))).drewN nq) := fun nq => ⟨0, upd F oz s, rfl, by omega, hst.drewN nq, fun j hj => hout0 j (by omega), by
     rw [Nat.mul_zero, Nat.add_zero]
     refine vw_done (i := 0) (c := y) (by simp [Vb]) hn (by rw [Nat.add_zero, upd_same, hx0.out]; omega) fun j h1 h2 => by omega, hff.drewN nq⟩
    have FIN := Lib.hid fin
    clear fin hd
    by_cases hcx1 : cx = 1
    ·subst hcx1
     go_enter Tryz.func205, Tryz.ntmps205
     go_wp2_with (go_at_call 246; refine (hA _).mono ?_; rintro e w' ⟨rfl, rfl⟩)
     go_quiet (fail)
     go_wp2
     go_still_tail 4, (by kernel_rfl)
     change wpList _ _ _ _ _ (World.drew _)
     with_reducible refine wpList_copy_nothing rfl (.tmp 40) (.tmp 42) _ _ rfl _ Tryz.underlying93 (by kernel_rfl) _ _ _ _ _ _ rfl rfl (by simp) ?_
     go_wp2
     go_ret
     exact FIN.out (_ + 1)
    ·have q5 : ¬ 1 = cx := fun h => hcx1 h.symm
     go_enter Tryz.func205, Tryz.ntmps205
     go_wp2_with (go_at_call 246; refine (hA _).mono ?_; rintro e w' ⟨rfl, rfl⟩)
     go_quiet (fail)
     go_wp2
     go_still_tail 4, (by kernel_rfl)
     change wpList _ _ _ _ _ (World.drew _)
     with_reducible refine wpList_copy_nothing rfl (.tmp 40) (.tmp 42) _ _ rfl _ Tryz.underlying93 (by kernel_rfl) _ _ _ _ _ _ rfl rfl (by simp) ?_
     go_wp2
     go_ret
     exact FIN.out (_ + 1)
   ·have q5 : ¬ 1 = cx := by omega
    have q6 : ¬ cx = 1 := by omega
    have hx1 : ∀ nq, Words (((w.setCell ⟨gz, oz, none⟩ (.int .u64 (s : Nat))).drewN nq).drew) gx (ox + 1) (n - 1) (fun j => X (1 + j)) := fun nq =>
     ⟨fun j hj => by rw [Nat.add_assoc]; exact (hx.fr hff e).cell (1 + j) (by omega), fun j hj => hx.word (1 + j) (by omega)⟩
    have HX1 := Lib.hid hx1
    clear hx1 hd
    go_enter Tryz.func205, Tryz.ntmps205
    go_wp2_with (go_at_call 246; refine (hA _).mono ?_; rintro e w' ⟨rfl, rfl⟩)
    go_quiet (fail)
    go_wp2
    go_still_tail 4, (by kernel_rfl)
    change wpList _ _ _ _ _ (World.drew _)
    with_reducible refine copy_blk rfl (.tmp 40) (.tmp 42) _ _ rfl Tryz.underlying93 gz (oz + 1) (n - 1) (cz - 1) lz gx (ox + 1) (n - 1) (cx - 1) _ _ ?hd ?hs ((hst.drewN _).drew) (by omega) (HX1.out _) (Nat.le_refl _) ?_
    case hd => rfl
    case hs => rfl
    intro w2 G2 hb2 hG2 hold2 hf2
    go_wp2
    go_ret
    refine ⟨0, G2, rfl, by omega, hb2, fun j hj => by rw [hold2.out j (by omega)]; exact hout0 j (by omega), ?_, ((hff.drewN _).drew).trans' hf2⟩
    rw [Nat.mul_zero, Nat.add_zero]
    refine vw_done (i := 0) (c := y) (by simp [Vb]) hn (by rw [Nat.add_zero, hold2.out oz (by omega), upd_same, hx0.out]; omega) fun j h1 h2 => ?_
    have := hG2.out (j - 1) (by omega)
    rw [show oz + 1 + (j - 1) = oz + j by omega, show 1 + (j - 1) = j by omega] at this
    exact this
end Go.Proofs.YtilmldfbmmcchaaGreatDoor
