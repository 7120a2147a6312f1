/- Powers of ten as whole numbers of any length. Conditions: the table of small powers holds them, the product's threshold is 40; the exponent is less than 100. -/
import Derived.Test.YtkholmbfeghhpaaGreatDoorGov
namespace Go.Proofs.YtkholmbfeghhpaaGreatDoor
open Go.RowKit

/-- What is read of the package's variables. -/
structure Glob (w : World) : Prop where
  kar : w.cell? ⟨11, 0, none⟩ = some (.int .i64 40)
  tab : ∀ i, i < 20 → w.cell? ⟨4, i, none⟩ = some (.int .u64 ((10 ^ i : Nat) : Int))
theorem Glob.fr {w w' : World} (h : Glob w) (f : Fr NoS w w') : Glob w' :=
  ⟨(f.cell (World.block_lt_of_cell? w _ h.kar) (fun x => x)).trans h.kar, fun i hi => (f.cell (World.block_lt_of_cell? w _ (h.tab i hi)) (fun x => x)).trans (h.tab i hi)⟩

/-- A number of one's own: new blocks. -/
structure New (w w' : World) (p m : Nat) (N : Nat) : Prop where
  fr : Fr NoS w w'
  old : w.heap.size ≤ p
  own : ∃ (v : Value) (n : Nat) (G : Nat → Nat), IntOwn w' p false v n G ∧ n ≤ m ∧ Vb BB G 0 n = N ∧ ∀ k, v.ownBlock = some k → w.heap.size ≤ k

theorem New.after {w w1 w2 : World} {p m a : Nat} (h : New w w1 p m a) (hw : Fr NoS w1 w2) : New w w2 p m a := by
  obtain ⟨v, n, G, ho, hn, hv, hk⟩ := h.own
  exact ⟨h.fr.trans' hw, h.old, v, n, G, ho.fr hw (fun x => x) (fun _ _ x => x), hn, hv, hk⟩
theorem New.mono {w w1 : World} {p m m' a : Nat} (h : New w w1 p m a) (hm : m ≤ m') : New w w1 p m' a := by
  obtain ⟨v, n, G, ho, hn, hv, hk⟩ := h.own
  exact ⟨h.fr, h.old, v, n, G, ho, Nat.le_trans hn hm, hv, hk⟩

/-- A new number, set. -/
theorem new_set (x : Nat) (w : World) (hx : x < BB) :
    Calls Tryz.prog 82 #[.pointer (some ⟨w.heap.size, 0, none⟩), .int .u64 x] (w.alloc (.cells #[.bool false, .slice none 0 0] TI (0, 0))) fun e w' =>
      e = .returned (.pointer (some ⟨w.heap.size, 0, none⟩)) ∧ New w w' w.heap.size 1 x := by
  have M0 := IntOwn.made w
  refine (int_SetUint64 w.heap.size x 0 false (.slice none 0 0) _ _ M0.blk M0.own hx).mono ?_
  rintro e w1 ⟨v1, n1, G1, rfl, ho1, hn1, hv1, hf1, hat1⟩
  have hs := World.size_alloc w (.cells #[.bool false, .slice none 0 0] TI (0, 0))
  refine ⟨rfl, ((Fr.refl NoS w).alloc _).trans hf1 (fun i hi e => ?_), Nat.le_refl _, v1, n1, G1, ho1, hn1, hv1, fun k hk => ?_⟩
  · rcases e with e | e
    · omega
    · simp [Value.ownBlock] at e
  · rcases hat1 k hk with e | e
    · simp [Value.ownBlock] at e
    · omega

theorem IntRd.pos {w : World} {p : Nat} {neg : Bool} {v : Value} {n : Nat} {F : Nat → Nat} (h : IntRd w p neg v n F) (h0 : 0 < n) : 0 < Vb BB F 0 n := by
  obtain ⟨k, rfl⟩ : ∃ k, n = k + 1 := ⟨n - 1, by omega⟩
  rcases h.top with ht | ht
  · omega
  · have h1 : BB ^ k ≤ Vb BB F 0 (k + 1) := V_top (by rw [Nat.zero_add]; simpa using ht)
    have h2 : 0 < BB ^ k := Nat.pow_pos BB_pos
    omega

/-- A number of one's own, multiplied by another. -/
theorem new_mul {w w1 w2 : World} {p q m k a b : Nat} (h : New w w1 p m a) (h2 : New w1 w2 q k b) (hm : m ≤ 900000000) (hk : k < 40) (hG : Glob w2) :
    Calls Tryz.prog 83 #[.pointer (some ⟨p, 0, none⟩), .pointer (some ⟨p, 0, none⟩), .pointer (some ⟨q, 0, none⟩)] w2 fun e w' =>
      e = .returned (.pointer (some ⟨p, 0, none⟩)) ∧ New w w' p (m + k) (a * b) := by
  have h' := h.after h2.fr
  have hpl : p < w1.heap.size := by
    obtain ⟨v, n, G, ho, hn, hv, hk⟩ := h.own
    exact ho.lt
  obtain ⟨v, n, G, ho, hn, hv, hkv⟩ := h'.own
  obtain ⟨u, l, H, hou, hl, hu, hku⟩ := h2.own
  have hne : p ≠ q := by have := h2.old; omega
  refine (int_Mul p p q n n l false false false v v u G G H w2 ho.blk ho.own ho.rd hou.rd (.inl ⟨by omega, by omega⟩) hne (ho.own.near ho.own) (ho.own.near hou.own) hG.kar).mono ?_
  rintro e w3 ⟨v', n', G', s, rfl, ho3, hn3, hs3, hv3, hf3, hat3⟩
  have hs2 := h'.fr.size
  have hp := h'.old
  refine ⟨rfl, h'.fr.trans hf3 (fun i hi e => ?_), hp, v', n', G', ?_, by omega, by rw [hv3, hv, hu], fun k hk => ?_⟩
  · rcases e with e | e
    · omega
    · have := hkv i e; omega
  · have hs : s = false := by
      cases s with
      | false => rfl
      | true =>
        have h0 := ho3.rd.pos (ho3.sign rfl)
        simp only [sgn, if_true, Bool.false_eq_true, if_false] at hs3
        rw [← Int.natCast_mul, ← hv3] at hs3
        omega
    rw [← hs]
    exact ho3
  · rcases hat3 k hk with e | e
    · exact hkv k e
    · omega

set_option maxRecDepth 100000 in
set_option maxHeartbeats 2000000 in
theorem gv_bpow10 (k : Nat) (w : World) (hk : k < 100) (hG : Glob w) :
    Calls Tryz.prog 60 #[.int .i64 k] w fun e w' =>
      ∃ p : Nat, e = .returned (.pointer (some ⟨p, 0, none⟩)) ∧ New w w' p 7 (10 ^ k) := by
  have b1 : decide ((k : Int) < 0) = false := by simp
  have b2 : decide (100 ≤ k) = false := by simp; omega
  go_enter Tryz.func60, Tryz.ntmps60
  go_wp2_with fail
  refine (new_set 1 w (by decide)).mono ?_
  rintro e w1 ⟨rfl, hN1⟩
  have hp := hN1.old
  generalize w.heap.size = p at *
  go_wp2
  go_loopw [0] (fun i wr => ∃ (r j : Nat), i = .int .i64 r ∧ r + 19 * j = k ∧ New w wr p (1 + j) (10 ^ (19 * j)))
    (fun i _ => (intOf i).toNat)
  case atStart => exact ⟨k, 0, rfl, rfl, hN1⟩
  case round =>
    obtain ⟨r, j, rfl, hr, hN⟩ := hrel
    have hGr := hG.fr hN.fr
    have hGa := hGr.fr ((Fr.refl NoS wr).alloc (.cells #[.bool false, .slice none 0 0] TI (0, 0)))
    rcases Nat.lt_or_ge 19 r with hlt | hge
    · have ht := hGa.tab 19 (by omega)
      rw [show ((10 ^ 19 : Nat) : Int) = 10000000000000000000 from rfl] at ht
      go_wp2_with fail
      refine (new_set 10000000000000000000 wr (by decide)).mono ?_
      rintro e w2 ⟨rfl, hN2⟩
      generalize wr.heap.size = q at *
      go_wp2_with fail
      refine (new_mul hN hN2 (by omega) (by omega) (hGr.fr hN2.fr)).mono ?_
      rintro e w3 ⟨rfl, hN3⟩
      go_wp2
      go_roundw
      case rel =>
        refine ⟨r - 19, j + 1, by go_num, by omega, ?_⟩
        rw [Nat.mul_add, Nat.pow_add, show (10 : Nat) ^ (19 * 1) = 10000000000000000000 from rfl, ← Nat.add_assoc]
        exact hN3
      case measure => simp [intOf]; omega
    · have ht := hGa.tab r (by omega)
      obtain ⟨x, hx⟩ : ∃ x : Nat, Hid (x = 10 ^ r) := ⟨10 ^ r, Lib.hid rfl⟩
      have hxlt : x < BB := by
        rw [hx.out]
        exact Nat.lt_of_le_of_lt (Nat.pow_le_pow_right (by omega) hge) (by decide)
      rw [← hx.out] at ht
      go_wp2_with fail
      refine (new_set x wr hxlt).mono ?_
      rintro e w2 ⟨rfl, hN2⟩
      generalize wr.heap.size = q at *
      go_wp2_with fail
      refine (new_mul hN hN2 (by omega) (by omega) (hGr.fr hN2.fr)).mono ?_
      rintro e w3 ⟨rfl, hN3⟩
      go_wp2
      go_ret
      refine ⟨p, rfl, ?_⟩
      rw [hx.out, ← Nat.pow_add, show 19 * j + r = k by omega] at hN3
      exact hN3.mono (by omega)
end Go.Proofs.YtkholmbfeghhpaaGreatDoor
