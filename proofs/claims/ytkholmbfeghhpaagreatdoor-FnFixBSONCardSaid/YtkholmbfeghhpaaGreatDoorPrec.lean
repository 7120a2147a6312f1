/- How many decimal digits a number has. Conditions: it is at most 10^99. -/
import Derived.Test.YtkholmbfeghhpaaGreatDoorPow
namespace Go.Proofs.YtkholmbfeghhpaaGreatDoor
open Go.RowKit

/-- d is the number of N's decimal digits. -/
def Digs (N d : Nat) : Prop := N < 10 ^ d ∧ (d = 0 ∨ 10 ^ (d - 1) ≤ N)

/-- A number, held against a power of ten. -/
theorem cmp_pow (px n k : Nat) (vx : Value) (X : Nat → Nat) (w w1 : World) (p m : Nat) (hx : IntRd w px false vx n X) (h : New w w1 p m (10 ^ k)) :
    Calls Tryz.prog 59 #[.pointer (some ⟨px, 0, none⟩), .pointer (some ⟨p, 0, none⟩)] w1 fun e w' => e = .returned (.int .i64 (cmpI (Vb BB X 0 n) (10 ^ k))) ∧ Fr NoS w w' := by
  obtain ⟨u, l, H, hou, hl, hu, hku⟩ := h.own
  have hx1 : IntRd w1 px false vx n X := hx.fr h.fr (fun x => x) (fun _ _ x => x)
  have hlt := hx.lt
  have hp := h.old
  refine (gv_cmp px p n l vx u X H w1 hx1 hou.rd (by omega)).mono ?_
  rintro e w2 ⟨rfl, q, rfl⟩
  exact ⟨by rw [hu], h.fr.drewN q⟩

theorem cmpI_lt0 {a b : Nat} : decide (cmpI a b < 0) = decide (a < b) := by
  unfold cmpI
  by_cases h : a < b
  · simp [h]
  · rw [if_neg h]
    by_cases h2 : a = b
    · simp [h2]
    · rw [if_neg h2]; simp [h]
theorem cmpI_gt0 {a b : Nat} : decide (0 < cmpI a b) = decide (b < a) := by
  unfold cmpI
  by_cases h : a < b
  · simp [h]; omega
  · rw [if_neg h]
    by_cases h2 : a = b
    · simp [h2]
    · rw [if_neg h2]; simp; omega

set_option maxRecDepth 100000 in
set_option maxHeartbeats 2000000 in
theorem gv_prec (px n N : Nat) (vx : Value) (X : Nat → Nat) (w : World) (hx : IntRd w px false vx n X) (hV : Vb BB X 0 n = N) (hN : N ≤ 10 ^ 99) (hG : Glob w) :
    Calls Tryz.prog 48 #[.pointer (some ⟨px, 0, none⟩)] w fun e w' => ∃ d : Nat, e = .returned (.int .i64 d) ∧ Digs N d ∧ Fr NoS w w' := by
  have C := fun k T u u1 p m (hT : T = 10 ^ k) hu (hn : New u u1 p m T) => cmp_pow px n k vx X u u1 p m hu (hT ▸ hn)
  rw [hV] at C
  clear hV
  have HC := Lib.hid C
  clear C
  have hlt := hx.lt
  obtain ⟨T, hT⟩ : ∃ T : Nat, Hid (T = 10 ^ 99) := ⟨10 ^ 99, Lib.hid rfl⟩
  rw [← hT.out] at hN
  go_enter Tryz.func48, Tryz.ntmps48
  go_wp2_with fail
  have B := gv_bpow10 99 w (by omega) hG
  rw [← hT.out] at B
  refine B.mono ?_
  rintro e w1 ⟨p, rfl, hN1⟩
  clear B
  go_wp2_with fail
  have C1 := HC.out 99 T w w1 p 7 hT.out hx hN1
  rw [← hT.out] at C1
  refine C1.mono ?_
  rintro e w2 ⟨rfl, hf2⟩
  clear C1
  have hg : decide (0 < cmpI N T) = false := by rw [cmpI_gt0]; exact decide_eq_false (by omega)
  generalize cmpI N T = r1 at *
  have hst : N < 10 ^ 100 := by rw [hT.out] at hN; exact Nat.lt_of_le_of_lt hN (by decide)
  have HST := Lib.hid hst
  have HG := Lib.hid hG
  have HX := Lib.hid hx
  clear hst hN hT hG hx hN1
  go_wp2
  go_loopw [3, 4] (fun i j wr => ∃ (a b : Nat), i = .int .i64 a ∧ j = .int .i64 b ∧ a ≤ b ∧ b ≤ 100 ∧ Hid (a = 0 ∨ 10 ^ (a - 1) ≤ N) ∧ Hid (N < 10 ^ b) ∧ Fr NoS w wr)
    (fun i j _ => (intOf j).toNat - (intOf i).toNat)
  case atStart => exact ⟨0, 100, rfl, rfl, by omega, by omega, .inl rfl, HST, hf2⟩
  case round =>
    obtain ⟨a, b, rfl, rfl, hab, hb, ha, hNb, hfr⟩ := hrel
    rcases Nat.lt_or_ge a b with h | h
    · obtain ⟨m, hm⟩ : ∃ m : Nat, m = (a + b) / 2 := ⟨_, rfl⟩
      have hdiv : ((a : Int) + b) / 2 = (m : Nat) := by omega
      have h1 : IntKind.i64.wrap ((a : Int) + b) = a + b := IntWalk.i64_in _ (by omega)
      have h2 : ((a : Int) + b).tdiv 2 = (m : Nat) := by rw [Int.tdiv_eq_ediv_of_nonneg (by omega)]; exact hdiv
      have h3 : IntKind.i64.wrap ((m : Nat) : Int) = (m : Nat) := IntWalk.i64_in _ (by omega)
      have HM := Lib.hid hm
      clear hm
      obtain ⟨U, hU⟩ : ∃ U : Nat, Hid (U = 10 ^ m) := ⟨10 ^ m, Lib.hid rfl⟩
      go_wp2_with fail
      have B := gv_bpow10 m wr (by have := HM.out; omega) (HG.out.fr hfr)
      rw [← hU.out] at B
      refine B.mono ?_
      rintro e w3 ⟨p3, rfl, hN3⟩
      clear B
      have HN3 := Lib.hid hN3
      clear hN3
      go_wp2_with fail
      have C3 := HC.out m U wr w3 p3 7 hU.out (HX.out.fr hfr (fun x => x) (fun _ _ x => x)) HN3.out
      rw [← hU.out] at C3
      refine C3.mono ?_
      rintro e w4 ⟨rfl, hf4⟩
      clear C3
      rcases Nat.lt_or_ge N U with hl | hl
      · have hg : decide (cmpI N U < 0) = true := by rw [cmpI_lt0]; exact decide_eq_true hl
        generalize cmpI N U = r2 at *
        rw [hU.out] at hl
        have HL := Lib.hid hl
        clear hl
        go_wp2
        go_roundw
        case rel => exact ⟨a, m, rfl, rfl, by have := HM.out; omega, by have := HM.out; omega, ha, HL, hfr.trans' hf4⟩
        case measure => have := HM.out; simp [intOf]; omega
      · have hg : decide (cmpI N U < 0) = false := by rw [cmpI_lt0]; exact decide_eq_false (by omega)
        generalize cmpI N U = r2 at *
        rw [hU.out] at hl
        have HL := Lib.hid hl
        clear hl
        go_wp2
        go_roundw
        case rel => exact ⟨m + 1, b, by go_num, rfl, by have := HM.out; omega, by omega, .inr HL.out, hNb, hfr.trans' hf4⟩
        case measure => have := HM.out; simp [intOf]; omega
    · go_wp2
      go_ret
      obtain rfl : a = b := by omega
      exact ⟨a, rfl, ⟨hNb.out, ha.out⟩, hfr⟩
end Go.Proofs.YtkholmbfeghhpaaGreatDoor
