/- A decimal as sixteen bytes. Conditions: the decimal's scale is at most 19. -/
import Derived.Test.YtkholmbfeghhpaaGreatDoorNewD
namespace Go.Proofs.YtkholmbfeghhpaaGreatDoor
open Go.RowKit

theorem gv_IsNeg (neg : Bool) (c s : Nat) (w : World) :
    Calls Tryz.prog 27 #[.agg #[.bool neg, .int .i8 s, .int .u64 c]] w fun e w' => e = .returned (.bool neg) ∧ Fr NoS w w' := by
  go_enter Tryz.func27, Tryz.ntmps27
  go_wp2
  go_ret
  exact ⟨rfl, (Fr.refl _ _).alloc _⟩
theorem gv_Coef (neg : Bool) (c s : Nat) (w : World) :
    Calls Tryz.prog 28 #[.agg #[.bool neg, .int .i8 s, .int .u64 c]] w fun e w' => e = .returned (.int .u64 c) ∧ Fr NoS w w' := by
  go_enter Tryz.func28, Tryz.ntmps28
  go_wp2
  go_ret
  exact ⟨rfl, (Fr.refl _ _).alloc _⟩
theorem gv_Scale (neg : Bool) (c s : Nat) (w : World) (hs : s ≤ 19) :
    Calls Tryz.prog 29 #[.agg #[.bool neg, .int .i8 s, .int .u64 c]] w fun e w' => e = .returned (.int .i64 s) ∧ Fr NoS w w' := by
  go_enter Tryz.func29, Tryz.ntmps29
  go_wp2
  go_ret
  exact ⟨rfl, (Fr.refl _ _).alloc _⟩

/-- The sixteen bytes. -/
structure Is16 (neg : Bool) (c s : Nat) (B : Nat → Nat) : Prop where
  low : ∀ j, j < 8 → B j = c / 256 ^ j % 256
  mid : ∀ j, 8 ≤ j → j < 14 → B j = 0
  b14 : B 14 = 64 - 2 * s
  b15 : B 15 = (if neg then 128 else 0) + 48

theorem byte14 : ∀ s : Nat, s < 20 → bits .or .u8 0 (bits .and .i64 ((6176 - (s : Int)) * 2) 254 % 256) = ((64 - 2 * s : Nat) : Int) := by decide
theorem and255 (x : Nat) (hx : x < 18446744073709551616) : bits .and .u64 (x : Int) 255 = ((x % 256 : Nat) : Int) := by
  have h := (bits_nat .u64 64 (by decide) wraps_u64 x 255 (by simpa using hx) (by decide)).1
  rw [show ((255 : Nat) : Int) = 255 from rfl] at h
  rw [h, show (255 : Nat) = 2 ^ 8 - 1 from rfl, Nat.and_two_pow_sub_one_eq_mod]

set_option maxRecDepth 100000 in
set_option maxHeartbeats 2000000 in
theorem gv_ieee (neg : Bool) (c s : Nat) (w : World) (hs : s ≤ 19) (hc : c < BB) :
    Calls Tryz.prog 20 #[.agg #[.bool neg, .int .i8 s, .int .u64 c]] w fun e w' =>
      ∃ (g : Nat) (B : Nat → Nat), e = .returned (.slice (some ⟨g, 0, none⟩) 16 16) ∧ Byts w' g 0 16 B ∧ Is16 neg c s B ∧ Fr NoS w w' := by
  have h1 : ((6176 : Int) - s) / 128 = 48 := by omega
  go_enter Tryz.func20, Tryz.ntmps20
  go_wp2_with fail
  refine (gv_Scale neg c s _ hs).mono ?_
  rintro e w1 ⟨rfl, hf1⟩
  have hbox := hf1.block w.heap.size (by simp; omega) (fun x => x)
  rw [Below.heap_alloc _ _ _ (by simp), heap_alloc_new] at hbox
  have harr := hf1.block (w.heap.size + 1) (by simp) (fun x => x)
  have harr2 := heap_alloc_new (w.alloc (.cells #[.bool neg, .int .i8 s, .int .u64 c] 46 (0, 0))) (.cells #[.int .u8 0, .int .u8 0, .int .u8 0, .int .u8 0, .int .u8 0, .int .u8 0, .int .u8 0, .int .u8 0, .int .u8 0, .int .u8 0, .int .u8 0, .int .u8 0, .int .u8 0, .int .u8 0, .int .u8 0, .int .u8 0] 68 (0, 0))
  rw [World.size_alloc] at harr2
  rw [harr2] at harr
  have hblk : Blk .u8 68 w1 (w.heap.size + 1) 16 (fun _ => 0) := ⟨⟨_, harr, rfl, fun j hj => by
    rcases (show j = 0 ∨ j = 1 ∨ j = 2 ∨ j = 3 ∨ j = 4 ∨ j = 5 ∨ j = 6 ∨ j = 7 ∨ j = 8 ∨ j = 9 ∨ j = 10 ∨ j = 11 ∨ j = 12 ∨ j = 13 ∨ j = 14 ∨ j = 15 by omega) with rfl | rfl | rfl | rfl | rfl | rfl | rfl | rfl | rfl | rfl | rfl | rfl | rfl | rfl | rfl | rfl <;> rfl⟩, fun _ _ => by decide, by decide⟩
  clear harr harr2
  have hA : Fr NoS w w1 := (((Fr.refl NoS w).alloc _).alloc _).trans' hf1
  obtain ⟨x0, x1, x2, _, _, _⟩ := cells3 hbox
  have hgl : w.heap.size < w1.heap.size := (Array.getElem?_eq_some_iff.1 hbox).1
  clear hf1
  go_wp2_with fail
  refine (gv_Coef neg c s _).mono ?_
  rintro e w2 ⟨rfl, hf2⟩
  have hbox2 := (hf2.block w.heap.size hgl (fun x => x)).trans hbox
  obtain ⟨y0, y1, y2, _, _, _⟩ := cells3 hbox2
  go_wp2_with fail
  refine (gv_IsNeg neg c s _).mono ?_
  rintro e w3 ⟨rfl, hf3⟩
  have hblk3 := hblk.fr (hf2.trans' hf3) (fun x => x)
  have hA3 := hA.trans' (hf2.trans' hf3)
  clear hf2 hf3 hblk hA hbox hbox2 x0 x1 x2 y0 y1 y2 hgl
  have c15 := hblk3.cell (j := 15) (by omega)
  have c14 := hblk3.cell (j := 14) (by omega)
  have f15 := hblk3.free 15
  have f14 := hblk3.free 14
  have e14 := byte14 s (by omega)
  have e15 : bits .or .u8 128 (bits .and .i64 48 127 % 256) = ((176 : Nat) : Int) := by decide
  have e15' : bits .or .u8 0 (bits .and .i64 48 127 % 256) = ((48 : Nat) : Int) := by decide
  have E14 := Lib.hid e14
  have E15 := Lib.hid e15
  have E15' := Lib.hid e15'
  clear e14 e15 e15'
  cases neg with
  | true =>
    go_wp2
    simp only [E14.out, E15.out]
    have hb0 := ((hblk3.store (i := 15) (x := 128) (by decide)).store (i := 15) (x := 176) (by decide)).store (i := 14) (x := 64 - 2 * s) (by show _ < 256; omega)
    have hf0 := ((hA3.setCell ⟨w.heap.size + 1, 15, none⟩ (.int .u8 ((128 : Nat) : Int)) (.inl (by simp))).setCell ⟨w.heap.size + 1, 15, none⟩ (.int .u8 ((176 : Nat) : Int)) (.inl (by simp))).setCell ⟨w.heap.size + 1, 14, none⟩ (.int .u8 ((64 - 2 * s : Nat) : Int)) (.inl (by simp))
    rw [show ((128 : Nat) : Int) = 128 from rfl] at hb0 hf0
    generalize World.setCell _ ⟨w.heap.size + 1, 14, none⟩ (.int .u8 ((64 - 2 * s : Nat) : Int)) = w4 at *
    clear c15 c14 f15 f14 hblk3
    go_loopw [5, 32] (fun v i wr => ∃ (k : Nat) (F : Nat → Nat), k ≤ 8 ∧ v = .int .u64 ((c / 256 ^ k : Nat) : Int) ∧ i = .int .i64 k ∧ Blk .u8 68 wr (w.heap.size + 1) 16 F ∧ Hid (∀ j, j < k → F j = c / 256 ^ j % 256) ∧ Hid (∀ j, k ≤ j → j < 14 → F j = 0) ∧ Hid (F 14 = 64 - 2 * s) ∧ Hid (F 15 = 176) ∧ Fr NoS w wr)
      (fun _ i _ => 8 - (intOf i).toNat)
    case atStart =>
      refine ⟨0, _, by omega, by simp, rfl, hb0, fun j hj => by omega, fun j h1 h2 => ?_, by simp [upd, Hid], by simp [upd, Hid], hf0⟩
      simp only [upd]
      rw [if_neg (by omega), if_neg (by omega)]
      rw [if_neg (by omega)]
    case round =>
      obtain ⟨k, F, hk, rfl, rfl, hF, h1, h2, h3, h4, hfr⟩ := hrel
      obtain ⟨D, hD⟩ : ∃ D : Nat, Hid (D = c / 256 ^ k) := ⟨_, Lib.hid rfl⟩
      have hDl : D < 18446744073709551616 := by rw [hD.out]; exact Nat.lt_of_le_of_lt (Nat.div_le_self _ _) hc
      rw [← hD.out]
      have ha := and255 D hDl
      rcases Nat.lt_or_ge k 8 with hlt | hge
      · have hcell := hF.cell (j := k) (by omega)
        have hfree := hF.free k
        have hst := hF.store (i := k) (x := D % 256) (by show _ < 256; omega)
        have hw : IntKind.u8.wrap ((D % 256 : Nat) : Int) = ((D % 256 : Nat) : Int) := by rw [IntKind.wrap_u8]; omega
        go_wp2
        go_roundw
        case rel =>
          refine ⟨k + 1, upd F k (D % 256), by omega, ?_, by go_num, ?_, fun j hj => ?_, fun j hj1 hj2 => ?_, ?_, ?_, ?_⟩
          · rw [Nat.pow_succ, ← Nat.div_div_eq_div_mul, ← hD.out]; exact int_eq (by omega)
          · rw [show (D : Int) % 256 = ((D % 256 : Nat) : Int) by omega]; exact hst
          · by_cases e : j = k
            · subst e; rw [upd_same, hD.out]
            · rw [upd_other _ _ _ _ e]; exact h1.out j (by omega)
          · rw [upd_other _ _ _ _ (by omega)]; exact h2.out j (by omega) hj2
          · show _ = _
            rw [upd_other _ _ _ _ (by omega)]; exact h3.out
          · show _ = _
            rw [upd_other _ _ _ _ (by omega)]; exact h4.out
          · exact hfr.setCell _ _ (.inl (by simp))
        case measure => simp [intOf]; omega
      · obtain rfl : k = 8 := by omega
        go_wp2
        go_ret
        exact ⟨w.heap.size + 1, F, rfl, ⟨fun j hj => by rw [Nat.zero_add]; exact hF.cell hj, fun j hj => hF.word j hj⟩, ⟨h1.out, h2.out, h3.out, by rw [h4.out]; rfl⟩, hfr⟩
  | false =>
    go_wp2
    simp only [E14.out, E15'.out]
    have hb0 := (hblk3.store (i := 15) (x := 48) (by decide)).store (i := 14) (x := 64 - 2 * s) (by show _ < 256; omega)
    have hf0 := (hA3.setCell ⟨w.heap.size + 1, 15, none⟩ (.int .u8 ((48 : Nat) : Int)) (.inl (by simp))).setCell ⟨w.heap.size + 1, 14, none⟩ (.int .u8 ((64 - 2 * s : Nat) : Int)) (.inl (by simp))
    generalize World.setCell _ ⟨w.heap.size + 1, 14, none⟩ (.int .u8 ((64 - 2 * s : Nat) : Int)) = w4 at *
    clear c15 c14 f15 f14 hblk3
    go_loopw [5, 32] (fun v i wr => ∃ (k : Nat) (F : Nat → Nat), k ≤ 8 ∧ v = .int .u64 ((c / 256 ^ k : Nat) : Int) ∧ i = .int .i64 k ∧ Blk .u8 68 wr (w.heap.size + 1) 16 F ∧ Hid (∀ j, j < k → F j = c / 256 ^ j % 256) ∧ Hid (∀ j, k ≤ j → j < 14 → F j = 0) ∧ Hid (F 14 = 64 - 2 * s) ∧ Hid (F 15 = 48) ∧ Fr NoS w wr)
      (fun _ i _ => 8 - (intOf i).toNat)
    case atStart =>
      refine ⟨0, _, by omega, by simp, rfl, hb0, fun j hj => by omega, fun j h1 h2 => ?_, by simp [upd, Hid], by simp [upd, Hid], hf0⟩
      simp only [upd]
      rw [if_neg (by omega), if_neg (by omega)]

    case round =>
      obtain ⟨k, F, hk, rfl, rfl, hF, h1, h2, h3, h4, hfr⟩ := hrel
      obtain ⟨D, hD⟩ : ∃ D : Nat, Hid (D = c / 256 ^ k) := ⟨_, Lib.hid rfl⟩
      have hDl : D < 18446744073709551616 := by rw [hD.out]; exact Nat.lt_of_le_of_lt (Nat.div_le_self _ _) hc
      rw [← hD.out]
      have ha := and255 D hDl
      rcases Nat.lt_or_ge k 8 with hlt | hge
      · have hcell := hF.cell (j := k) (by omega)
        have hfree := hF.free k
        have hst := hF.store (i := k) (x := D % 256) (by show _ < 256; omega)
        have hw : IntKind.u8.wrap ((D % 256 : Nat) : Int) = ((D % 256 : Nat) : Int) := by rw [IntKind.wrap_u8]; omega
        go_wp2
        go_roundw
        case rel =>
          refine ⟨k + 1, upd F k (D % 256), by omega, ?_, by go_num, ?_, fun j hj => ?_, fun j hj1 hj2 => ?_, ?_, ?_, ?_⟩
          · rw [Nat.pow_succ, ← Nat.div_div_eq_div_mul, ← hD.out]; exact int_eq (by omega)
          · rw [show (D : Int) % 256 = ((D % 256 : Nat) : Int) by omega]; exact hst
          · by_cases e : j = k
            · subst e; rw [upd_same, hD.out]
            · rw [upd_other _ _ _ _ e]; exact h1.out j (by omega)
          · rw [upd_other _ _ _ _ (by omega)]; exact h2.out j (by omega) hj2
          · show _ = _
            rw [upd_other _ _ _ _ (by omega)]; exact h3.out
          · show _ = _
            rw [upd_other _ _ _ _ (by omega)]; exact h4.out
          · exact hfr.setCell _ _ (.inl (by simp))
        case measure => simp [intOf]; omega
      · obtain rfl : k = 8 := by omega
        go_wp2
        go_ret
        exact ⟨w.heap.size + 1, F, rfl, ⟨fun j hj => by rw [Nat.zero_add]; exact hF.cell hj, fun j hj => hF.word j hj⟩, ⟨h1.out, h2.out, h3.out, by rw [h4.out]; rfl⟩, hfr⟩

theorem gv_Marshal (neg : Bool) (c s : Nat) (w : World) (hs : s ≤ 19) (hc : c < BB) :
    Calls Tryz.prog 13 #[.agg #[.bool neg, .int .i8 s, .int .u64 c]] w fun e w' =>
      ∃ (g : Nat) (B : Nat → Nat), e = .returned (.tuple #[.int .u8 19, .slice (some ⟨g, 0, none⟩) 16 16, .nilIface]) ∧ Byts w' g 0 16 B ∧ Is16 neg c s B ∧ Fr NoS w w' := by
  have C := fun u => gv_ieee neg c s u hs hc
  have HC := Lib.hid C
  clear C
  go_enter Tryz.func13, Tryz.ntmps13
  go_wp2_with fail
  refine (HC.out _).mono ?_
  rintro e w1 ⟨g, B, rfl, hR⟩
  have HR := Lib.hid hR
  clear hR
  go_wp2
  go_ret3
  obtain ⟨h1, h2, h3⟩ := HR.out
  exact ⟨g, B, rfl, h1, h2, ((Fr.refl NoS w).alloc _).trans' h3⟩
end Go.Proofs.YtkholmbfeghhpaaGreatDoor
