/- Natural numbers as rows of digits to the base 10^9: out of a word; how many decimal digits. Conditions: none but that the rows lie in memory. -/
import Derived.Test.YtkholmbfeghhpaaGreatDoorRow
import Derived.Test.YtkholmbfeghhpaaGreatDoorPrec
import Derived.BigRegion
namespace Go.Proofs.YtkholmbfeghhpaaGreatDoor
open Go.RowKit

/-- The base. -/
def B9 : Nat := 1000000000
theorem B9_eq : B9 = 1000000000 := rfl
/-- The type of the digits. -/
abbrev T32 : TypeId := 57
/-- The type of bytes. -/
abbrev TB8 : TypeId := 5
theorem info32 : (Tryz.prog.info? T32).map (fun i => (i.zero, i.size, i.bytes)) = some (some (.int .u32 0), 1, 4) := by kernel_rfl
theorem info8 : (Tryz.prog.info? 5).map (fun i => (i.zero, i.size, i.bytes)) = some (some (.int .u8 0), 1, 1) := by kernel_rfl

/-- The digits of c. -/
structure Digits9 (c n : Nat) (F : Nat → Nat) : Prop where
  dig : ∀ j, j < n → F j = c / B9 ^ j % B9
  all : c / B9 ^ n = 0
  top : n = 0 ∨ 0 < c / B9 ^ (n - 1)

set_option maxRecDepth 100000 in
set_option maxHeartbeats 1000000 in
theorem sp_NatFrom (c : Nat) (w : World) (hc : c < BB) :
    Calls Tryz.prog 9 #[.int .u64 c] w fun e w' =>
      ∃ (v : Value) (n : Nat) (F : Nat → Nat), e = .returned v ∧ Row .u32 T32 w' v n F ∧ Digits9 c n F ∧ Fr NoS w w' ∧ (∀ k, v.ownBlock = some k → w.heap.size ≤ k) := by
  rw [BB_eq] at hc
  go_enter Tryz.func9, Tryz.ntmps9
  go_wp2
  go_loopw [0, 3] (fun x v wr => ∃ (k : Nat) (F : Nat → Nat), x = .int .u64 ((c / B9 ^ k : Nat) : Int) ∧ Row .u32 T32 wr v k F ∧ Hid (∀ j, j < k → F j = c / B9 ^ j % B9) ∧ Hid (k = 0 ∨ 0 < c / B9 ^ (k - 1)) ∧ Fr NoS w wr ∧ Hid (∀ k, v.ownBlock = some k → w.heap.size ≤ k))
    (fun x _ _ => (intOf x).toNat)
  case atStart => exact ⟨0, fun _ => 0, by simp, Row.nil _ _ _ _, fun j hj => by omega, .inl rfl, Fr.refl _ _, fun k hk => by simp [Value.ownBlock] at hk⟩
  case round =>
    obtain ⟨k, F, rfl, hR, hd, ht, hfr, hown⟩ := hrel
    obtain ⟨x, hx⟩ : ∃ x : Nat, Hid (x = c / B9 ^ k) := ⟨_, Lib.hid rfl⟩
    have hxl : x < 18446744073709551616 := by rw [hx.out]; exact Nat.lt_of_le_of_lt (Nat.div_le_self _ _) hc
    rw [← hx.out]
    rcases Nat.eq_zero_or_pos x with h0 | h0
    · have hg : decide (0 < x) = false := decide_eq_false (by omega)
      go_wp2
      go_ret
      exact ⟨_, k, F, rfl, hR, ⟨hd.out, by rw [← hx.out]; exact h0, ht.out⟩, hfr, hown.out⟩
    · have hg : decide (0 < x) = true := decide_eq_true h0
      have hk : k ≤ 64 := by
        refine Nat.le_of_not_lt fun hlt => ?_
        have h1 : x = 0 := by
          rw [hx.out]
          refine Nat.div_eq_of_lt (Nat.lt_of_lt_of_le hc ?_)
          have : (2 : Nat) ^ 64 ≤ B9 ^ k := Nat.le_trans (Nat.pow_le_pow_left (by decide) 64) (Nat.pow_le_pow_right (by decide) (by omega))
          exact Nat.le_trans (by decide) this
        omega
      have q1 : IntKind.u32.wrap (((x % 1000000000 : Nat)) : Int) = ((x % 1000000000 : Nat) : Int) := by rw [IntKind.wrap_u32]; omega
      have hy : ∀ c0 : Int, c0 = ((x % 1000000000 : Nat) : Int) → (wr.alloc (.cells #[.int .u32 c0] T32 (0, 0))).cell? ⟨wr.heap.size, 0, none⟩ = some (.int .u32 ((x % 1000000000 : Nat) : Int)) := by
        rintro _ rfl
        exact cell_of_heap (heap_alloc_new wr _) rfl
      have hRa : ∀ o, Row .u32 T32 (wr.alloc o) u3 k F := fun o => hR.fr ((Fr.refl NoS wr).alloc o) (fun _ _ x => x)
      go_wp2_with (at_builtin; (refine wpList_push (K := .u32) (T := T32) rfl (.tmp 8) (.tmp 12) 26 rfl Tryz.underlying26 info32 rfl (by omega) u3 k (x % 1000000000) rfl (hRa _) ⟨wr.heap.size, 0, none⟩ 1 rfl (hy _ (by omega)) rfl (by omega) ?_; intro g c' w' hR' hf' hat'))
      go_roundw
      have hsz := hfr.size
      case rel =>
        refine ⟨k + 1, upd F k (x % 1000000000), ?_, hR', fun j hj => ?_, .inr ?_, (hfr.trans' ((Fr.refl NoS wr).alloc _)).trans hf' (fun i hi e => ?_), fun i hi => ?_⟩
        · rw [Nat.pow_succ, ← Nat.div_div_eq_div_mul, ← hx.out, B9_eq]; exact int_eq (by omega)
        · by_cases e : j = k
          · subst e; rw [upd_same, ← hx.out, B9_eq]
          · rw [upd_other _ _ _ _ e]; exact hd.out j (by omega)
        · rw [Nat.add_sub_cancel, ← hx.out]; exact h0
        · have := hown.out i e; omega
        · simp only [Value.ownBlock, Option.some.injEq] at hi
          subst hi
          rcases hat' with e | e
          · exact hown.out _ e
          · rw [World.size_alloc] at e; omega
      case measure => simp [intOf]; omega

set_option maxHeartbeats 1000000 in
theorem sp_wholeOf (neg : Bool) (v : Value) (n : Nat) (F : Nat → Nat) (w : World) (hR : Row .u32 T32 w v n F) :
    Calls Tryz.prog 8 #[.bool neg, v] w fun e w' => e = .returned (.agg #[.bool (neg && decide (0 < n)), v]) ∧ Fr NoS w w' := by
  obtain ⟨A, c, rfl⟩ : ∃ A c, v = .slice A n c := by
    rcases hR with ⟨rfl, rfl⟩ | ⟨g, c, cs, rfl, _⟩
    · exact ⟨_, _, rfl⟩
    · exact ⟨_, _, rfl⟩
  cases neg with
  | true =>
    go_enter Tryz.func8, Tryz.ntmps8
    go_wp2
    exact bodyPost_ret (v := .agg #[.bool (decide (0 < n)), .slice A n c]) (by simp [results, Tryz.results8, go_sem]) rfl ⟨by simp, (Fr.refl _ _).alloc _⟩
  | false =>
    go_enter Tryz.func8, Tryz.ntmps8
    go_wp2
    exact bodyPost_ret (v := .agg #[.bool false, .slice A n c]) (by simp [results, Tryz.results8, go_sem]) rfl ⟨by simp, (Fr.refl _ _).alloc _⟩
end Go.Proofs.YtkholmbfeghhpaaGreatDoor
