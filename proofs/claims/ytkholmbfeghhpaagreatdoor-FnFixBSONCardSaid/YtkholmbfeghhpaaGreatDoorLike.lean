/- A number of the specification as a fixed decimal again, and the comparison. Conditions: the number came from a fixed decimal. -/
import Derived.Test.YtkholmbfeghhpaaGreatDoorOf
import Derived.Test.YtkholmbfeghhpaaGreatDoorDoor
import Derived.Lib.EndianBits
namespace Go.Proofs.YtkholmbfeghhpaaGreatDoor
open Go.RowKit

set_option maxRecDepth 100000 in
set_option maxHeartbeats 2000000 in
theorem sp_FixOf (r : Bool) (c n s : Nat) (v : Value) (F : Nat → Nat) (w : World) (hR : Row .u32 T32 w v n F) (hD : Digits9 c n F) (hc : c < 10000000000000000000) (hs : s ≤ 19) :
    Calls Tryz.prog 17 #[.agg #[.bool r, v, .int .i64 (-(s : Int))]] w fun e w' => e = .returned (.tuple #[.agg #[.bool r, .int .u64 c, .int .i64 s], .bool true]) ∧ Fr NoS w w' := by
  obtain ⟨A, cap, rfl⟩ := hR.shape
  have hn3 := hD.few (by rw [BB_eq]; omega)
  have hA : Fr NoS w ((w.alloc (.cells #[.bool r, .slice A n cap, .int .i64 (-(s : Int))] 30 (0, 0))).alloc (.cells #[.bool false, .int .u64 0, .int .i64 0] 24 (0, 0))) := ((Fr.refl NoS w).alloc _).alloc _
  have C := sp_Digits c n (.slice A n cap) F _ (hR.fr hA (fun _ _ x => x)) hD hn3
  have HC := Lib.hid C
  have HD := Lib.hid hD
  clear C hD
  have b1 : decide ((0 : Int) < -(s : Int)) = false := decide_eq_false (by omega)
  have b2 : decide (-(s : Int) < -19) = false := decide_eq_false (by omega)
  go_enter Tryz.func17, Tryz.ntmps17
  go_wp2_with fail
  refine HC.out.mono ?_
  rintro e w1 ⟨d, rfl, hd, hf⟩
  have e1 : decide ((19 : Int) < d) = false := decide_eq_false (by have := hd.le19.2 hc; omega)
  have e2 : decide (19 < d) = false := decide_eq_false (by have := hd.le19.2 hc; omega)
  have hb := hf.block w.heap.size (by simp; omega) (fun x => x)
  rw [old1 (by simp), heap_alloc_new] at hb
  have hr := hf.block (w.heap.size + 1) (by simp) (fun x => x)
  rw [new1 (by simp)] at hr
  have hR1 := (hR.fr hA (fun _ _ x => x)).fr hf (fun _ _ x => x)
  have hA1 := hA.trans' hf
  obtain ⟨k0, k1, k2, _, _, _⟩ := cells3 hb
  obtain ⟨z0, z1, z2, g0, g1, g2⟩ := cells3 hr
  clear hf hb hr hA hd HC hR
  go_wp2
  go_loop [4, 5] (fun x y => ∃ k : Nat, k ≤ n ∧ x = .int .u64 ((c / B9 ^ k : Nat) : Int) ∧ y = .int .i64 ((k : Int) - 1))
    (fun _ y => (intOf y + 1).toNat)
  case atStart => exact ⟨n, Nat.le_refl _, by rw [HD.out.all]; rfl, rfl⟩
  case round =>
    obtain ⟨k, hk, rfl, rfl⟩ := hrel
    obtain ⟨x, hx⟩ : ∃ x : Nat, Hid (x = c / B9 ^ k) := ⟨_, Lib.hid rfl⟩
    rw [← hx.out]
    rcases Nat.eq_zero_or_pos k with h0 | h0
    · subst h0
      have hxc : x = c := by rw [hx.out]; simp
      subst hxc
      have d1 : decide ((0 : Int) ≤ ((0 : Nat) : Int) - 1) = false := by simp
      go_wp2
      refine bodyPost_ret (v := .tuple #[.agg #[.bool r, .int .u64 x, .int .i64 s], .bool true]) (by simp [results, Tryz.results17, go_sem, z0, z1, z2]) rfl ⟨rfl, ?_⟩
      have hE := ((hA1.setCell ⟨w.heap.size + 1, 0, none⟩ (.bool r) (.inl (by simp))).setCell ⟨w.heap.size + 1, 1, none⟩ (.int .u64 x) (.inl (by simp))).setCell ⟨w.heap.size + 1, 2, none⟩ (.int .i64 s) (.inl (by simp))
      exact hE
    · obtain ⟨m, rfl⟩ : ∃ m, k = m + 1 := ⟨k - 1, by omega⟩
      rcases hR1 with ⟨_, e⟩ | ⟨g, c', cs, e, hr⟩
      · omega
      have hR2 : Row .u32 T32 w1 (.slice A n cap) n F := .inr ⟨g, c', cs, e, hr⟩
      simp only [Value.slice.injEq, true_and] at e
      obtain ⟨rfl, rfl⟩ := e
      have hcell := hR2.cell (j := m) (by omega)
      rw [Nat.zero_add] at hcell
      obtain ⟨f, hfm⟩ : ∃ f : Nat, Hid (f = F m) := ⟨_, Lib.hid rfl⟩
      rw [← hfm.out] at hcell
      have hstep : x * 1000000000 + f = c / B9 ^ m := by
        rw [hx.out, hfm.out, HD.out.dig m (by omega), Nat.pow_succ, ← Nat.div_div_eq_div_mul, B9_eq]
        omega
      have hle : c / B9 ^ m ≤ c := Nat.div_le_self _ _
      have hm : (((m + 1 : Nat) : Int) - 1) = m := by omega
      rw [hm]
      have hlt : m < n := by omega
      have d1 : decide ((0 : Int) ≤ m) = true := by simp
      have hfl : f < 1000000000 := by rw [hfm.out, HD.out.dig m (by omega), B9_eq]; exact Nat.mod_lt _ (by omega)
      have hST := Lib.hid hstep
      have q1 : IntKind.u64.wrap ((x : Int) * 1000000000) = x * 1000000000 := u64_wrap_id _ (by omega) (by omega)
      have q2 : IntKind.u64.wrap ((x : Int) * 1000000000 + f) = x * 1000000000 + f := u64_wrap_id _ (by omega) (by omega)
      clear hstep hle hm
      go_wp2
      go_round
      case rel => exact ⟨m, by omega, int_eq (by rw [← hST.out]; omega), by go_num⟩
      case measure => simp [intOf]

set_option maxHeartbeats 1000000 in
theorem sp_FixLike (r : Bool) (c n s : Nat) (v : Value) (F : Nat → Nat) (w : World) (hR : Row .u32 T32 w v n F) (hD : Digits9 c n F) (hc : c < 10000000000000000000) (hs : s ≤ 19) :
    Calls Tryz.prog 7 #[.agg #[.bool r, .int .u64 c, .int .i64 s], .agg #[.bool r, v, .int .i64 (-(s : Int))]] w fun e w' => e = .returned (.bool true) ∧ Fr NoS w w' := by
  obtain ⟨A, cap, rfl⟩ := hR.shape
  have hA : Fr NoS w ((w.alloc (.cells #[.bool r, .int .u64 c, .int .i64 s] 24 (0, 0))).alloc (.cells #[.bool r, .slice A n cap, .int .i64 (-(s : Int))] 30 (0, 0))) := ((Fr.refl NoS w).alloc _).alloc _
  have C := sp_FixOf r c n s (.slice A n cap) F _ (hR.fr hA (fun _ _ x => x)) hD hc hs
  have HC := Lib.hid C
  clear C hD hR
  go_enter Tryz.func7, Tryz.ntmps7
  go_wp2_with fail
  refine HC.out.mono ?_
  rintro e w1 ⟨rfl, hf⟩
  have hb := hf.block w.heap.size (by simp; omega) (fun x => x)
  rw [old1 (by simp), heap_alloc_new] at hb
  obtain ⟨k0, k1, k2, _, _, _⟩ := cells3 hb
  have hl := (Array.getElem?_eq_some_iff.1 hb).1
  have hA1 := hA.trans' hf
  have hne : w.heap.size ≠ w1.heap.size := by omega
  have hb2 : (w1.alloc (.cells #[.bool r, .int .u64 c, .int .i64 s] 24 (0, 0))).heap[w.heap.size]? = _ := (old1 hl).trans hb
  obtain ⟨j0, j1, j2, _, _, _⟩ := cells3 hb2
  clear hb hb2 HC hA hf
  go_wp2
  go_ret
  exact ⟨rfl, hA1.alloc _⟩
end Go.Proofs.YtkholmbfeghhpaaGreatDoor
