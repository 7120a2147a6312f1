/- The fixed decimals' own functions: making, reading, writing as sixteen bytes, reading back. Conditions: the decimal is one that can be made. -/
import Derived.Test.YtkholmbfeghhpaaGreatDoorUnm
import Derived.Deep.RegionHeld3
namespace Go.Proofs.YtkholmbfeghhpaaGreatDoor
open Go.RowKit

set_option maxRecDepth 100000 in
set_option maxHeartbeats 1000000 in
theorem im_fixed (neg : Bool) (c s : Nat) (w : World) (hs : s ≤ 19) (hc : c < 10000000000000000000) :
    Calls Tryz.prog 12 #[.agg #[.bool neg, .int .u64 c, .int .i64 s]] w fun e w' => e = .returned (.tuple #[.agg #[.bool (neg && decide (0 < c)), .int .i8 s, .int .u64 c], .bool true]) ∧ Fr NoS w w' := by
  have C := fun u => gv_ZzMake neg c s u hs hc
  have HC := Lib.hid C
  clear C
  generalize (neg && decide (0 < c)) = dd at *
  go_enter Tryz.func12, Tryz.ntmps12
  go_wp2_with fail
  refine (HC.out _).mono ?_
  rintro e w1 ⟨rfl, hf1⟩
  have hh := hf1.block (w.heap.size + 1) (by simp) (fun x => x)
  have hn2 := heap_alloc_new (w.alloc (.cells #[.bool neg, .int .u64 c, .int .i64 s] 24 (0, 0))) (.cells #[.bool false, .int .i8 0, .int .u64 0] 46 (0, 0))
  rw [World.size_alloc] at hn2
  rw [hn2] at hh
  have hA : Fr NoS w w1 := (((Fr.refl NoS w).alloc _).alloc _).trans' hf1
  have hl : w.heap.size + 1 < w1.heap.size := (Array.getElem?_eq_some_iff.1 hh).1
  have hh2 : (w1.alloc (.cells #[.bool dd, .int .i8 s, .int .u64 c] 46 (0, 0))).heap[w.heap.size + 1]? = _ := (Below.heap_alloc _ _ _ hl).trans hh
  have hh3 : (w1.alloc (.cells #[.bool dd, .int .i8 s, .int .u64 c] 46 (0, 0))).heap[w1.heap.size]? = _ := heap_alloc_new w1 _
  have hA2 : Fr NoS w (w1.alloc (.cells #[.bool dd, .int .i8 s, .int .u64 c] 46 (0, 0))) := hA.alloc _
  clear hf1 hn2 hh hA
  go_wp2
  have hle : w.heap.size ≤ w.heap.size + 1 := by omega
  have hneq : w.heap.size + 1 ≠ w1.heap.size := by omega
  generalize w1.alloc (.cells #[.bool dd, .int .i8 s, .int .u64 c] 46 (0, 0)) = u at *
  obtain ⟨k0, k1, k2, f0, f1, f2⟩ := cells3 hh2
  obtain ⟨l0, l1, l2, m0, m1, m2⟩ := cells3 hh3
  clear hh2 hh3
  go_region
  go_wp2
  refine bodyPost_ret (v := .tuple #[.agg #[.bool dd, .int .i8 s, .int .u64 c], .bool true]) (by simp [results, Tryz.results12, go_sem, k0, k1, k2]) rfl ⟨rfl, ?_⟩
  have hE := (((hA2.drew).setCell ⟨w.heap.size + 1, 0, none⟩ (.bool dd) (.inl hle)).setCell ⟨w.heap.size + 1, 1, none⟩ (.int .i8 s) (.inl hle)).setCell ⟨w.heap.size + 1, 2, none⟩ (.int .u64 c) (.inl hle)
  exact hE

set_option maxRecDepth 100000 in
set_option maxHeartbeats 2000000 in
theorem im_fix (dd : Bool) (c s : Nat) (w : World) (hs : s ≤ 19) :
    Calls Tryz.prog 16 #[.agg #[.bool dd, .int .i8 s, .int .u64 c]] w fun e w' => e = .returned (.agg #[.bool dd, .int .u64 c, .int .i64 s]) ∧ Fr NoS w w' := by
  have hb : ((w.alloc (.cells #[.bool dd, .int .i8 s, .int .u64 c] 46 (0, 0))).alloc (.cells #[.bool false, .int .u64 0, .int .i64 0] 24 (0, 0))).heap[w.heap.size]? = some (.cells #[.bool dd, .int .i8 s, .int .u64 c] 46 (0, 0)) := by
    rw [Below.heap_alloc _ _ _ (by simp), heap_alloc_new]
  have hr := heap_alloc_new (w.alloc (.cells #[.bool dd, .int .i8 s, .int .u64 c] 46 (0, 0))) (.cells #[.bool false, .int .u64 0, .int .i64 0] 24 (0, 0))
  rw [World.size_alloc] at hr
  have hF : Fr NoS w ((w.alloc (.cells #[.bool dd, .int .i8 s, .int .u64 c] 46 (0, 0))).alloc (.cells #[.bool false, .int .u64 0, .int .i64 0] 24 (0, 0))) := ((Fr.refl NoS w).alloc _).alloc _
  go_enter Tryz.func16, Tryz.ntmps16
  go_wp2_with fail
  generalize (w.alloc (.cells #[.bool dd, .int .i8 s, .int .u64 c] 46 (0, 0))).alloc (.cells #[.bool false, .int .u64 0, .int .i64 0] 24 (0, 0)) = u at *
  obtain ⟨k0, k1, k2, f0, f1, f2⟩ := cells3 hb
  clear f0 f1 f2
  replace hF := hF.drew
  go_region_held3 (fun w' => w'.cell? ⟨w.heap.size, 0, none⟩ = some (.bool dd) ∧ w'.cell? ⟨w.heap.size, 1, none⟩ = some (.int .i8 s) ∧ w'.cell? ⟨w.heap.size, 2, none⟩ = some (.int .u64 c)) (go_keep) (first | (go_at_call 27; (with_reducible refine (gv_IsNeg dd c s _).mono ?_); rintro e w1 ⟨rfl, hf⟩; replace hb := (hf.block w.heap.size (Array.getElem?_eq_some_iff.1 hb).1 (fun x => x)).trans hb; replace hr := (hf.block (w.heap.size + 1) (Array.getElem?_eq_some_iff.1 hr).1 (fun x => x)).trans hr; replace hF := hF.trans' hf; clear hf k0 k1 k2; obtain ⟨k0, k1, k2, f0, f1, f2⟩ := cells3 hb; clear f0 f1 f2) | (go_at_call 28; (with_reducible refine (gv_Coef dd c s _).mono ?_); rintro e w1 ⟨rfl, hf⟩; replace hb := (hf.block w.heap.size (Array.getElem?_eq_some_iff.1 hb).1 (fun x => x)).trans hb; replace hr := (hf.block (w.heap.size + 1) (Array.getElem?_eq_some_iff.1 hr).1 (fun x => x)).trans hr; replace hF := hF.trans' hf; clear hf k0 k1 k2; obtain ⟨k0, k1, k2, f0, f1, f2⟩ := cells3 hb; clear f0 f1 f2) | (go_at_call 29; (with_reducible refine (gv_Scale dd c s _ hs).mono ?_); rintro e w1 ⟨rfl, hf⟩; replace hb := (hf.block w.heap.size (Array.getElem?_eq_some_iff.1 hb).1 (fun x => x)).trans hb; replace hr := (hf.block (w.heap.size + 1) (Array.getElem?_eq_some_iff.1 hr).1 (fun x => x)).trans hr; replace hF := hF.trans' hf; clear hf k0 k1 k2; obtain ⟨k0, k1, k2, f0, f1, f2⟩ := cells3 hb; clear f0 f1 f2; obtain ⟨r0, r1, r2, g0, g1, g2⟩ := cells3 hr))
  all_goals
    have hE := ((hF.setCell ⟨w.heap.size + 1, 0, none⟩ (.bool dd) (.inl (by simp))).setCell ⟨w.heap.size + 1, 1, none⟩ (.int .u64 c) (.inl (by simp))).setCell ⟨w.heap.size + 1, 2, none⟩ (.int .i64 s) (.inl (by simp))
    clear hF hb hr
    go_wp2
    exact bodyPost_ret (v := .agg #[.bool dd, .int .u64 c, .int .i64 s]) (by simp [results, Tryz.results16, go_sem, r0, r1, r2]) rfl ⟨rfl, hE⟩
end Go.Proofs.YtkholmbfeghhpaaGreatDoor
