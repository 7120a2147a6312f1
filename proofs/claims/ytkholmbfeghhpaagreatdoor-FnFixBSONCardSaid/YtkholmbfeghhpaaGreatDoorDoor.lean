/- The fixed decimals, written as sixteen bytes and read back. Conditions: the decimal is one that can be made. -/
import Derived.Test.YtkholmbfeghhpaaGreatDoorImpl
namespace Go.Proofs.YtkholmbfeghhpaaGreatDoor
open Go.RowKit

set_option maxHeartbeats 1000000 in
theorem to_later (a b c : Nat) (w : World) :
    CallsD Tryz.prog 11 #[.pointer (some ⟨a, 0, none⟩), .pointer (some ⟨b, 0, none⟩), .pointer (some ⟨c, 0, none⟩)] .returning w fun e u' w' => e = .returned (.tuple #[]) ∧ u' = .returning ∧ w' = w := by
  refine callsD_of_wpS Tryz.func11 rfl fun c₀ cs hu => ?_
  apply wpS_seq
  apply wpS_region
  simp [wpOpsS, go_sem, recoverD, hu, Tryz.ntmps11, Exit.thenS]
  refine wpS_cond (t := false) (by simp [Act.eval, Array.replicate]) ?_
  simp only [Bool.false_eq_true, if_false]
  refine wpS_of_wp (wp_skip ?_)
  cases c₀
  simp_all [bodyPostS, results, Tryz.results11]

set_option maxHeartbeats 1000000 in
theorem from_later (a b : Nat) (w : World) :
    CallsD Tryz.prog 14 #[.pointer (some ⟨a, 0, none⟩), .pointer (some ⟨b, 0, none⟩)] .returning w fun e u' w' => e = .returned (.tuple #[]) ∧ u' = .returning ∧ w' = w := by
  refine callsD_of_wpS Tryz.func14 rfl fun c₀ cs hu => ?_
  apply wpS_seq
  apply wpS_region
  simp [wpOpsS, go_sem, recoverD, hu, Tryz.ntmps14, Exit.thenS]
  refine wpS_cond (t := false) (by simp [Act.eval, Array.replicate]) ?_
  simp only [Bool.false_eq_true, if_false]
  refine wpS_of_wp (wp_skip ?_)
  cases c₀
  simp_all [bodyPostS, results, Tryz.results14]

/-- What the one cell of a block holds. -/
theorem cells1 {w : World} {g : Nat} {a : Value} {t : TypeId} (h : w.heap[g]? = some (.cells #[a] t (0, 0))) : w.cell? ⟨g, 0, none⟩ = some a ∧ w.frozen? ⟨g, 0, none⟩ = false := by
  simp [World.cell?, World.frozen?, h]

theorem Byts.ne_one {w : World} {g p : Nat} {B : Nat → Nat} {a : Value} {t : TypeId} (hB : Byts w g 0 16 B) (h : w.heap[p]? = some (.cells #[a] t (0, 0))) : p ≠ g := by
  rintro rfl
  have h1 := hB.cell 1 (by omega)
  simp [World.cell?, h] at h1
theorem Byts.other {w : World} {g o n : Nat} {B : Nat → Nat} (hB : Byts w g o n B) {p : Addr} (v : Value) (hp : p.block ≠ g) : Byts (w.setCell p v) g o n B :=
  ⟨fun j hj => by rw [World.cell?_setCell_other _ _ _ _ (fun e => hp (congrArg Addr.block e))]; exact hB.cell j hj, hB.lt⟩
theorem old1 {w : World} {o : Obj} {g : Nat} (h : g < w.heap.size) : (w.alloc o).heap[g]? = w.heap[g]? := Below.heap_alloc _ _ _ h
theorem new1 {w : World} {o : Obj} {g : Nat} (h : g = w.heap.size) : (w.alloc o).heap[g]? = some o := by subst h; exact heap_alloc_new w o

set_option maxRecDepth 100000 in
set_option maxHeartbeats 2000000 in
theorem im_to (neg : Bool) (c s : Nat) (w : World) (hs : s ≤ 19) (hc : c < 10000000000000000000) :
    Calls Tryz.prog 5 #[.agg #[.bool neg, .int .u64 c, .int .i64 s]] w fun e w' =>
      ∃ (g : Nat) (B : Nat → Nat), e = .returned (.tuple #[.int .u8 19, .slice (some ⟨g, 0, none⟩) 16 16, .int .i64 0]) ∧ Byts w' g 0 16 B ∧ Is16 (neg && decide (0 < c)) c s B ∧ Fr NoS w w' := by
  have C := fun u => im_fixed neg c s u hs hc
  have M := fun u => gv_Marshal (neg && decide (0 < c)) c s u hs (by rw [BB_eq]; omega)
  generalize (neg && decide (0 < c)) = dd at C M ⊢
  have HC := Lib.hid C
  have HM := Lib.hid M
  clear C M
  obtain ⟨u0, hu0⟩ : ∃ u0 : World, Hid (u0 = (((w.alloc (.cells #[.bool neg, .int .u64 c, .int .i64 s] 24 (0, 0))).alloc (.cells #[.int .u8 0] 5 (0, 0))).alloc (.cells #[.slice none 0 0] 33 (0, 0))).alloc (.cells #[.int .i64 0] 3 (0, 0))) := ⟨_, Lib.hid rfl⟩
  have h1 : u0.heap[w.heap.size + 1]? = some (.cells #[.int .u8 0] 5 (0, 0)) := by rw [hu0.out, old1 (by simp), old1 (by simp), new1 (by simp)]
  have h2 : u0.heap[w.heap.size + 1 + 1]? = some (.cells #[.slice none 0 0] 33 (0, 0)) := by rw [hu0.out, old1 (by simp), new1 (by simp)]
  have h3 : u0.heap[w.heap.size + 1 + 1 + 1]? = some (.cells #[.int .i64 0] 3 (0, 0)) := by rw [hu0.out, new1 (by simp)]
  have hF0 : Fr NoS w u0 := by rw [hu0.out]; exact ((((Fr.refl NoS w).alloc _).alloc _).alloc _).alloc _
  have hmf : ∀ (fn : Fn) (first cap : Array Value) (w : World), (Instr.makeFunc fn first cap).run Tryz.prog w = .ok (.func fn first cap) w := fun _ _ _ _ => rfl
  go_enter_defers Tryz.func5, Tryz.ntmps5
  go_wp2_with fail
  rw [← hu0.out]
  refine (HC.out _).mono ?_
  rintro e w1 ⟨rfl, hf1⟩
  replace h1 := (hf1.block _ (Array.getElem?_eq_some_iff.1 h1).1 (fun x => x)).trans h1
  replace h2 := (hf1.block _ (Array.getElem?_eq_some_iff.1 h2).1 (fun x => x)).trans h2
  replace h3 := (hf1.block _ (Array.getElem?_eq_some_iff.1 h3).1 (fun x => x)).trans h3
  replace hF0 := hF0.trans' hf1
  clear hf1
  go_wp2_with fail
  have hA : Fr NoS w1 (w1.alloc (.cells #[.bool dd, .int .i8 s, .int .u64 c] 46 (0, 0))) := (Fr.refl NoS w1).alloc _
  refine (HM.out _).mono ?_
  rintro e w2 ⟨g, B, rfl, hB, hI, hf2⟩
  replace hf2 := hA.trans' hf2
  replace h1 := (hf2.block _ (Array.getElem?_eq_some_iff.1 h1).1 (fun x => x)).trans h1
  replace h2 := (hf2.block _ (Array.getElem?_eq_some_iff.1 h2).1 (fun x => x)).trans h2
  replace h3 := (hf2.block _ (Array.getElem?_eq_some_iff.1 h3).1 (fun x => x)).trans h3
  replace hF0 := hF0.trans' hf2
  clear hf2 hA
  obtain ⟨k1, f1⟩ := cells1 h1
  obtain ⟨k2, f2⟩ := cells1 h2
  obtain ⟨k3, f3⟩ := cells1 h3
  have HB := Lib.hid hB
  have HI := Lib.hid hI
  have n1 := hB.ne_one h1
  have n2 := hB.ne_one h2
  have n3 := hB.ne_one h3
  clear hB hI h1 h2 h3
  go_wp2
  refine leaves_cons (f := 11) (args := #[.pointer (some ⟨w.heap.size + 1, 0, none⟩), .pointer (some ⟨w.heap.size + 1 + 1, 0, none⟩), .pointer (some ⟨w.heap.size + 1 + 1 + 1, 0, none⟩)]) (by simp) (by simp [go_sem]) ?_
  refine (to_later _ _ _ _).mono ?_
  rintro e u' w'' ⟨rfl, rfl, rfl⟩
  have hE := ((hF0.setCell ⟨w.heap.size + 1, 0, none⟩ (.int .u8 19) (.inl (by simp))).setCell ⟨w.heap.size + 1 + 1, 0, none⟩ (.slice (some ⟨g, 0, none⟩) 16 16) (.inl (by simp; omega))).setCell ⟨w.heap.size + 1 + 1 + 1, 0, none⟩ (.int .i64 0) (.inl (by simp; omega))
  simp [Leaves, settle, results, Tryz.results5, go_sem, k1, k2, k3]
  exact ⟨B, ((HB.out.other _ n1).other _ n2).other _ n3, HI.out, hE⟩

set_option maxRecDepth 100000 in
set_option maxHeartbeats 2000000 in
theorem im_from (neg : Bool) (g c s : Nat) (B : Nat → Nat) (w : World) (hB : Byts w g 0 16 B) (hI : Is16 neg c s B) (hs : s ≤ 19) (hc : c < 10000000000000000000) (hG : Glob w) :
    Calls Tryz.prog 6 #[.int .u8 19, .slice (some ⟨g, 0, none⟩) 16 16] w fun e w' =>
      e = .returned (.tuple #[.agg #[.bool (neg && decide (0 < c)), .int .u64 c, .int .i64 s], .int .i64 0]) ∧ Fr NoS w w' := by
  obtain ⟨u0, hu0⟩ : ∃ u0 : World, Hid (u0 = ((w.alloc (.cells #[.bool false, .int .u64 0, .int .i64 0] 24 (0, 0))).alloc (.cells #[.int .i64 0] 3 (0, 0))).alloc (.cells #[.bool false, .int .i8 0, .int .u64 0] 46 (0, 0))) := ⟨_, Lib.hid rfl⟩
  have h1 : u0.heap[w.heap.size]? = some (.cells #[.bool false, .int .u64 0, .int .i64 0] 24 (0, 0)) := by rw [hu0.out, old1 (by simp; omega), old1 (by simp), new1 (by simp)]
  have h2 : u0.heap[w.heap.size + 1]? = some (.cells #[.int .i64 0] 3 (0, 0)) := by rw [hu0.out, old1 (by simp), new1 (by simp)]
  have h3 : u0.heap[w.heap.size + 1 + 1]? = some (.cells #[.bool false, .int .i8 0, .int .u64 0] 46 (0, 0)) := by rw [hu0.out, new1 (by simp)]
  have hF0 : Fr NoS w u0 := by rw [hu0.out]; exact (((Fr.refl NoS w).alloc _).alloc _).alloc _
  have U := gv_Unmarshal neg (w.heap.size + 1 + 1) g c s B _ _ _ u0 h3 (hB.fr hF0 (fun x => x)) hI hs hc (hG.fr hF0)
  have X := fun u => im_fix (neg && decide (0 < c)) c s u hs
  generalize (neg && decide (0 < c)) = dd at U X ⊢
  have HU := Lib.hid U
  have HX := Lib.hid X
  clear U X hB hI hG
  have hmf : ∀ (fn : Fn) (first cap : Array Value) (w : World), (Instr.makeFunc fn first cap).run Tryz.prog w = .ok (.func fn first cap) w := fun _ _ _ _ => rfl
  go_enter_defers Tryz.func6, Tryz.ntmps6
  go_wp2_with fail
  rw [← hu0.out]
  refine HU.out.mono ?_
  rintro e w1 ⟨rfl, hp, hf1⟩
  replace h1 := (hf1.block _ (Array.getElem?_eq_some_iff.1 h1).1 (fun x => by omega)).trans h1
  replace h2 := (hf1.block _ (Array.getElem?_eq_some_iff.1 h2).1 (fun x => by omega)).trans h2
  replace hF0 := hF0.trans hf1 (fun i hi e => by omega)
  clear hf1 h3
  obtain ⟨p0, p1, p2, _, _, _⟩ := cells3 hp
  go_wp2_with fail
  refine (HX.out _).mono ?_
  rintro e w2 ⟨rfl, hf2⟩
  replace h1 := (hf2.block _ (Array.getElem?_eq_some_iff.1 h1).1 (fun x => x)).trans h1
  replace h2 := (hf2.block _ (Array.getElem?_eq_some_iff.1 h2).1 (fun x => x)).trans h2
  replace hF0 := hF0.trans' hf2
  clear hf2 hp p0 p1 p2
  obtain ⟨k0, k1, k2, f0, f1, f2⟩ := cells3 h1
  obtain ⟨l0, m0⟩ := cells1 h2
  clear h1 h2
  go_wp2
  refine leaves_cons (f := 14) (args := #[.pointer (some ⟨w.heap.size, 0, none⟩), .pointer (some ⟨w.heap.size + 1, 0, none⟩)]) (by simp) (by simp [go_sem]) ?_
  refine (from_later _ _ _).mono ?_
  rintro e u' w'' ⟨rfl, rfl, rfl⟩
  have hE := (((hF0.setCell ⟨w.heap.size, 0, none⟩ (.bool dd) (.inl (Nat.le_refl _))).setCell ⟨w.heap.size, 1, none⟩ (.int .u64 c) (.inl (Nat.le_refl _))).setCell ⟨w.heap.size, 2, none⟩ (.int .i64 s) (.inl (Nat.le_refl _))).setCell ⟨w.heap.size + 1, 0, none⟩ (.int .i64 0) (.inl (by simp))
  simp [Leaves, settle, results, Tryz.results6, go_sem, k0, k1, k2, l0]
  exact hE
end Go.Proofs.YtkholmbfeghhpaaGreatDoor
