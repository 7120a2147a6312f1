/- A fixed decimal as a number of the specification. Conditions: none. -/
import Derived.Test.YtkholmbfeghhpaaGreatDoorStr
import Derived.Test.YtkholmbfeghhpaaGreatDoorImpl
namespace Go.Proofs.YtkholmbfeghhpaaGreatDoor
open Go.RowKit

theorem Digits9.few {c n : Nat} {F : Nat → Nat} (h : Digits9 c n F) (hc : c < BB) : n ≤ 3 := by
  rcases h.top with h0 | h0
  · omega
  · refine Nat.le_of_not_lt fun hlt => ?_
    have h1 : B9 ^ 3 ≤ B9 ^ (n - 1) := Nat.pow_le_pow_right (by decide) (by omega)
    have h2 : c < B9 ^ 3 := Nat.lt_trans hc (by decide)
    rw [Nat.div_eq_of_lt (Nat.lt_of_lt_of_le h2 h1)] at h0
    omega
theorem Row.shape {K : IntKind} {T : TypeId} {w : World} {v : Value} {n : Nat} {F : Nat → Nat} (h : Row K T w v n F) : ∃ A c, v = .slice A n c := by
  rcases h with ⟨rfl, rfl⟩ | ⟨g, c, cs, rfl, _⟩
  · exact ⟨_, _, rfl⟩
  · exact ⟨_, _, rfl⟩

set_option maxHeartbeats 1000000 in
theorem sp_Digits (c n : Nat) (v : Value) (F : Nat → Nat) (w : World) (hR : Row .u32 T32 w v n F) (hD : Digits9 c n F) (hn : n ≤ 3) :
    Calls Tryz.prog 10 #[v] w fun e w' => ∃ d : Nat, e = .returned (.int .i64 d) ∧ Digs c d ∧ Fr NoS w w' := by
  rcases Nat.eq_zero_or_pos n with h0 | h0
  · subst h0
    obtain ⟨A, cap, rfl⟩ := hR.shape
    have hb : (((0 : Nat) : Int) == 0) = true := by simp
    have hc : c = 0 := by have := hD.all; simpa using this
    clear hR hD
    go_enter Tryz.func10, Tryz.ntmps10
    go_wp2
    go_ret
    exact ⟨0, by simp, ⟨by rw [hc]; decide, .inl rfl⟩, Fr.refl _ _⟩
  · obtain ⟨m, hm⟩ : ∃ m, n = m + 1 := ⟨n - 1, by omega⟩
    rcases hR with ⟨_, e⟩ | ⟨g, cap, cs, rfl, hr⟩
    · omega
    have C := sp_String g m n cap c F w hm (.inr ⟨g, cap, cs, rfl, hr⟩) (hm ▸ hD) (by omega)
    have HC := Lib.hid C
    have hb : ((n : Int) == 0) = false := by simp; omega
    clear C hr hD hm
    go_enter Tryz.func10, Tryz.ntmps10
    go_wp2_with fail
    refine HC.out.mono ?_
    rintro e w1 ⟨s, rfl, hs, hf⟩
    go_wp2
    go_ret
    exact ⟨_, rfl, hs, hf⟩

theorem World.lt_alloc (w : World) (o : Obj) : w.heap.size < (w.alloc o).heap.size := by simp
/-- What the two cells of a block hold. -/
theorem cells2 {w : World} {g : Nat} {a b : Value} {t : TypeId} (h : w.heap[g]? = some (.cells #[a, b] t (0, 0))) :
    w.cell? ⟨g, 0, none⟩ = some a ∧ w.cell? ⟨g, 1, none⟩ = some b ∧ w.frozen? ⟨g, 0, none⟩ = false ∧ w.frozen? ⟨g, 1, none⟩ = false := by
  simp [World.cell?, World.frozen?, h]

theorem Row.ne_block {K : IntKind} {T t : TypeId} {w : World} {v : Value} {n q : Nat} {F : Nat → Nat} {c : Array Value} {fr : Nat × Nat} (h : Row K T w v n F) (hq : w.heap[q]? = some (.cells c t fr)) (ht : t ≠ T) : v.ownBlock ≠ some q := by
  rcases h with ⟨rfl, _⟩ | ⟨g, c', cs, rfl, _, _, hc, _⟩
  · simp [Value.ownBlock]
  · intro e
    simp [Value.ownBlock] at e
    subst e
    rw [hq] at hc
    injection hc with hc
    injection hc with _ hc
    exact ht hc
theorem Digs.le19 {c d : Nat} (h : Digs c d) : d ≤ 19 ↔ c < 10000000000000000000 := by
  constructor
  · intro hd
    exact Nat.lt_of_lt_of_le h.1 (Nat.le_trans (Nat.pow_le_pow_right (by omega) hd) (by decide))
  · intro hc
    exact h.le (k := 19) hc

set_option maxRecDepth 100000 in
set_option maxHeartbeats 4000000 in
theorem sp_OfFix (neg : Bool) (c : Nat) (s : Int) (w : World) (hc : c < BB) (_hs : -9223372036854775808 ≤ s ∧ s ≤ 9223372036854775807) :
    Calls Tryz.prog 4 #[.agg #[.bool neg, .int .u64 c, .int .i64 s]] w fun e w' =>
      ∃ (v : Value) (n : Nat) (F : Nat → Nat), e = .returned (.tuple #[.agg #[.bool (neg && decide (0 < n)), v, .int .i64 (IntKind.i64.wrap (-s))], .bool (decide (c < 10000000000000000000) && decide (0 ≤ s) && decide (s ≤ 19))]) ∧ Row .u32 T32 w' v n F ∧ Digits9 c n F ∧ Fr NoS w w' := by
  obtain ⟨u0, hu0⟩ : ∃ u0 : World, Hid (u0 = (w.alloc (.cells #[.bool neg, .int .u64 c, .int .i64 s] 24 (0, 0))).alloc (.cells #[.bool false, .slice none 0 0, .int .i64 0] 30 (0, 0))) := ⟨_, Lib.hid rfl⟩
  have hb : u0.heap[w.heap.size]? = some (.cells #[.bool neg, .int .u64 c, .int .i64 s] 24 (0, 0)) := by rw [hu0.out, Below.heap_alloc _ _ _ (by simp), heap_alloc_new]
  have hr : u0.heap[w.heap.size + 1]? = some (.cells #[.bool false, .slice none 0 0, .int .i64 0] 30 (0, 0)) := by
    have := heap_alloc_new (w.alloc (.cells #[.bool neg, .int .u64 c, .int .i64 s] 24 (0, 0))) (.cells #[.bool false, .slice none 0 0, .int .i64 0] 30 (0, 0))
    rw [World.size_alloc] at this
    rw [hu0.out]; exact this
  have hF : Fr NoS w u0 := by rw [hu0.out]; exact ((Fr.refl NoS w).alloc _).alloc _
  go_enter Tryz.func4, Tryz.ntmps4
  go_wp2_with fail
  rw [← hu0.out]
  obtain ⟨k0, k1, k2, f0, f1, f2⟩ := cells3 hb
  clear f0 f1 f2
  have hbl : w.heap.size < u0.heap.size := (Array.getElem?_eq_some_iff.1 hb).1
  have m0 : w.heap.size ≠ u0.heap.size := by omega
  have m0' : u0.heap.size ≠ w.heap.size := by omega
  have hF0 : Fr NoS u0 u0.drew := (Fr.refl NoS u0).drew
  go_region_held3 (fun w' => w'.cell? ⟨w.heap.size, 0, none⟩ = some (.bool neg) ∧ w'.cell? ⟨w.heap.size, 1, none⟩ = some (.int .u64 c) ∧ w'.cell? ⟨w.heap.size, 2, none⟩ = some (.int .i64 s)) (go_keep) (first | (go_at_call 9; (with_reducible refine (sp_NatFrom c _ hc).mono ?_); rintro e w1 ⟨v, n, F, rfl, hR, hD, hf, hown⟩; have hF1 : Fr NoS u0 w1 := (by first | exact hF0.trans' hf | exact (((Fr.refl NoS u0).alloc _).drew).trans' hf); (try (have hq : w1.heap[u0.heap.size]? = some (.cells #[.bool false, .slice none 0 0] 28 (0, 0)) := (hf.block u0.heap.size (World.lt_alloc u0 _) (fun x => x)).trans (heap_alloc_new u0 _))); have j0a := (hF1.cell (p := ⟨w.heap.size, 0, none⟩) hbl (fun x => x)).trans k0; have j1a := (hF1.cell (p := ⟨w.heap.size, 1, none⟩) hbl (fun x => x)).trans k1; have j2a := (hF1.cell (p := ⟨w.heap.size, 2, none⟩) hbl (fun x => x)).trans k2; obtain ⟨A, cv, rfl⟩ := hR.shape; have n1 := hF1.size; have m1 : w.heap.size ≠ w1.heap.size := (by omega); have m1' : w1.heap.size ≠ w.heap.size := (by omega); clear hf) | (go_at_call 8; ((with_reducible refine (sp_wholeOf neg _ n F _ ?_).mono ?_); (first | exact hR | exact hR.fr ((Fr.refl NoS _).alloc _) (fun _ _ x => x)); rintro e w2 ⟨rfl, hf⟩; have hF2 : Fr NoS u0 w2 := (by first | exact hF1.trans' hf | exact (hF1.alloc _).trans' hf); have hR2 : Row .u32 T32 w2 (.slice A n cv) n F := (by first | exact hR.fr hf (fun _ _ x => x) | exact hR.fr (((Fr.refl NoS _).alloc _).trans' hf) (fun _ _ x => x)); (try (have hq2 : w2.heap[w1.heap.size]? = some (.cells #[.bool false, .slice none 0 0] 28 (0, 0)) := (hf.block w1.heap.size (World.lt_alloc w1 _) (fun x => x)).trans (heap_alloc_new w1 _); obtain ⟨q0, q1, r0, r1⟩ := cells2 hq2)); (try (have hq2 : w2.heap[u0.heap.size]? = some (.cells #[.bool false, .slice none 0 0] 28 (0, 0)) := (hf.block u0.heap.size (Array.getElem?_eq_some_iff.1 hq).1 (fun x => x)).trans hq; obtain ⟨q0, q1, r0, r1⟩ := cells2 hq2)); have n2 := hF2.size; have m2 : w.heap.size ≠ w2.heap.size := (by omega); have m2' : w2.heap.size ≠ w.heap.size := (by omega); have j0b := (hF2.cell (p := ⟨w.heap.size, 0, none⟩) hbl (fun x => x)).trans k0; have j1b := (hF2.cell (p := ⟨w.heap.size, 1, none⟩) hbl (fun x => x)).trans k1; have j2b := (hF2.cell (p := ⟨w.heap.size, 2, none⟩) hbl (fun x => x)).trans k2; clear hf)))
  · have hUq := heap_alloc_new w2 (.cells #[.bool (neg && decide (0 < n)), .slice A n cv] 28 (0, 0))
    have hUF0 : Fr NoS u0 (w2.alloc (.cells #[.bool (neg && decide (0 < n)), .slice A n cv] 28 (0, 0))) := hF2.alloc _
    have hUR := hR2.fr ((Fr.refl NoS w2).alloc (.cells #[.bool (neg && decide (0 < n)), .slice A n cv] 28 (0, 0))) (fun _ _ x => x)
    obtain ⟨q, hqe⟩ : ∃ q, w2.heap.size = q := ⟨_, rfl⟩
    rw [hqe] at hUq ⊢
    have hge : u0.heap.size ≤ q := hqe ▸ hF2.size
    clear hqe
    generalize w2.alloc (.cells #[.bool (neg && decide (0 < n)), .slice A n cv] 28 (0, 0)) = U at *
    have hUb := (hUF0.block w.heap.size hbl (fun x => x)).trans hb
    have hres := (hUF0.block (w.heap.size + 1) (Array.getElem?_eq_some_iff.1 hr).1 (fun x => x)).trans hr
    have hUF := hF.trans' hUF0
    have hbU : w.heap.size < U.heap.size := (Array.getElem?_eq_some_iff.1 hUb).1
    have hlres : w.heap.size + 1 < U.heap.size := (Array.getElem?_eq_some_iff.1 hres).1
    have hqU : q < U.heap.size := (Array.getElem?_eq_some_iff.1 hUq).1
    have hn3 := hD.few hc
    have hDG := Lib.hid hD
    obtain ⟨sc, hsc⟩ : ∃ sc, Hid (IntKind.i64.wrap (-s) = sc) := ⟨_, Lib.hid rfl⟩
    have hscw := hsc.out
    have p1 : w.heap.size ≠ q := by omega
    have p2 : q ≠ w.heap.size := by omega
    have p3 : q ≠ w.heap.size + 1 := by have := (Array.getElem?_eq_some_iff.1 hr).1; omega
    have p4 : w.heap.size + 1 ≠ q := p3.symm
    obtain ⟨r, hre⟩ : ∃ r, Hid ((neg && decide (0 < n)) = r) := ⟨_, Lib.hid rfl⟩
    rw [hre.out] at hUq ⊢
    obtain ⟨x0, x1, x2, _, _, _⟩ := cells3 hUb
    obtain ⟨x3, x4, _, _⟩ := cells2 hUq
    clear hF0 hF1 hF2 hUF0 hR hR2 hr hb hD hUb hUq k0 k1 k2 j0a j1a j2a j0b j1b j2b m0 m0' m1 m1' m2 m2' n1 n2 _hs
    go_wp2
    by_cases hc19 : c < 10000000000000000000
    · by_cases hs0 : 0 ≤ s
      · by_cases hs19 : s ≤ 19
        · have e2 : decide (0 ≤ s) = true := decide_eq_true hs0
          have e3 : decide (s ≤ 19) = true := decide_eq_true hs19
          have hres0 := Lib.hid (show (decide (c < 10000000000000000000) && decide (0 ≤ s) && decide (s ≤ 19)) = true by simp [hc19, hs0, hs19])
          clear hs0 hs19
          refine wp_region_held_drew (S := (fun w' => w'.cell? ⟨w.heap.size, 0, none⟩ = some (.bool neg) ∧ w'.cell? ⟨w.heap.size, 1, none⟩ = some (.int .u64 c) ∧ w'.cell? ⟨w.heap.size, 2, none⟩ = some (.int .i64 s) ∧ w'.cell? ⟨q, 0, none⟩ = some (.bool r) ∧ w'.cell? ⟨q, 1, none⟩ = some (.slice A n cv))) (by kernel_rfl) ⟨x0, x1, x2, x3, x4⟩ (fun hHeld => ?_)
          refine wpAnyH_take (i := 0) (v := ?_) rfl (by kernel_rfl) (by kernel_rfl) (by kernel_rfl) (fun _ _ _ h => h) (Or.inl ⟨by rfl, ?_⟩) (by assumption) ?_
          rotate_left
          · (intro w' hS'; go_simp; try with_reducible rfl)
          try simp only [Act.put, List.setIfInBounds_toArray, List.set_cons_zero, List.set_cons_succ, List.getElem_toArray, List.getElem_cons_zero]
          refine wpAnyH_take (i := 1) (v := ?_) rfl (by kernel_rfl) (by kernel_rfl) (by kernel_rfl) (fun _ _ _ h => h) (Or.inl ⟨by rfl, ?_⟩) (by assumption) ?_
          rotate_left
          · (intro w' hS'; go_simp; try with_reducible rfl)
          try simp only [Act.put, List.setIfInBounds_toArray, List.set_cons_zero, List.set_cons_succ, List.getElem_toArray, List.getElem_cons_zero, List.getElem_cons_succ]
          refine wpAnyH_take (i := 2) (v := ?_) rfl (by kernel_rfl) (by kernel_rfl) (by kernel_rfl) (fun _ _ _ h => h) (Or.inl ⟨by rfl, ?_⟩) (by assumption) ?_
          rotate_left
          · (intro w' hS'; go_simp; try with_reducible rfl)
          try simp only [Act.put, List.setIfInBounds_toArray, List.set_cons_zero, List.set_cons_succ, List.getElem_toArray, List.getElem_cons_zero, List.getElem_cons_succ]
          refine wpAnyH_take (i := 3) (v := ?_) rfl (by kernel_rfl) (by kernel_rfl) (by kernel_rfl) (fun _ _ _ h => h) (Or.inl ⟨by rfl, ?_⟩) (by assumption) ?_
          rotate_left
          · (intro w' hS'; go_simp; try with_reducible rfl)
          try simp only [Act.put, List.setIfInBounds_toArray, List.set_cons_zero, List.set_cons_succ, List.getElem_toArray, List.getElem_cons_zero, List.getElem_cons_succ]
          refine wpAnyH_take (i := 4) (v := ?_) rfl (by kernel_rfl) (by kernel_rfl) (by kernel_rfl) (fun _ _ _ h => h) (Or.inl ⟨by rfl, ?_⟩) (by assumption) ?_
          rotate_left
          · (intro w' hS'; go_simp; try with_reducible rfl)
          try simp only [Act.put, List.setIfInBounds_toArray, List.set_cons_zero, List.set_cons_succ, List.getElem_toArray, List.getElem_cons_zero, List.getElem_cons_succ]
          refine wpAnyH_take (i := 5) (v := ?_) rfl (by kernel_rfl) (by kernel_rfl) (by kernel_rfl) (fun _ _ _ h => h) (Or.inl ⟨by rfl, ?_⟩) (by assumption) ?_
          rotate_left
          · (intro w' hS'; go_simp; try with_reducible rfl)
          try simp only [Act.put, List.setIfInBounds_toArray, List.set_cons_zero, List.set_cons_succ, List.getElem_toArray, List.getElem_cons_zero, List.getElem_cons_succ]
          refine wpAnyH_take (i := 6) (v := ?_) rfl (by kernel_rfl) (by kernel_rfl) (by kernel_rfl) (fun _ _ _ h => h) (Or.inl ⟨by rfl, ?_⟩) (by assumption) ?_
          rotate_left
          · (intro w' hS'; go_simp; try with_reducible rfl)
          try simp only [Act.put, List.setIfInBounds_toArray, List.set_cons_zero, List.set_cons_succ, List.getElem_toArray, List.getElem_cons_zero, List.getElem_cons_succ]
          refine wpAnyH_ready (rs := [7]) (by kernel_rfl) (by simp) ?_
          refine AllReadyH.cons rfl (fun K hK => ?_) AllReadyH.nil
          go_simp
          refine (sp_Digits c n _ F U.drew (hUR.of_eq fun _ _ => rfl) hDG.out hn3).mono ?_
          rintro e w3 ⟨d, rfl, hd, hf⟩
          have hF3 : Fr NoS U w3 := (((Fr.refl NoS U).drew).trans' hf)
          have y0 := (hF3.cell (p := ⟨w.heap.size, 0, none⟩) hbU (fun x => x)).trans x0
          have y1 := (hF3.cell (p := ⟨w.heap.size, 1, none⟩) hbU (fun x => x)).trans x1
          have y2 := (hF3.cell (p := ⟨w.heap.size, 2, none⟩) hbU (fun x => x)).trans x2
          have y3 := (hF3.cell (p := ⟨q, 0, none⟩) hqU (fun x => x)).trans x3
          have y4 := (hF3.cell (p := ⟨q, 1, none⟩) hqU (fun x => x)).trans x4
          have e1 : decide (d ≤ 19) = true := decide_eq_true (hd.le19.2 hc19)
          have e1z : decide ((d : Int) ≤ 19) = true := decide_eq_true (Int.ofNat_le.2 (hd.le19.2 hc19))
          have hres3 := (hf.block (w.heap.size + 1) hlres (fun x => x)).trans hres
          obtain ⟨z0, z1, z2, g0, g1, g2⟩ := cells3 hres3
          have hR3 := hUR.fr hF3 (fun _ _ x => x)
          have hF4 := hUF.trans' hF3
          refine hK.out _ _ ⟨y0, y1, y2, y3, y4⟩ (fun hHeld2 => ?_)
          clear hK K hf hres3
          try simp only [Act.put, List.setIfInBounds_toArray, List.set_cons_zero, List.set_cons_succ, List.getElem_toArray, List.getElem_cons_zero, List.getElem_cons_succ]
          refine wpAnyH_take (i := 8) (v := ?_) rfl (by kernel_rfl) (by kernel_rfl) (by kernel_rfl) (fun _ _ _ h => h) (Or.inl ⟨by rfl, ?_⟩) (by assumption) ?_
          rotate_left
          · (intro w' hS'; go_simp; try with_reducible rfl)
          try simp only [Act.put, List.setIfInBounds_toArray, List.set_cons_zero, List.set_cons_succ, List.getElem_toArray, List.getElem_cons_zero, List.getElem_cons_succ]
          refine wpAnyH_take (i := 9) (v := ?_) rfl (by kernel_rfl) (by kernel_rfl) (by kernel_rfl) (fun _ _ _ h => h) (Or.inl ⟨by rfl, ?_⟩) (by assumption) ?_
          rotate_left
          · (intro w' hS'; go_simp; try with_reducible rfl)
          try simp only [Act.put, List.setIfInBounds_toArray, List.set_cons_zero, List.set_cons_succ, List.getElem_toArray, List.getElem_cons_zero, List.getElem_cons_succ]
          refine wpAnyH_take (i := 10) (v := ?_) rfl (by kernel_rfl) (by kernel_rfl) (by kernel_rfl) (fun _ _ _ h => h) (Or.inl ⟨by rfl, ?_⟩) (by assumption) ?_
          rotate_left
          · (intro w' hS'; go_simp; try with_reducible rfl)
          try simp only [Act.put, List.setIfInBounds_toArray, List.set_cons_zero, List.set_cons_succ, List.getElem_toArray, List.getElem_cons_zero, List.getElem_cons_succ]
          refine wpAnyH_take (i := 11) (v := ?_) rfl (by kernel_rfl) (by kernel_rfl) (by kernel_rfl) (fun _ _ _ h => h) (Or.inl ⟨by rfl, ?_⟩) (by assumption) ?_
          rotate_left
          · (intro w' hS'; go_simp; try with_reducible rfl)
          try simp only [Act.put, List.setIfInBounds_toArray, List.set_cons_zero, List.set_cons_succ, List.getElem_toArray, List.getElem_cons_zero, List.getElem_cons_succ]
          refine wpAnyH_take (i := 12) (v := ?_) rfl (by kernel_rfl) (by kernel_rfl) (by kernel_rfl) (fun _ _ _ h => h) (Or.inl ⟨by rfl, ?_⟩) (by assumption) ?_
          rotate_left
          · (intro w' hS'; go_simp; try with_reducible rfl)
          try simp only [Act.put, List.setIfInBounds_toArray, List.set_cons_zero, List.set_cons_succ, List.getElem_toArray, List.getElem_cons_zero, List.getElem_cons_succ]
          refine wpAnyH_take (i := 13) (v := ?_) rfl (by kernel_rfl) (by kernel_rfl) (by kernel_rfl) (fun _ _ _ h => h) (Or.inl ⟨by rfl, ?_⟩) (by assumption) ?_
          rotate_left
          · (intro w' hS'; go_simp; try with_reducible rfl)
          try simp only [Act.put, List.setIfInBounds_toArray, List.set_cons_zero, List.set_cons_succ, List.getElem_toArray, List.getElem_cons_zero, List.getElem_cons_succ]
          refine wpAnyH_take (i := 14) (v := ?_) rfl (by kernel_rfl) (by kernel_rfl) (by kernel_rfl) (fun _ _ _ h => h) (Or.inl ⟨by rfl, ?_⟩) (by assumption) ?_
          rotate_left
          · (intro w' hS'; go_simp; try with_reducible rfl)
          try simp only [Act.put, List.setIfInBounds_toArray, List.set_cons_zero, List.set_cons_succ, List.getElem_toArray, List.getElem_cons_zero, List.getElem_cons_succ]
          refine wpAnyH_take (i := 15) (v := ?_) rfl (by kernel_rfl) (by kernel_rfl) (by kernel_rfl) (fun _ _ _ h => h) (Or.inl ⟨by rfl, ?_⟩) (by assumption) ?_
          rotate_left
          · (intro w' hS'; go_simp; try with_reducible rfl)
          try simp only [Act.put, List.setIfInBounds_toArray, List.set_cons_zero, List.set_cons_succ, List.getElem_toArray, List.getElem_cons_zero, List.getElem_cons_succ]
          refine wpAnyH_take (i := 16) (v := ?_) rfl (by kernel_rfl) (by kernel_rfl) (by kernel_rfl) (fun _ _ _ h => h) (Or.inl ⟨by rfl, ?_⟩) (by assumption) ?_
          rotate_left
          · (intro w' hS'; go_simp; try with_reducible rfl)
          try simp only [Act.put, List.setIfInBounds_toArray, List.set_cons_zero, List.set_cons_succ, List.getElem_toArray, List.getElem_cons_zero, List.getElem_cons_succ]
          refine wpAnyH_take (i := 17) (v := ?_) rfl (by kernel_rfl) (by kernel_rfl) (by kernel_rfl) (fun _ _ _ h => h) (Or.inl ⟨by rfl, ?_⟩) (by assumption) ?_
          rotate_left
          · (intro w' hS'; go_simp; try with_reducible rfl)
          try simp only [Act.put, List.setIfInBounds_toArray, List.set_cons_zero, List.set_cons_succ, List.getElem_toArray, List.getElem_cons_zero, List.getElem_cons_succ]
          refine wpAnyH_take (i := 18) (v := ?_) rfl (by kernel_rfl) (by kernel_rfl) (by kernel_rfl) (fun _ _ _ h => h) (Or.inl ⟨by rfl, ?_⟩) (by assumption) ?_
          rotate_left
          · (intro w' hS'; go_simp; try with_reducible rfl)
          try simp only [Act.put, List.setIfInBounds_toArray, List.set_cons_zero, List.set_cons_succ, List.getElem_toArray, List.getElem_cons_zero, List.getElem_cons_succ]
          refine wpAnyH_ready (rs := [19]) (by kernel_rfl) (by simp) ?_
          refine AllReadyH.cons rfl (fun K hK => ?_) AllReadyH.nil
          go_simp
          refine hK.out _ _ (by go_keep) (fun hHeld3 => ?_)
          clear hK K
          try simp only [Act.put, List.setIfInBounds_toArray, List.set_cons_zero, List.set_cons_succ, List.getElem_toArray, List.getElem_cons_zero, List.getElem_cons_succ]
          refine wpAnyH_take (i := 20) (v := ?_) rfl (by kernel_rfl) (by kernel_rfl) (by kernel_rfl) (fun _ _ _ h => h) (Or.inl ⟨by rfl, ?_⟩) (by assumption) ?_
          rotate_left
          · (intro w' hS'; go_simp; try with_reducible rfl)
          try simp only [Act.put, List.setIfInBounds_toArray, List.set_cons_zero, List.set_cons_succ, List.getElem_toArray, List.getElem_cons_zero, List.getElem_cons_succ]
          refine wpAnyH_done (by kernel_rfl) ?_ _
          have hE := ((hF4.setCell ⟨w.heap.size + 1, 0, none⟩ (.bool r) (.inl (by simp))).setCell ⟨w.heap.size + 1, 1, none⟩ (.slice A n cv) (.inl (by simp))).setCell ⟨w.heap.size + 1, 2, none⟩ (.int .i64 sc) (.inl (by simp))
          have hne := hR3.ne_block ((hF3.block (w.heap.size + 1) hlres (fun x => x)).trans hres) (by decide)
          have hS : Fr (· = w.heap.size + 1) w3 (((w3.setCell ⟨w.heap.size + 1, 0, none⟩ (.bool r)).setCell ⟨w.heap.size + 1, 1, none⟩ (.slice A n cv)).setCell ⟨w.heap.size + 1, 2, none⟩ (.int .i64 sc)) := ((Fr.set _ _ _ _).trans' (Fr.set _ _ _ _)).trans' (Fr.set _ _ _ _)
          have hR4 := hR3.fr hS (fun k hk e => hne (by rw [hk, e]))
          clear hF4 hS hne hR3 hHeld hHeld2 hHeld3
          go_wp2
          exact bodyPost_ret (v := .tuple #[.agg #[.bool r, .slice A n cv, .int .i64 sc], .bool true]) (by simp [results, Tryz.results4, go_sem, z0, z1, z2]) rfl ⟨_, n, F, by rw [hsc.out, hres0.out, hre.out], hR4, hDG.out, hE⟩
        · have e2 : decide (0 ≤ s) = true := decide_eq_true hs0
          have e3 : decide (s ≤ 19) = false := decide_eq_false hs19
          have hres0 := Lib.hid (show (decide (c < 10000000000000000000) && decide (0 ≤ s) && decide (s ≤ 19)) = false by simp [hs19])
          clear hs0 hs19
          refine wp_region_held_drew (S := (fun w' => w'.cell? ⟨w.heap.size, 0, none⟩ = some (.bool neg) ∧ w'.cell? ⟨w.heap.size, 1, none⟩ = some (.int .u64 c) ∧ w'.cell? ⟨w.heap.size, 2, none⟩ = some (.int .i64 s) ∧ w'.cell? ⟨q, 0, none⟩ = some (.bool r) ∧ w'.cell? ⟨q, 1, none⟩ = some (.slice A n cv))) (by kernel_rfl) ⟨x0, x1, x2, x3, x4⟩ (fun hHeld => ?_)
          refine wpAnyH_take (i := 0) (v := ?_) rfl (by kernel_rfl) (by kernel_rfl) (by kernel_rfl) (fun _ _ _ h => h) (Or.inl ⟨by rfl, ?_⟩) (by assumption) ?_
          rotate_left
          · (intro w' hS'; go_simp; try with_reducible rfl)
          try simp only [Act.put, List.setIfInBounds_toArray, List.set_cons_zero, List.set_cons_succ, List.getElem_toArray, List.getElem_cons_zero]
          refine wpAnyH_take (i := 1) (v := ?_) rfl (by kernel_rfl) (by kernel_rfl) (by kernel_rfl) (fun _ _ _ h => h) (Or.inl ⟨by rfl, ?_⟩) (by assumption) ?_
          rotate_left
          · (intro w' hS'; go_simp; try with_reducible rfl)
          try simp only [Act.put, List.setIfInBounds_toArray, List.set_cons_zero, List.set_cons_succ, List.getElem_toArray, List.getElem_cons_zero, List.getElem_cons_succ]
          refine wpAnyH_take (i := 2) (v := ?_) rfl (by kernel_rfl) (by kernel_rfl) (by kernel_rfl) (fun _ _ _ h => h) (Or.inl ⟨by rfl, ?_⟩) (by assumption) ?_
          rotate_left
          · (intro w' hS'; go_simp; try with_reducible rfl)
          try simp only [Act.put, List.setIfInBounds_toArray, List.set_cons_zero, List.set_cons_succ, List.getElem_toArray, List.getElem_cons_zero, List.getElem_cons_succ]
          refine wpAnyH_take (i := 3) (v := ?_) rfl (by kernel_rfl) (by kernel_rfl) (by kernel_rfl) (fun _ _ _ h => h) (Or.inl ⟨by rfl, ?_⟩) (by assumption) ?_
          rotate_left
          · (intro w' hS'; go_simp; try with_reducible rfl)
          try simp only [Act.put, List.setIfInBounds_toArray, List.set_cons_zero, List.set_cons_succ, List.getElem_toArray, List.getElem_cons_zero, List.getElem_cons_succ]
          refine wpAnyH_take (i := 4) (v := ?_) rfl (by kernel_rfl) (by kernel_rfl) (by kernel_rfl) (fun _ _ _ h => h) (Or.inl ⟨by rfl, ?_⟩) (by assumption) ?_
          rotate_left
          · (intro w' hS'; go_simp; try with_reducible rfl)
          try simp only [Act.put, List.setIfInBounds_toArray, List.set_cons_zero, List.set_cons_succ, List.getElem_toArray, List.getElem_cons_zero, List.getElem_cons_succ]
          refine wpAnyH_take (i := 5) (v := ?_) rfl (by kernel_rfl) (by kernel_rfl) (by kernel_rfl) (fun _ _ _ h => h) (Or.inl ⟨by rfl, ?_⟩) (by assumption) ?_
          rotate_left
          · (intro w' hS'; go_simp; try with_reducible rfl)
          try simp only [Act.put, List.setIfInBounds_toArray, List.set_cons_zero, List.set_cons_succ, List.getElem_toArray, List.getElem_cons_zero, List.getElem_cons_succ]
          refine wpAnyH_take (i := 6) (v := ?_) rfl (by kernel_rfl) (by kernel_rfl) (by kernel_rfl) (fun _ _ _ h => h) (Or.inl ⟨by rfl, ?_⟩) (by assumption) ?_
          rotate_left
          · (intro w' hS'; go_simp; try with_reducible rfl)
          try simp only [Act.put, List.setIfInBounds_toArray, List.set_cons_zero, List.set_cons_succ, List.getElem_toArray, List.getElem_cons_zero, List.getElem_cons_succ]
          refine wpAnyH_ready (rs := [7]) (by kernel_rfl) (by simp) ?_
          refine AllReadyH.cons rfl (fun K hK => ?_) AllReadyH.nil
          go_simp
          refine (sp_Digits c n _ F U.drew (hUR.of_eq fun _ _ => rfl) hDG.out hn3).mono ?_
          rintro e w3 ⟨d, rfl, hd, hf⟩
          have hF3 : Fr NoS U w3 := (((Fr.refl NoS U).drew).trans' hf)
          have y0 := (hF3.cell (p := ⟨w.heap.size, 0, none⟩) hbU (fun x => x)).trans x0
          have y1 := (hF3.cell (p := ⟨w.heap.size, 1, none⟩) hbU (fun x => x)).trans x1
          have y2 := (hF3.cell (p := ⟨w.heap.size, 2, none⟩) hbU (fun x => x)).trans x2
          have y3 := (hF3.cell (p := ⟨q, 0, none⟩) hqU (fun x => x)).trans x3
          have y4 := (hF3.cell (p := ⟨q, 1, none⟩) hqU (fun x => x)).trans x4
          have e1 : decide (d ≤ 19) = true := decide_eq_true (hd.le19.2 hc19)
          have e1z : decide ((d : Int) ≤ 19) = true := decide_eq_true (Int.ofNat_le.2 (hd.le19.2 hc19))
          have hres3 := (hf.block (w.heap.size + 1) hlres (fun x => x)).trans hres
          obtain ⟨z0, z1, z2, g0, g1, g2⟩ := cells3 hres3
          have hR3 := hUR.fr hF3 (fun _ _ x => x)
          have hF4 := hUF.trans' hF3
          refine hK.out _ _ ⟨y0, y1, y2, y3, y4⟩ (fun hHeld2 => ?_)
          clear hK K hf hres3
          try simp only [Act.put, List.setIfInBounds_toArray, List.set_cons_zero, List.set_cons_succ, List.getElem_toArray, List.getElem_cons_zero, List.getElem_cons_succ]
          refine wpAnyH_take (i := 8) (v := ?_) rfl (by kernel_rfl) (by kernel_rfl) (by kernel_rfl) (fun _ _ _ h => h) (Or.inl ⟨by rfl, ?_⟩) (by assumption) ?_
          rotate_left
          · (intro w' hS'; go_simp; try with_reducible rfl)
          try simp only [Act.put, List.setIfInBounds_toArray, List.set_cons_zero, List.set_cons_succ, List.getElem_toArray, List.getElem_cons_zero, List.getElem_cons_succ]
          refine wpAnyH_take (i := 9) (v := ?_) rfl (by kernel_rfl) (by kernel_rfl) (by kernel_rfl) (fun _ _ _ h => h) (Or.inl ⟨by rfl, ?_⟩) (by assumption) ?_
          rotate_left
          · (intro w' hS'; go_simp; try with_reducible rfl)
          try simp only [Act.put, List.setIfInBounds_toArray, List.set_cons_zero, List.set_cons_succ, List.getElem_toArray, List.getElem_cons_zero, List.getElem_cons_succ]
          refine wpAnyH_take (i := 10) (v := ?_) rfl (by kernel_rfl) (by kernel_rfl) (by kernel_rfl) (fun _ _ _ h => h) (Or.inl ⟨by rfl, ?_⟩) (by assumption) ?_
          rotate_left
          · (intro w' hS'; go_simp; try with_reducible rfl)
          try simp only [Act.put, List.setIfInBounds_toArray, List.set_cons_zero, List.set_cons_succ, List.getElem_toArray, List.getElem_cons_zero, List.getElem_cons_succ]
          refine wpAnyH_take (i := 11) (v := ?_) rfl (by kernel_rfl) (by kernel_rfl) (by kernel_rfl) (fun _ _ _ h => h) (Or.inl ⟨by rfl, ?_⟩) (by assumption) ?_
          rotate_left
          · (intro w' hS'; go_simp; try with_reducible rfl)
          try simp only [Act.put, List.setIfInBounds_toArray, List.set_cons_zero, List.set_cons_succ, List.getElem_toArray, List.getElem_cons_zero, List.getElem_cons_succ]
          refine wpAnyH_take (i := 12) (v := ?_) rfl (by kernel_rfl) (by kernel_rfl) (by kernel_rfl) (fun _ _ _ h => h) (Or.inl ⟨by rfl, ?_⟩) (by assumption) ?_
          rotate_left
          · (intro w' hS'; go_simp; try with_reducible rfl)
          try simp only [Act.put, List.setIfInBounds_toArray, List.set_cons_zero, List.set_cons_succ, List.getElem_toArray, List.getElem_cons_zero, List.getElem_cons_succ]
          refine wpAnyH_take (i := 13) (v := ?_) rfl (by kernel_rfl) (by kernel_rfl) (by kernel_rfl) (fun _ _ _ h => h) (Or.inl ⟨by rfl, ?_⟩) (by assumption) ?_
          rotate_left
          · (intro w' hS'; go_simp; try with_reducible rfl)
          try simp only [Act.put, List.setIfInBounds_toArray, List.set_cons_zero, List.set_cons_succ, List.getElem_toArray, List.getElem_cons_zero, List.getElem_cons_succ]
          refine wpAnyH_take (i := 14) (v := ?_) rfl (by kernel_rfl) (by kernel_rfl) (by kernel_rfl) (fun _ _ _ h => h) (Or.inl ⟨by rfl, ?_⟩) (by assumption) ?_
          rotate_left
          · (intro w' hS'; go_simp; try with_reducible rfl)
          try simp only [Act.put, List.setIfInBounds_toArray, List.set_cons_zero, List.set_cons_succ, List.getElem_toArray, List.getElem_cons_zero, List.getElem_cons_succ]
          refine wpAnyH_take (i := 15) (v := ?_) rfl (by kernel_rfl) (by kernel_rfl) (by kernel_rfl) (fun _ _ _ h => h) (Or.inl ⟨by rfl, ?_⟩) (by assumption) ?_
          rotate_left
          · (intro w' hS'; go_simp; try with_reducible rfl)
          try simp only [Act.put, List.setIfInBounds_toArray, List.set_cons_zero, List.set_cons_succ, List.getElem_toArray, List.getElem_cons_zero, List.getElem_cons_succ]
          refine wpAnyH_take (i := 16) (v := ?_) rfl (by kernel_rfl) (by kernel_rfl) (by kernel_rfl) (fun _ _ _ h => h) (Or.inl ⟨by rfl, ?_⟩) (by assumption) ?_
          rotate_left
          · (intro w' hS'; go_simp; try with_reducible rfl)
          try simp only [Act.put, List.setIfInBounds_toArray, List.set_cons_zero, List.set_cons_succ, List.getElem_toArray, List.getElem_cons_zero, List.getElem_cons_succ]
          refine wpAnyH_take (i := 17) (v := ?_) rfl (by kernel_rfl) (by kernel_rfl) (by kernel_rfl) (fun _ _ _ h => h) (Or.inl ⟨by rfl, ?_⟩) (by assumption) ?_
          rotate_left
          · (intro w' hS'; go_simp; try with_reducible rfl)
          try simp only [Act.put, List.setIfInBounds_toArray, List.set_cons_zero, List.set_cons_succ, List.getElem_toArray, List.getElem_cons_zero, List.getElem_cons_succ]
          refine wpAnyH_take (i := 18) (v := ?_) rfl (by kernel_rfl) (by kernel_rfl) (by kernel_rfl) (fun _ _ _ h => h) (Or.inl ⟨by rfl, ?_⟩) (by assumption) ?_
          rotate_left
          · (intro w' hS'; go_simp; try with_reducible rfl)
          try simp only [Act.put, List.setIfInBounds_toArray, List.set_cons_zero, List.set_cons_succ, List.getElem_toArray, List.getElem_cons_zero, List.getElem_cons_succ]
          refine wpAnyH_ready (rs := [19]) (by kernel_rfl) (by simp) ?_
          refine AllReadyH.cons rfl (fun K hK => ?_) AllReadyH.nil
          go_simp
          refine hK.out _ _ (by go_keep) (fun hHeld3 => ?_)
          clear hK K
          try simp only [Act.put, List.setIfInBounds_toArray, List.set_cons_zero, List.set_cons_succ, List.getElem_toArray, List.getElem_cons_zero, List.getElem_cons_succ]
          refine wpAnyH_take (i := 20) (v := ?_) rfl (by kernel_rfl) (by kernel_rfl) (by kernel_rfl) (fun _ _ _ h => h) (Or.inl ⟨by rfl, ?_⟩) (by assumption) ?_
          rotate_left
          · (intro w' hS'; go_simp; try with_reducible rfl)
          try simp only [Act.put, List.setIfInBounds_toArray, List.set_cons_zero, List.set_cons_succ, List.getElem_toArray, List.getElem_cons_zero, List.getElem_cons_succ]
          refine wpAnyH_done (by kernel_rfl) ?_ _
          have hE := ((hF4.setCell ⟨w.heap.size + 1, 0, none⟩ (.bool r) (.inl (by simp))).setCell ⟨w.heap.size + 1, 1, none⟩ (.slice A n cv) (.inl (by simp))).setCell ⟨w.heap.size + 1, 2, none⟩ (.int .i64 sc) (.inl (by simp))
          have hne := hR3.ne_block ((hF3.block (w.heap.size + 1) hlres (fun x => x)).trans hres) (by decide)
          have hS : Fr (· = w.heap.size + 1) w3 (((w3.setCell ⟨w.heap.size + 1, 0, none⟩ (.bool r)).setCell ⟨w.heap.size + 1, 1, none⟩ (.slice A n cv)).setCell ⟨w.heap.size + 1, 2, none⟩ (.int .i64 sc)) := ((Fr.set _ _ _ _).trans' (Fr.set _ _ _ _)).trans' (Fr.set _ _ _ _)
          have hR4 := hR3.fr hS (fun k hk e => hne (by rw [hk, e]))
          clear hF4 hS hne hR3 hHeld hHeld2 hHeld3
          go_wp2
          exact bodyPost_ret (v := .tuple #[.agg #[.bool r, .slice A n cv, .int .i64 sc], .bool false]) (by simp [results, Tryz.results4, go_sem, z0, z1, z2]) rfl ⟨_, n, F, by rw [hsc.out, hres0.out, hre.out], hR4, hDG.out, hE⟩
      · have e2 : decide (0 ≤ s) = false := decide_eq_false hs0
        have hres0 := Lib.hid (show (decide (c < 10000000000000000000) && decide (0 ≤ s) && decide (s ≤ 19)) = false by simp [hs0])
        clear hs0
        refine wp_region_held_drew (S := (fun w' => w'.cell? ⟨w.heap.size, 0, none⟩ = some (.bool neg) ∧ w'.cell? ⟨w.heap.size, 1, none⟩ = some (.int .u64 c) ∧ w'.cell? ⟨w.heap.size, 2, none⟩ = some (.int .i64 s) ∧ w'.cell? ⟨q, 0, none⟩ = some (.bool r) ∧ w'.cell? ⟨q, 1, none⟩ = some (.slice A n cv))) (by kernel_rfl) ⟨x0, x1, x2, x3, x4⟩ (fun hHeld => ?_)
        refine wpAnyH_take (i := 0) (v := ?_) rfl (by kernel_rfl) (by kernel_rfl) (by kernel_rfl) (fun _ _ _ h => h) (Or.inl ⟨by rfl, ?_⟩) (by assumption) ?_
        rotate_left
        · (intro w' hS'; go_simp; try with_reducible rfl)
        try simp only [Act.put, List.setIfInBounds_toArray, List.set_cons_zero, List.set_cons_succ, List.getElem_toArray, List.getElem_cons_zero]
        refine wpAnyH_take (i := 1) (v := ?_) rfl (by kernel_rfl) (by kernel_rfl) (by kernel_rfl) (fun _ _ _ h => h) (Or.inl ⟨by rfl, ?_⟩) (by assumption) ?_
        rotate_left
        · (intro w' hS'; go_simp; try with_reducible rfl)
        try simp only [Act.put, List.setIfInBounds_toArray, List.set_cons_zero, List.set_cons_succ, List.getElem_toArray, List.getElem_cons_zero, List.getElem_cons_succ]
        refine wpAnyH_take (i := 2) (v := ?_) rfl (by kernel_rfl) (by kernel_rfl) (by kernel_rfl) (fun _ _ _ h => h) (Or.inl ⟨by rfl, ?_⟩) (by assumption) ?_
        rotate_left
        · (intro w' hS'; go_simp; try with_reducible rfl)
        try simp only [Act.put, List.setIfInBounds_toArray, List.set_cons_zero, List.set_cons_succ, List.getElem_toArray, List.getElem_cons_zero, List.getElem_cons_succ]
        refine wpAnyH_take (i := 3) (v := ?_) rfl (by kernel_rfl) (by kernel_rfl) (by kernel_rfl) (fun _ _ _ h => h) (Or.inl ⟨by rfl, ?_⟩) (by assumption) ?_
        rotate_left
        · (intro w' hS'; go_simp; try with_reducible rfl)
        try simp only [Act.put, List.setIfInBounds_toArray, List.set_cons_zero, List.set_cons_succ, List.getElem_toArray, List.getElem_cons_zero, List.getElem_cons_succ]
        refine wpAnyH_take (i := 4) (v := ?_) rfl (by kernel_rfl) (by kernel_rfl) (by kernel_rfl) (fun _ _ _ h => h) (Or.inl ⟨by rfl, ?_⟩) (by assumption) ?_
        rotate_left
        · (intro w' hS'; go_simp; try with_reducible rfl)
        try simp only [Act.put, List.setIfInBounds_toArray, List.set_cons_zero, List.set_cons_succ, List.getElem_toArray, List.getElem_cons_zero, List.getElem_cons_succ]
        refine wpAnyH_take (i := 5) (v := ?_) rfl (by kernel_rfl) (by kernel_rfl) (by kernel_rfl) (fun _ _ _ h => h) (Or.inl ⟨by rfl, ?_⟩) (by assumption) ?_
        rotate_left
        · (intro w' hS'; go_simp; try with_reducible rfl)
        try simp only [Act.put, List.setIfInBounds_toArray, List.set_cons_zero, List.set_cons_succ, List.getElem_toArray, List.getElem_cons_zero, List.getElem_cons_succ]
        refine wpAnyH_take (i := 6) (v := ?_) rfl (by kernel_rfl) (by kernel_rfl) (by kernel_rfl) (fun _ _ _ h => h) (Or.inl ⟨by rfl, ?_⟩) (by assumption) ?_
        rotate_left
        · (intro w' hS'; go_simp; try with_reducible rfl)
        try simp only [Act.put, List.setIfInBounds_toArray, List.set_cons_zero, List.set_cons_succ, List.getElem_toArray, List.getElem_cons_zero, List.getElem_cons_succ]
        refine wpAnyH_ready (rs := [7]) (by kernel_rfl) (by simp) ?_
        refine AllReadyH.cons rfl (fun K hK => ?_) AllReadyH.nil
        go_simp
        refine (sp_Digits c n _ F U.drew (hUR.of_eq fun _ _ => rfl) hDG.out hn3).mono ?_
        rintro e w3 ⟨d, rfl, hd, hf⟩
        have hF3 : Fr NoS U w3 := (((Fr.refl NoS U).drew).trans' hf)
        have y0 := (hF3.cell (p := ⟨w.heap.size, 0, none⟩) hbU (fun x => x)).trans x0
        have y1 := (hF3.cell (p := ⟨w.heap.size, 1, none⟩) hbU (fun x => x)).trans x1
        have y2 := (hF3.cell (p := ⟨w.heap.size, 2, none⟩) hbU (fun x => x)).trans x2
        have y3 := (hF3.cell (p := ⟨q, 0, none⟩) hqU (fun x => x)).trans x3
        have y4 := (hF3.cell (p := ⟨q, 1, none⟩) hqU (fun x => x)).trans x4
        have e1 : decide (d ≤ 19) = true := decide_eq_true (hd.le19.2 hc19)
        have e1z : decide ((d : Int) ≤ 19) = true := decide_eq_true (Int.ofNat_le.2 (hd.le19.2 hc19))
        have hres3 := (hf.block (w.heap.size + 1) hlres (fun x => x)).trans hres
        obtain ⟨z0, z1, z2, g0, g1, g2⟩ := cells3 hres3
        have hR3 := hUR.fr hF3 (fun _ _ x => x)
        have hF4 := hUF.trans' hF3
        refine hK.out _ _ ⟨y0, y1, y2, y3, y4⟩ (fun hHeld2 => ?_)
        clear hK K hf hres3
        try simp only [Act.put, List.setIfInBounds_toArray, List.set_cons_zero, List.set_cons_succ, List.getElem_toArray, List.getElem_cons_zero, List.getElem_cons_succ]
        refine wpAnyH_take (i := 8) (v := ?_) rfl (by kernel_rfl) (by kernel_rfl) (by kernel_rfl) (fun _ _ _ h => h) (Or.inl ⟨by rfl, ?_⟩) (by assumption) ?_
        rotate_left
        · (intro w' hS'; go_simp; try with_reducible rfl)
        try simp only [Act.put, List.setIfInBounds_toArray, List.set_cons_zero, List.set_cons_succ, List.getElem_toArray, List.getElem_cons_zero, List.getElem_cons_succ]
        refine wpAnyH_take (i := 9) (v := ?_) rfl (by kernel_rfl) (by kernel_rfl) (by kernel_rfl) (fun _ _ _ h => h) (Or.inl ⟨by rfl, ?_⟩) (by assumption) ?_
        rotate_left
        · (intro w' hS'; go_simp; try with_reducible rfl)
        try simp only [Act.put, List.setIfInBounds_toArray, List.set_cons_zero, List.set_cons_succ, List.getElem_toArray, List.getElem_cons_zero, List.getElem_cons_succ]
        refine wpAnyH_take (i := 10) (v := ?_) rfl (by kernel_rfl) (by kernel_rfl) (by kernel_rfl) (fun _ _ _ h => h) (Or.inl ⟨by rfl, ?_⟩) (by assumption) ?_
        rotate_left
        · (intro w' hS'; go_simp; try with_reducible rfl)
        try simp only [Act.put, List.setIfInBounds_toArray, List.set_cons_zero, List.set_cons_succ, List.getElem_toArray, List.getElem_cons_zero, List.getElem_cons_succ]
        refine wpAnyH_take (i := 11) (v := ?_) rfl (by kernel_rfl) (by kernel_rfl) (by kernel_rfl) (fun _ _ _ h => h) (Or.inl ⟨by rfl, ?_⟩) (by assumption) ?_
        rotate_left
        · (intro w' hS'; go_simp; try with_reducible rfl)
        try simp only [Act.put, List.setIfInBounds_toArray, List.set_cons_zero, List.set_cons_succ, List.getElem_toArray, List.getElem_cons_zero, List.getElem_cons_succ]
        refine wpAnyH_take (i := 12) (v := ?_) rfl (by kernel_rfl) (by kernel_rfl) (by kernel_rfl) (fun _ _ _ h => h) (Or.inl ⟨by rfl, ?_⟩) (by assumption) ?_
        rotate_left
        · (intro w' hS'; go_simp; try with_reducible rfl)
        try simp only [Act.put, List.setIfInBounds_toArray, List.set_cons_zero, List.set_cons_succ, List.getElem_toArray, List.getElem_cons_zero, List.getElem_cons_succ]
        refine wpAnyH_take (i := 13) (v := ?_) rfl (by kernel_rfl) (by kernel_rfl) (by kernel_rfl) (fun _ _ _ h => h) (Or.inl ⟨by rfl, ?_⟩) (by assumption) ?_
        rotate_left
        · (intro w' hS'; go_simp; try with_reducible rfl)
        try simp only [Act.put, List.setIfInBounds_toArray, List.set_cons_zero, List.set_cons_succ, List.getElem_toArray, List.getElem_cons_zero, List.getElem_cons_succ]
        refine wpAnyH_take (i := 14) (v := ?_) rfl (by kernel_rfl) (by kernel_rfl) (by kernel_rfl) (fun _ _ _ h => h) (Or.inl ⟨by rfl, ?_⟩) (by assumption) ?_
        rotate_left
        · (intro w' hS'; go_simp; try with_reducible rfl)
        try simp only [Act.put, List.setIfInBounds_toArray, List.set_cons_zero, List.set_cons_succ, List.getElem_toArray, List.getElem_cons_zero, List.getElem_cons_succ]
        refine wpAnyH_take (i := 15) (v := undef) rfl (by kernel_rfl) (by kernel_rfl) (by kernel_rfl) (fun _ _ _ h => h) (Or.inr ⟨by rfl, rfl⟩) (by assumption) ?_
        try simp only [Act.put, List.setIfInBounds_toArray, List.set_cons_zero, List.set_cons_succ, List.getElem_toArray, List.getElem_cons_zero, List.getElem_cons_succ]
        refine wpAnyH_take (i := 16) (v := undef) rfl (by kernel_rfl) (by kernel_rfl) (by kernel_rfl) (fun _ _ _ h => h) (Or.inr ⟨by rfl, rfl⟩) (by assumption) ?_
        try simp only [Act.put, List.setIfInBounds_toArray, List.set_cons_zero, List.set_cons_succ, List.getElem_toArray, List.getElem_cons_zero, List.getElem_cons_succ]
        refine wpAnyH_take (i := 17) (v := undef) rfl (by kernel_rfl) (by kernel_rfl) (by kernel_rfl) (fun _ _ _ h => h) (Or.inr ⟨by rfl, rfl⟩) (by assumption) ?_
        try simp only [Act.put, List.setIfInBounds_toArray, List.set_cons_zero, List.set_cons_succ, List.getElem_toArray, List.getElem_cons_zero, List.getElem_cons_succ]
        refine wpAnyH_take (i := 18) (v := ?_) rfl (by kernel_rfl) (by kernel_rfl) (by kernel_rfl) (fun _ _ _ h => h) (Or.inl ⟨by rfl, ?_⟩) (by assumption) ?_
        rotate_left
        · (intro w' hS'; go_simp; try with_reducible rfl)
        try simp only [Act.put, List.setIfInBounds_toArray, List.set_cons_zero, List.set_cons_succ, List.getElem_toArray, List.getElem_cons_zero, List.getElem_cons_succ]
        refine wpAnyH_ready (rs := [19]) (by kernel_rfl) (by simp) ?_
        refine AllReadyH.cons rfl (fun K hK => ?_) AllReadyH.nil
        go_simp
        refine hK.out _ _ (by go_keep) (fun hHeld3 => ?_)
        clear hK K
        try simp only [Act.put, List.setIfInBounds_toArray, List.set_cons_zero, List.set_cons_succ, List.getElem_toArray, List.getElem_cons_zero, List.getElem_cons_succ]
        refine wpAnyH_take (i := 20) (v := ?_) rfl (by kernel_rfl) (by kernel_rfl) (by kernel_rfl) (fun _ _ _ h => h) (Or.inl ⟨by rfl, ?_⟩) (by assumption) ?_
        rotate_left
        · (intro w' hS'; go_simp; try with_reducible rfl)
        try simp only [Act.put, List.setIfInBounds_toArray, List.set_cons_zero, List.set_cons_succ, List.getElem_toArray, List.getElem_cons_zero, List.getElem_cons_succ]
        refine wpAnyH_done (by kernel_rfl) ?_ _
        have hE := ((hF4.setCell ⟨w.heap.size + 1, 0, none⟩ (.bool r) (.inl (by simp))).setCell ⟨w.heap.size + 1, 1, none⟩ (.slice A n cv) (.inl (by simp))).setCell ⟨w.heap.size + 1, 2, none⟩ (.int .i64 sc) (.inl (by simp))
        have hne := hR3.ne_block ((hF3.block (w.heap.size + 1) hlres (fun x => x)).trans hres) (by decide)
        have hS : Fr (· = w.heap.size + 1) w3 (((w3.setCell ⟨w.heap.size + 1, 0, none⟩ (.bool r)).setCell ⟨w.heap.size + 1, 1, none⟩ (.slice A n cv)).setCell ⟨w.heap.size + 1, 2, none⟩ (.int .i64 sc)) := ((Fr.set _ _ _ _).trans' (Fr.set _ _ _ _)).trans' (Fr.set _ _ _ _)
        have hR4 := hR3.fr hS (fun k hk e => hne (by rw [hk, e]))
        clear hF4 hS hne hR3 hHeld hHeld2 hHeld3
        go_wp2
        exact bodyPost_ret (v := .tuple #[.agg #[.bool r, .slice A n cv, .int .i64 sc], .bool false]) (by simp [results, Tryz.results4, go_sem, z0, z1, z2]) rfl ⟨_, n, F, by rw [hsc.out, hres0.out, hre.out], hR4, hDG.out, hE⟩
    · have hres0 := Lib.hid (show (decide (c < 10000000000000000000) && decide (0 ≤ s) && decide (s ≤ 19)) = false by simp [hc19])
      refine wp_region_held_drew (S := (fun w' => w'.cell? ⟨w.heap.size, 0, none⟩ = some (.bool neg) ∧ w'.cell? ⟨w.heap.size, 1, none⟩ = some (.int .u64 c) ∧ w'.cell? ⟨w.heap.size, 2, none⟩ = some (.int .i64 s) ∧ w'.cell? ⟨q, 0, none⟩ = some (.bool r) ∧ w'.cell? ⟨q, 1, none⟩ = some (.slice A n cv))) (by kernel_rfl) ⟨x0, x1, x2, x3, x4⟩ (fun hHeld => ?_)
      refine wpAnyH_take (i := 0) (v := ?_) rfl (by kernel_rfl) (by kernel_rfl) (by kernel_rfl) (fun _ _ _ h => h) (Or.inl ⟨by rfl, ?_⟩) (by assumption) ?_
      rotate_left
      · (intro w' hS'; go_simp; try with_reducible rfl)
      try simp only [Act.put, List.setIfInBounds_toArray, List.set_cons_zero, List.set_cons_succ, List.getElem_toArray, List.getElem_cons_zero]
      refine wpAnyH_take (i := 1) (v := ?_) rfl (by kernel_rfl) (by kernel_rfl) (by kernel_rfl) (fun _ _ _ h => h) (Or.inl ⟨by rfl, ?_⟩) (by assumption) ?_
      rotate_left
      · (intro w' hS'; go_simp; try with_reducible rfl)
      try simp only [Act.put, List.setIfInBounds_toArray, List.set_cons_zero, List.set_cons_succ, List.getElem_toArray, List.getElem_cons_zero, List.getElem_cons_succ]
      refine wpAnyH_take (i := 2) (v := ?_) rfl (by kernel_rfl) (by kernel_rfl) (by kernel_rfl) (fun _ _ _ h => h) (Or.inl ⟨by rfl, ?_⟩) (by assumption) ?_
      rotate_left
      · (intro w' hS'; go_simp; try with_reducible rfl)
      try simp only [Act.put, List.setIfInBounds_toArray, List.set_cons_zero, List.set_cons_succ, List.getElem_toArray, List.getElem_cons_zero, List.getElem_cons_succ]
      refine wpAnyH_take (i := 3) (v := ?_) rfl (by kernel_rfl) (by kernel_rfl) (by kernel_rfl) (fun _ _ _ h => h) (Or.inl ⟨by rfl, ?_⟩) (by assumption) ?_
      rotate_left
      · (intro w' hS'; go_simp; try with_reducible rfl)
      try simp only [Act.put, List.setIfInBounds_toArray, List.set_cons_zero, List.set_cons_succ, List.getElem_toArray, List.getElem_cons_zero, List.getElem_cons_succ]
      refine wpAnyH_take (i := 4) (v := ?_) rfl (by kernel_rfl) (by kernel_rfl) (by kernel_rfl) (fun _ _ _ h => h) (Or.inl ⟨by rfl, ?_⟩) (by assumption) ?_
      rotate_left
      · (intro w' hS'; go_simp; try with_reducible rfl)
      try simp only [Act.put, List.setIfInBounds_toArray, List.set_cons_zero, List.set_cons_succ, List.getElem_toArray, List.getElem_cons_zero, List.getElem_cons_succ]
      refine wpAnyH_take (i := 5) (v := ?_) rfl (by kernel_rfl) (by kernel_rfl) (by kernel_rfl) (fun _ _ _ h => h) (Or.inl ⟨by rfl, ?_⟩) (by assumption) ?_
      rotate_left
      · (intro w' hS'; go_simp; try with_reducible rfl)
      try simp only [Act.put, List.setIfInBounds_toArray, List.set_cons_zero, List.set_cons_succ, List.getElem_toArray, List.getElem_cons_zero, List.getElem_cons_succ]
      refine wpAnyH_take (i := 6) (v := ?_) rfl (by kernel_rfl) (by kernel_rfl) (by kernel_rfl) (fun _ _ _ h => h) (Or.inl ⟨by rfl, ?_⟩) (by assumption) ?_
      rotate_left
      · (intro w' hS'; go_simp; try with_reducible rfl)
      try simp only [Act.put, List.setIfInBounds_toArray, List.set_cons_zero, List.set_cons_succ, List.getElem_toArray, List.getElem_cons_zero, List.getElem_cons_succ]
      refine wpAnyH_ready (rs := [7]) (by kernel_rfl) (by simp) ?_
      refine AllReadyH.cons rfl (fun K hK => ?_) AllReadyH.nil
      go_simp
      refine (sp_Digits c n _ F U.drew (hUR.of_eq fun _ _ => rfl) hDG.out hn3).mono ?_
      rintro e w3 ⟨d, rfl, hd, hf⟩
      have hF3 : Fr NoS U w3 := (((Fr.refl NoS U).drew).trans' hf)
      have y0 := (hF3.cell (p := ⟨w.heap.size, 0, none⟩) hbU (fun x => x)).trans x0
      have y1 := (hF3.cell (p := ⟨w.heap.size, 1, none⟩) hbU (fun x => x)).trans x1
      have y2 := (hF3.cell (p := ⟨w.heap.size, 2, none⟩) hbU (fun x => x)).trans x2
      have y3 := (hF3.cell (p := ⟨q, 0, none⟩) hqU (fun x => x)).trans x3
      have y4 := (hF3.cell (p := ⟨q, 1, none⟩) hqU (fun x => x)).trans x4
      have e1 : decide (d ≤ 19) = false := decide_eq_false (fun h => hc19 (hd.le19.1 h))
      have e1z : decide ((d : Int) ≤ 19) = false := decide_eq_false (fun h => hc19 (hd.le19.1 (by omega)))
      have hres3 := (hf.block (w.heap.size + 1) hlres (fun x => x)).trans hres
      obtain ⟨z0, z1, z2, g0, g1, g2⟩ := cells3 hres3
      have hR3 := hUR.fr hF3 (fun _ _ x => x)
      have hF4 := hUF.trans' hF3
      refine hK.out _ _ ⟨y0, y1, y2, y3, y4⟩ (fun hHeld2 => ?_)
      clear hK K hf hres3
      try simp only [Act.put, List.setIfInBounds_toArray, List.set_cons_zero, List.set_cons_succ, List.getElem_toArray, List.getElem_cons_zero, List.getElem_cons_succ]
      refine wpAnyH_take (i := 8) (v := ?_) rfl (by kernel_rfl) (by kernel_rfl) (by kernel_rfl) (fun _ _ _ h => h) (Or.inl ⟨by rfl, ?_⟩) (by assumption) ?_
      rotate_left
      · (intro w' hS'; go_simp; try with_reducible rfl)
      try simp only [Act.put, List.setIfInBounds_toArray, List.set_cons_zero, List.set_cons_succ, List.getElem_toArray, List.getElem_cons_zero, List.getElem_cons_succ]
      refine wpAnyH_take (i := 9) (v := ?_) rfl (by kernel_rfl) (by kernel_rfl) (by kernel_rfl) (fun _ _ _ h => h) (Or.inl ⟨by rfl, ?_⟩) (by assumption) ?_
      rotate_left
      · (intro w' hS'; go_simp; try with_reducible rfl)
      try simp only [Act.put, List.setIfInBounds_toArray, List.set_cons_zero, List.set_cons_succ, List.getElem_toArray, List.getElem_cons_zero, List.getElem_cons_succ]
      refine wpAnyH_take (i := 10) (v := undef) rfl (by kernel_rfl) (by kernel_rfl) (by kernel_rfl) (fun _ _ _ h => h) (Or.inr ⟨by rfl, rfl⟩) (by assumption) ?_
      try simp only [Act.put, List.setIfInBounds_toArray, List.set_cons_zero, List.set_cons_succ, List.getElem_toArray, List.getElem_cons_zero, List.getElem_cons_succ]
      refine wpAnyH_take (i := 11) (v := undef) rfl (by kernel_rfl) (by kernel_rfl) (by kernel_rfl) (fun _ _ _ h => h) (Or.inr ⟨by rfl, rfl⟩) (by assumption) ?_
      try simp only [Act.put, List.setIfInBounds_toArray, List.set_cons_zero, List.set_cons_succ, List.getElem_toArray, List.getElem_cons_zero, List.getElem_cons_succ]
      refine wpAnyH_take (i := 12) (v := undef) rfl (by kernel_rfl) (by kernel_rfl) (by kernel_rfl) (fun _ _ _ h => h) (Or.inr ⟨by rfl, rfl⟩) (by assumption) ?_
      try simp only [Act.put, List.setIfInBounds_toArray, List.set_cons_zero, List.set_cons_succ, List.getElem_toArray, List.getElem_cons_zero, List.getElem_cons_succ]
      refine wpAnyH_take (i := 13) (v := ?_) rfl (by kernel_rfl) (by kernel_rfl) (by kernel_rfl) (fun _ _ _ h => h) (Or.inl ⟨by rfl, ?_⟩) (by assumption) ?_
      rotate_left
      · (intro w' hS'; go_simp; try with_reducible rfl)
      try simp only [Act.put, List.setIfInBounds_toArray, List.set_cons_zero, List.set_cons_succ, List.getElem_toArray, List.getElem_cons_zero, List.getElem_cons_succ]
      refine wpAnyH_take (i := 14) (v := ?_) rfl (by kernel_rfl) (by kernel_rfl) (by kernel_rfl) (fun _ _ _ h => h) (Or.inl ⟨by rfl, ?_⟩) (by assumption) ?_
      rotate_left
      · (intro w' hS'; go_simp; try with_reducible rfl)
      try simp only [Act.put, List.setIfInBounds_toArray, List.set_cons_zero, List.set_cons_succ, List.getElem_toArray, List.getElem_cons_zero, List.getElem_cons_succ]
      refine wpAnyH_take (i := 15) (v := undef) rfl (by kernel_rfl) (by kernel_rfl) (by kernel_rfl) (fun _ _ _ h => h) (Or.inr ⟨by rfl, rfl⟩) (by assumption) ?_
      try simp only [Act.put, List.setIfInBounds_toArray, List.set_cons_zero, List.set_cons_succ, List.getElem_toArray, List.getElem_cons_zero, List.getElem_cons_succ]
      refine wpAnyH_take (i := 16) (v := undef) rfl (by kernel_rfl) (by kernel_rfl) (by kernel_rfl) (fun _ _ _ h => h) (Or.inr ⟨by rfl, rfl⟩) (by assumption) ?_
      try simp only [Act.put, List.setIfInBounds_toArray, List.set_cons_zero, List.set_cons_succ, List.getElem_toArray, List.getElem_cons_zero, List.getElem_cons_succ]
      refine wpAnyH_take (i := 17) (v := undef) rfl (by kernel_rfl) (by kernel_rfl) (by kernel_rfl) (fun _ _ _ h => h) (Or.inr ⟨by rfl, rfl⟩) (by assumption) ?_
      try simp only [Act.put, List.setIfInBounds_toArray, List.set_cons_zero, List.set_cons_succ, List.getElem_toArray, List.getElem_cons_zero, List.getElem_cons_succ]
      refine wpAnyH_take (i := 18) (v := ?_) rfl (by kernel_rfl) (by kernel_rfl) (by kernel_rfl) (fun _ _ _ h => h) (Or.inl ⟨by rfl, ?_⟩) (by assumption) ?_
      rotate_left
      · (intro w' hS'; go_simp; try with_reducible rfl)
      try simp only [Act.put, List.setIfInBounds_toArray, List.set_cons_zero, List.set_cons_succ, List.getElem_toArray, List.getElem_cons_zero, List.getElem_cons_succ]
      refine wpAnyH_ready (rs := [19]) (by kernel_rfl) (by simp) ?_
      refine AllReadyH.cons rfl (fun K hK => ?_) AllReadyH.nil
      go_simp
      refine hK.out _ _ (by go_keep) (fun hHeld3 => ?_)
      clear hK K
      try simp only [Act.put, List.setIfInBounds_toArray, List.set_cons_zero, List.set_cons_succ, List.getElem_toArray, List.getElem_cons_zero, List.getElem_cons_succ]
      refine wpAnyH_take (i := 20) (v := ?_) rfl (by kernel_rfl) (by kernel_rfl) (by kernel_rfl) (fun _ _ _ h => h) (Or.inl ⟨by rfl, ?_⟩) (by assumption) ?_
      rotate_left
      · (intro w' hS'; go_simp; try with_reducible rfl)
      try simp only [Act.put, List.setIfInBounds_toArray, List.set_cons_zero, List.set_cons_succ, List.getElem_toArray, List.getElem_cons_zero, List.getElem_cons_succ]
      refine wpAnyH_done (by kernel_rfl) ?_ _
      have hE := ((hF4.setCell ⟨w.heap.size + 1, 0, none⟩ (.bool r) (.inl (by simp))).setCell ⟨w.heap.size + 1, 1, none⟩ (.slice A n cv) (.inl (by simp))).setCell ⟨w.heap.size + 1, 2, none⟩ (.int .i64 sc) (.inl (by simp))
      have hne := hR3.ne_block ((hF3.block (w.heap.size + 1) hlres (fun x => x)).trans hres) (by decide)
      have hS : Fr (· = w.heap.size + 1) w3 (((w3.setCell ⟨w.heap.size + 1, 0, none⟩ (.bool r)).setCell ⟨w.heap.size + 1, 1, none⟩ (.slice A n cv)).setCell ⟨w.heap.size + 1, 2, none⟩ (.int .i64 sc)) := ((Fr.set _ _ _ _).trans' (Fr.set _ _ _ _)).trans' (Fr.set _ _ _ _)
      have hR4 := hR3.fr hS (fun k hk e => hne (by rw [hk, e]))
      clear hF4 hS hne hR3 hHeld hHeld2 hHeld3
      go_wp2
      exact bodyPost_ret (v := .tuple #[.agg #[.bool r, .slice A n cv, .int .i64 sc], .bool false]) (by simp [results, Tryz.results4, go_sem, z0, z1, z2]) rfl ⟨_, n, F, by rw [hsc.out, hres0.out, hre.out], hR4, hDG.out, hE⟩
  · obtain ⟨q, hqe⟩ : ∃ q, w1.heap.size = q := ⟨_, rfl⟩
    have hge : u0.heap.size ≤ q := hqe ▸ hF1.size
    rw [hqe] at hq2 ⊢
    clear hqe
    have hUq : ((w2.setCell ⟨q, 0, none⟩ (.bool (neg && decide (0 < n)))).setCell ⟨q, 1, none⟩ (.slice A n cv)).heap[q]? = some (.cells #[.bool (neg && decide (0 < n)), .slice A n cv] 28 (0, 0)) := by
      rw [heap_setCell_same _ q 1 _ _ _ (heap_setCell_same w2 q 0 _ _ _ hq2)]; rfl
    have hUF0 := (hF2.setCell ⟨q, 0, none⟩ (.bool (neg && decide (0 < n))) (.inl hge)).setCell ⟨q, 1, none⟩ (.slice A n cv) (.inl hge)
    have hneq := hR2.ne_block hq2 (by decide)
    have hS2 : Fr (· = q) w2 ((w2.setCell ⟨q, 0, none⟩ (.bool (neg && decide (0 < n)))).setCell ⟨q, 1, none⟩ (.slice A n cv)) := (Fr.set _ _ _ _).trans' (Fr.set _ _ _ _)
    have hUR := hR2.fr hS2 (fun k hk e => hneq (by rw [hk, e]))
    clear hS2 hneq
    generalize (w2.setCell ⟨q, 0, none⟩ (.bool (neg && decide (0 < n)))).setCell ⟨q, 1, none⟩ (.slice A n cv) = U at *
    have hUb := (hUF0.block w.heap.size hbl (fun x => x)).trans hb
    have hres := (hUF0.block (w.heap.size + 1) (Array.getElem?_eq_some_iff.1 hr).1 (fun x => x)).trans hr
    have hUF := hF.trans' hUF0
    have hbU : w.heap.size < U.heap.size := (Array.getElem?_eq_some_iff.1 hUb).1
    have hlres : w.heap.size + 1 < U.heap.size := (Array.getElem?_eq_some_iff.1 hres).1
    have hqU : q < U.heap.size := (Array.getElem?_eq_some_iff.1 hUq).1
    have hn3 := hD.few hc
    have hDG := Lib.hid hD
    obtain ⟨sc, hsc⟩ : ∃ sc, Hid (IntKind.i64.wrap (-s) = sc) := ⟨_, Lib.hid rfl⟩
    have hscw := hsc.out
    have p1 : w.heap.size ≠ q := by omega
    have p2 : q ≠ w.heap.size := by omega
    have p3 : q ≠ w.heap.size + 1 := by have := (Array.getElem?_eq_some_iff.1 hr).1; omega
    have p4 : w.heap.size + 1 ≠ q := p3.symm
    obtain ⟨r, hre⟩ : ∃ r, Hid ((neg && decide (0 < n)) = r) := ⟨_, Lib.hid rfl⟩
    rw [hre.out] at hUq ⊢
    obtain ⟨x0, x1, x2, _, _, _⟩ := cells3 hUb
    obtain ⟨x3, x4, _, _⟩ := cells2 hUq
    clear hF0 hF1 hF2 hUF0 hR hR2 hr hb hD hUb hUq k0 k1 k2 j0a j1a j2a j0b j1b j2b m0 m0' m1 m1' m2 m2' n1 n2 _hs
    go_wp2
    by_cases hc19 : c < 10000000000000000000
    · by_cases hs0 : 0 ≤ s
      · by_cases hs19 : s ≤ 19
        · have e2 : decide (0 ≤ s) = true := decide_eq_true hs0
          have e3 : decide (s ≤ 19) = true := decide_eq_true hs19
          have hres0 := Lib.hid (show (decide (c < 10000000000000000000) && decide (0 ≤ s) && decide (s ≤ 19)) = true by simp [hc19, hs0, hs19])
          clear hs0 hs19
          refine wp_region_held_drew (S := (fun w' => w'.cell? ⟨w.heap.size, 0, none⟩ = some (.bool neg) ∧ w'.cell? ⟨w.heap.size, 1, none⟩ = some (.int .u64 c) ∧ w'.cell? ⟨w.heap.size, 2, none⟩ = some (.int .i64 s) ∧ w'.cell? ⟨q, 0, none⟩ = some (.bool r) ∧ w'.cell? ⟨q, 1, none⟩ = some (.slice A n cv))) (by kernel_rfl) ⟨x0, x1, x2, x3, x4⟩ (fun hHeld => ?_)
          refine wpAnyH_take (i := 0) (v := ?_) rfl (by kernel_rfl) (by kernel_rfl) (by kernel_rfl) (fun _ _ _ h => h) (Or.inl ⟨by rfl, ?_⟩) (by assumption) ?_
          rotate_left
          · (intro w' hS'; go_simp; try with_reducible rfl)
          try simp only [Act.put, List.setIfInBounds_toArray, List.set_cons_zero, List.set_cons_succ, List.getElem_toArray, List.getElem_cons_zero]
          refine wpAnyH_take (i := 1) (v := ?_) rfl (by kernel_rfl) (by kernel_rfl) (by kernel_rfl) (fun _ _ _ h => h) (Or.inl ⟨by rfl, ?_⟩) (by assumption) ?_
          rotate_left
          · (intro w' hS'; go_simp; try with_reducible rfl)
          try simp only [Act.put, List.setIfInBounds_toArray, List.set_cons_zero, List.set_cons_succ, List.getElem_toArray, List.getElem_cons_zero, List.getElem_cons_succ]
          refine wpAnyH_take (i := 2) (v := ?_) rfl (by kernel_rfl) (by kernel_rfl) (by kernel_rfl) (fun _ _ _ h => h) (Or.inl ⟨by rfl, ?_⟩) (by assumption) ?_
          rotate_left
          · (intro w' hS'; go_simp; try with_reducible rfl)
          try simp only [Act.put, List.setIfInBounds_toArray, List.set_cons_zero, List.set_cons_succ, List.getElem_toArray, List.getElem_cons_zero, List.getElem_cons_succ]
          refine wpAnyH_take (i := 3) (v := ?_) rfl (by kernel_rfl) (by kernel_rfl) (by kernel_rfl) (fun _ _ _ h => h) (Or.inl ⟨by rfl, ?_⟩) (by assumption) ?_
          rotate_left
          · (intro w' hS'; go_simp; try with_reducible rfl)
          try simp only [Act.put, List.setIfInBounds_toArray, List.set_cons_zero, List.set_cons_succ, List.getElem_toArray, List.getElem_cons_zero, List.getElem_cons_succ]
          refine wpAnyH_take (i := 4) (v := ?_) rfl (by kernel_rfl) (by kernel_rfl) (by kernel_rfl) (fun _ _ _ h => h) (Or.inl ⟨by rfl, ?_⟩) (by assumption) ?_
          rotate_left
          · (intro w' hS'; go_simp; try with_reducible rfl)
          try simp only [Act.put, List.setIfInBounds_toArray, List.set_cons_zero, List.set_cons_succ, List.getElem_toArray, List.getElem_cons_zero, List.getElem_cons_succ]
          refine wpAnyH_take (i := 5) (v := ?_) rfl (by kernel_rfl) (by kernel_rfl) (by kernel_rfl) (fun _ _ _ h => h) (Or.inl ⟨by rfl, ?_⟩) (by assumption) ?_
          rotate_left
          · (intro w' hS'; go_simp; try with_reducible rfl)
          try simp only [Act.put, List.setIfInBounds_toArray, List.set_cons_zero, List.set_cons_succ, List.getElem_toArray, List.getElem_cons_zero, List.getElem_cons_succ]
          refine wpAnyH_take (i := 6) (v := ?_) rfl (by kernel_rfl) (by kernel_rfl) (by kernel_rfl) (fun _ _ _ h => h) (Or.inl ⟨by rfl, ?_⟩) (by assumption) ?_
          rotate_left
          · (intro w' hS'; go_simp; try with_reducible rfl)
          try simp only [Act.put, List.setIfInBounds_toArray, List.set_cons_zero, List.set_cons_succ, List.getElem_toArray, List.getElem_cons_zero, List.getElem_cons_succ]
          refine wpAnyH_ready (rs := [7]) (by kernel_rfl) (by simp) ?_
          refine AllReadyH.cons rfl (fun K hK => ?_) AllReadyH.nil
          go_simp
          refine (sp_Digits c n _ F U.drew (hUR.of_eq fun _ _ => rfl) hDG.out hn3).mono ?_
          rintro e w3 ⟨d, rfl, hd, hf⟩
          have hF3 : Fr NoS U w3 := (((Fr.refl NoS U).drew).trans' hf)
          have y0 := (hF3.cell (p := ⟨w.heap.size, 0, none⟩) hbU (fun x => x)).trans x0
          have y1 := (hF3.cell (p := ⟨w.heap.size, 1, none⟩) hbU (fun x => x)).trans x1
          have y2 := (hF3.cell (p := ⟨w.heap.size, 2, none⟩) hbU (fun x => x)).trans x2
          have y3 := (hF3.cell (p := ⟨q, 0, none⟩) hqU (fun x => x)).trans x3
          have y4 := (hF3.cell (p := ⟨q, 1, none⟩) hqU (fun x => x)).trans x4
          have e1 : decide (d ≤ 19) = true := decide_eq_true (hd.le19.2 hc19)
          have e1z : decide ((d : Int) ≤ 19) = true := decide_eq_true (Int.ofNat_le.2 (hd.le19.2 hc19))
          have hres3 := (hf.block (w.heap.size + 1) hlres (fun x => x)).trans hres
          obtain ⟨z0, z1, z2, g0, g1, g2⟩ := cells3 hres3
          have hR3 := hUR.fr hF3 (fun _ _ x => x)
          have hF4 := hUF.trans' hF3
          refine hK.out _ _ ⟨y0, y1, y2, y3, y4⟩ (fun hHeld2 => ?_)
          clear hK K hf hres3
          try simp only [Act.put, List.setIfInBounds_toArray, List.set_cons_zero, List.set_cons_succ, List.getElem_toArray, List.getElem_cons_zero, List.getElem_cons_succ]
          refine wpAnyH_take (i := 8) (v := ?_) rfl (by kernel_rfl) (by kernel_rfl) (by kernel_rfl) (fun _ _ _ h => h) (Or.inl ⟨by rfl, ?_⟩) (by assumption) ?_
          rotate_left
          · (intro w' hS'; go_simp; try with_reducible rfl)
          try simp only [Act.put, List.setIfInBounds_toArray, List.set_cons_zero, List.set_cons_succ, List.getElem_toArray, List.getElem_cons_zero, List.getElem_cons_succ]
          refine wpAnyH_take (i := 9) (v := ?_) rfl (by kernel_rfl) (by kernel_rfl) (by kernel_rfl) (fun _ _ _ h => h) (Or.inl ⟨by rfl, ?_⟩) (by assumption) ?_
          rotate_left
          · (intro w' hS'; go_simp; try with_reducible rfl)
          try simp only [Act.put, List.setIfInBounds_toArray, List.set_cons_zero, List.set_cons_succ, List.getElem_toArray, List.getElem_cons_zero, List.getElem_cons_succ]
          refine wpAnyH_take (i := 10) (v := ?_) rfl (by kernel_rfl) (by kernel_rfl) (by kernel_rfl) (fun _ _ _ h => h) (Or.inl ⟨by rfl, ?_⟩) (by assumption) ?_
          rotate_left
          · (intro w' hS'; go_simp; try with_reducible rfl)
          try simp only [Act.put, List.setIfInBounds_toArray, List.set_cons_zero, List.set_cons_succ, List.getElem_toArray, List.getElem_cons_zero, List.getElem_cons_succ]
          refine wpAnyH_take (i := 11) (v := ?_) rfl (by kernel_rfl) (by kernel_rfl) (by kernel_rfl) (fun _ _ _ h => h) (Or.inl ⟨by rfl, ?_⟩) (by assumption) ?_
          rotate_left
          · (intro w' hS'; go_simp; try with_reducible rfl)
          try simp only [Act.put, List.setIfInBounds_toArray, List.set_cons_zero, List.set_cons_succ, List.getElem_toArray, List.getElem_cons_zero, List.getElem_cons_succ]
          refine wpAnyH_take (i := 12) (v := ?_) rfl (by kernel_rfl) (by kernel_rfl) (by kernel_rfl) (fun _ _ _ h => h) (Or.inl ⟨by rfl, ?_⟩) (by assumption) ?_
          rotate_left
          · (intro w' hS'; go_simp; try with_reducible rfl)
          try simp only [Act.put, List.setIfInBounds_toArray, List.set_cons_zero, List.set_cons_succ, List.getElem_toArray, List.getElem_cons_zero, List.getElem_cons_succ]
          refine wpAnyH_take (i := 13) (v := ?_) rfl (by kernel_rfl) (by kernel_rfl) (by kernel_rfl) (fun _ _ _ h => h) (Or.inl ⟨by rfl, ?_⟩) (by assumption) ?_
          rotate_left
          · (intro w' hS'; go_simp; try with_reducible rfl)
          try simp only [Act.put, List.setIfInBounds_toArray, List.set_cons_zero, List.set_cons_succ, List.getElem_toArray, List.getElem_cons_zero, List.getElem_cons_succ]
          refine wpAnyH_take (i := 14) (v := ?_) rfl (by kernel_rfl) (by kernel_rfl) (by kernel_rfl) (fun _ _ _ h => h) (Or.inl ⟨by rfl, ?_⟩) (by assumption) ?_
          rotate_left
          · (intro w' hS'; go_simp; try with_reducible rfl)
          try simp only [Act.put, List.setIfInBounds_toArray, List.set_cons_zero, List.set_cons_succ, List.getElem_toArray, List.getElem_cons_zero, List.getElem_cons_succ]
          refine wpAnyH_take (i := 15) (v := ?_) rfl (by kernel_rfl) (by kernel_rfl) (by kernel_rfl) (fun _ _ _ h => h) (Or.inl ⟨by rfl, ?_⟩) (by assumption) ?_
          rotate_left
          · (intro w' hS'; go_simp; try with_reducible rfl)
          try simp only [Act.put, List.setIfInBounds_toArray, List.set_cons_zero, List.set_cons_succ, List.getElem_toArray, List.getElem_cons_zero, List.getElem_cons_succ]
          refine wpAnyH_take (i := 16) (v := ?_) rfl (by kernel_rfl) (by kernel_rfl) (by kernel_rfl) (fun _ _ _ h => h) (Or.inl ⟨by rfl, ?_⟩) (by assumption) ?_
          rotate_left
          · (intro w' hS'; go_simp; try with_reducible rfl)
          try simp only [Act.put, List.setIfInBounds_toArray, List.set_cons_zero, List.set_cons_succ, List.getElem_toArray, List.getElem_cons_zero, List.getElem_cons_succ]
          refine wpAnyH_take (i := 17) (v := ?_) rfl (by kernel_rfl) (by kernel_rfl) (by kernel_rfl) (fun _ _ _ h => h) (Or.inl ⟨by rfl, ?_⟩) (by assumption) ?_
          rotate_left
          · (intro w' hS'; go_simp; try with_reducible rfl)
          try simp only [Act.put, List.setIfInBounds_toArray, List.set_cons_zero, List.set_cons_succ, List.getElem_toArray, List.getElem_cons_zero, List.getElem_cons_succ]
          refine wpAnyH_take (i := 18) (v := ?_) rfl (by kernel_rfl) (by kernel_rfl) (by kernel_rfl) (fun _ _ _ h => h) (Or.inl ⟨by rfl, ?_⟩) (by assumption) ?_
          rotate_left
          · (intro w' hS'; go_simp; try with_reducible rfl)
          try simp only [Act.put, List.setIfInBounds_toArray, List.set_cons_zero, List.set_cons_succ, List.getElem_toArray, List.getElem_cons_zero, List.getElem_cons_succ]
          refine wpAnyH_ready (rs := [19]) (by kernel_rfl) (by simp) ?_
          refine AllReadyH.cons rfl (fun K hK => ?_) AllReadyH.nil
          go_simp
          refine hK.out _ _ (by go_keep) (fun hHeld3 => ?_)
          clear hK K
          try simp only [Act.put, List.setIfInBounds_toArray, List.set_cons_zero, List.set_cons_succ, List.getElem_toArray, List.getElem_cons_zero, List.getElem_cons_succ]
          refine wpAnyH_take (i := 20) (v := ?_) rfl (by kernel_rfl) (by kernel_rfl) (by kernel_rfl) (fun _ _ _ h => h) (Or.inl ⟨by rfl, ?_⟩) (by assumption) ?_
          rotate_left
          · (intro w' hS'; go_simp; try with_reducible rfl)
          try simp only [Act.put, List.setIfInBounds_toArray, List.set_cons_zero, List.set_cons_succ, List.getElem_toArray, List.getElem_cons_zero, List.getElem_cons_succ]
          refine wpAnyH_done (by kernel_rfl) ?_ _
          have hE := ((hF4.setCell ⟨w.heap.size + 1, 0, none⟩ (.bool r) (.inl (by simp))).setCell ⟨w.heap.size + 1, 1, none⟩ (.slice A n cv) (.inl (by simp))).setCell ⟨w.heap.size + 1, 2, none⟩ (.int .i64 sc) (.inl (by simp))
          have hne := hR3.ne_block ((hF3.block (w.heap.size + 1) hlres (fun x => x)).trans hres) (by decide)
          have hS : Fr (· = w.heap.size + 1) w3 (((w3.setCell ⟨w.heap.size + 1, 0, none⟩ (.bool r)).setCell ⟨w.heap.size + 1, 1, none⟩ (.slice A n cv)).setCell ⟨w.heap.size + 1, 2, none⟩ (.int .i64 sc)) := ((Fr.set _ _ _ _).trans' (Fr.set _ _ _ _)).trans' (Fr.set _ _ _ _)
          have hR4 := hR3.fr hS (fun k hk e => hne (by rw [hk, e]))
          clear hF4 hS hne hR3 hHeld hHeld2 hHeld3
          go_wp2
          exact bodyPost_ret (v := .tuple #[.agg #[.bool r, .slice A n cv, .int .i64 sc], .bool true]) (by simp [results, Tryz.results4, go_sem, z0, z1, z2]) rfl ⟨_, n, F, by rw [hsc.out, hres0.out, hre.out], hR4, hDG.out, hE⟩
        · have e2 : decide (0 ≤ s) = true := decide_eq_true hs0
          have e3 : decide (s ≤ 19) = false := decide_eq_false hs19
          have hres0 := Lib.hid (show (decide (c < 10000000000000000000) && decide (0 ≤ s) && decide (s ≤ 19)) = false by simp [hs19])
          clear hs0 hs19
          refine wp_region_held_drew (S := (fun w' => w'.cell? ⟨w.heap.size, 0, none⟩ = some (.bool neg) ∧ w'.cell? ⟨w.heap.size, 1, none⟩ = some (.int .u64 c) ∧ w'.cell? ⟨w.heap.size, 2, none⟩ = some (.int .i64 s) ∧ w'.cell? ⟨q, 0, none⟩ = some (.bool r) ∧ w'.cell? ⟨q, 1, none⟩ = some (.slice A n cv))) (by kernel_rfl) ⟨x0, x1, x2, x3, x4⟩ (fun hHeld => ?_)
          refine wpAnyH_take (i := 0) (v := ?_) rfl (by kernel_rfl) (by kernel_rfl) (by kernel_rfl) (fun _ _ _ h => h) (Or.inl ⟨by rfl, ?_⟩) (by assumption) ?_
          rotate_left
          · (intro w' hS'; go_simp; try with_reducible rfl)
          try simp only [Act.put, List.setIfInBounds_toArray, List.set_cons_zero, List.set_cons_succ, List.getElem_toArray, List.getElem_cons_zero]
          refine wpAnyH_take (i := 1) (v := ?_) rfl (by kernel_rfl) (by kernel_rfl) (by kernel_rfl) (fun _ _ _ h => h) (Or.inl ⟨by rfl, ?_⟩) (by assumption) ?_
          rotate_left
          · (intro w' hS'; go_simp; try with_reducible rfl)
          try simp only [Act.put, List.setIfInBounds_toArray, List.set_cons_zero, List.set_cons_succ, List.getElem_toArray, List.getElem_cons_zero, List.getElem_cons_succ]
          refine wpAnyH_take (i := 2) (v := ?_) rfl (by kernel_rfl) (by kernel_rfl) (by kernel_rfl) (fun _ _ _ h => h) (Or.inl ⟨by rfl, ?_⟩) (by assumption) ?_
          rotate_left
          · (intro w' hS'; go_simp; try with_reducible rfl)
          try simp only [Act.put, List.setIfInBounds_toArray, List.set_cons_zero, List.set_cons_succ, List.getElem_toArray, List.getElem_cons_zero, List.getElem_cons_succ]
          refine wpAnyH_take (i := 3) (v := ?_) rfl (by kernel_rfl) (by kernel_rfl) (by kernel_rfl) (fun _ _ _ h => h) (Or.inl ⟨by rfl, ?_⟩) (by assumption) ?_
          rotate_left
          · (intro w' hS'; go_simp; try with_reducible rfl)
          try simp only [Act.put, List.setIfInBounds_toArray, List.set_cons_zero, List.set_cons_succ, List.getElem_toArray, List.getElem_cons_zero, List.getElem_cons_succ]
          refine wpAnyH_take (i := 4) (v := ?_) rfl (by kernel_rfl) (by kernel_rfl) (by kernel_rfl) (fun _ _ _ h => h) (Or.inl ⟨by rfl, ?_⟩) (by assumption) ?_
          rotate_left
          · (intro w' hS'; go_simp; try with_reducible rfl)
          try simp only [Act.put, List.setIfInBounds_toArray, List.set_cons_zero, List.set_cons_succ, List.getElem_toArray, List.getElem_cons_zero, List.getElem_cons_succ]
          refine wpAnyH_take (i := 5) (v := ?_) rfl (by kernel_rfl) (by kernel_rfl) (by kernel_rfl) (fun _ _ _ h => h) (Or.inl ⟨by rfl, ?_⟩) (by assumption) ?_
          rotate_left
          · (intro w' hS'; go_simp; try with_reducible rfl)
          try simp only [Act.put, List.setIfInBounds_toArray, List.set_cons_zero, List.set_cons_succ, List.getElem_toArray, List.getElem_cons_zero, List.getElem_cons_succ]
          refine wpAnyH_take (i := 6) (v := ?_) rfl (by kernel_rfl) (by kernel_rfl) (by kernel_rfl) (fun _ _ _ h => h) (Or.inl ⟨by rfl, ?_⟩) (by assumption) ?_
          rotate_left
          · (intro w' hS'; go_simp; try with_reducible rfl)
          try simp only [Act.put, List.setIfInBounds_toArray, List.set_cons_zero, List.set_cons_succ, List.getElem_toArray, List.getElem_cons_zero, List.getElem_cons_succ]
          refine wpAnyH_ready (rs := [7]) (by kernel_rfl) (by simp) ?_
          refine AllReadyH.cons rfl (fun K hK => ?_) AllReadyH.nil
          go_simp
          refine (sp_Digits c n _ F U.drew (hUR.of_eq fun _ _ => rfl) hDG.out hn3).mono ?_
          rintro e w3 ⟨d, rfl, hd, hf⟩
          have hF3 : Fr NoS U w3 := (((Fr.refl NoS U).drew).trans' hf)
          have y0 := (hF3.cell (p := ⟨w.heap.size, 0, none⟩) hbU (fun x => x)).trans x0
          have y1 := (hF3.cell (p := ⟨w.heap.size, 1, none⟩) hbU (fun x => x)).trans x1
          have y2 := (hF3.cell (p := ⟨w.heap.size, 2, none⟩) hbU (fun x => x)).trans x2
          have y3 := (hF3.cell (p := ⟨q, 0, none⟩) hqU (fun x => x)).trans x3
          have y4 := (hF3.cell (p := ⟨q, 1, none⟩) hqU (fun x => x)).trans x4
          have e1 : decide (d ≤ 19) = true := decide_eq_true (hd.le19.2 hc19)
          have e1z : decide ((d : Int) ≤ 19) = true := decide_eq_true (Int.ofNat_le.2 (hd.le19.2 hc19))
          have hres3 := (hf.block (w.heap.size + 1) hlres (fun x => x)).trans hres
          obtain ⟨z0, z1, z2, g0, g1, g2⟩ := cells3 hres3
          have hR3 := hUR.fr hF3 (fun _ _ x => x)
          have hF4 := hUF.trans' hF3
          refine hK.out _ _ ⟨y0, y1, y2, y3, y4⟩ (fun hHeld2 => ?_)
          clear hK K hf hres3
          try simp only [Act.put, List.setIfInBounds_toArray, List.set_cons_zero, List.set_cons_succ, List.getElem_toArray, List.getElem_cons_zero, List.getElem_cons_succ]
          refine wpAnyH_take (i := 8) (v := ?_) rfl (by kernel_rfl) (by kernel_rfl) (by kernel_rfl) (fun _ _ _ h => h) (Or.inl ⟨by rfl, ?_⟩) (by assumption) ?_
          rotate_left
          · (intro w' hS'; go_simp; try with_reducible rfl)
          try simp only [Act.put, List.setIfInBounds_toArray, List.set_cons_zero, List.set_cons_succ, List.getElem_toArray, List.getElem_cons_zero, List.getElem_cons_succ]
          refine wpAnyH_take (i := 9) (v := ?_) rfl (by kernel_rfl) (by kernel_rfl) (by kernel_rfl) (fun _ _ _ h => h) (Or.inl ⟨by rfl, ?_⟩) (by assumption) ?_
          rotate_left
          · (intro w' hS'; go_simp; try with_reducible rfl)
          try simp only [Act.put, List.setIfInBounds_toArray, List.set_cons_zero, List.set_cons_succ, List.getElem_toArray, List.getElem_cons_zero, List.getElem_cons_succ]
          refine wpAnyH_take (i := 10) (v := ?_) rfl (by kernel_rfl) (by kernel_rfl) (by kernel_rfl) (fun _ _ _ h => h) (Or.inl ⟨by rfl, ?_⟩) (by assumption) ?_
          rotate_left
          · (intro w' hS'; go_simp; try with_reducible rfl)
          try simp only [Act.put, List.setIfInBounds_toArray, List.set_cons_zero, List.set_cons_succ, List.getElem_toArray, List.getElem_cons_zero, List.getElem_cons_succ]
          refine wpAnyH_take (i := 11) (v := ?_) rfl (by kernel_rfl) (by kernel_rfl) (by kernel_rfl) (fun _ _ _ h => h) (Or.inl ⟨by rfl, ?_⟩) (by assumption) ?_
          rotate_left
          · (intro w' hS'; go_simp; try with_reducible rfl)
          try simp only [Act.put, List.setIfInBounds_toArray, List.set_cons_zero, List.set_cons_succ, List.getElem_toArray, List.getElem_cons_zero, List.getElem_cons_succ]
          refine wpAnyH_take (i := 12) (v := ?_) rfl (by kernel_rfl) (by kernel_rfl) (by kernel_rfl) (fun _ _ _ h => h) (Or.inl ⟨by rfl, ?_⟩) (by assumption) ?_
          rotate_left
          · (intro w' hS'; go_simp; try with_reducible rfl)
          try simp only [Act.put, List.setIfInBounds_toArray, List.set_cons_zero, List.set_cons_succ, List.getElem_toArray, List.getElem_cons_zero, List.getElem_cons_succ]
          refine wpAnyH_take (i := 13) (v := ?_) rfl (by kernel_rfl) (by kernel_rfl) (by kernel_rfl) (fun _ _ _ h => h) (Or.inl ⟨by rfl, ?_⟩) (by assumption) ?_
          rotate_left
          · (intro w' hS'; go_simp; try with_reducible rfl)
          try simp only [Act.put, List.setIfInBounds_toArray, List.set_cons_zero, List.set_cons_succ, List.getElem_toArray, List.getElem_cons_zero, List.getElem_cons_succ]
          refine wpAnyH_take (i := 14) (v := ?_) rfl (by kernel_rfl) (by kernel_rfl) (by kernel_rfl) (fun _ _ _ h => h) (Or.inl ⟨by rfl, ?_⟩) (by assumption) ?_
          rotate_left
          · (intro w' hS'; go_simp; try with_reducible rfl)
          try simp only [Act.put, List.setIfInBounds_toArray, List.set_cons_zero, List.set_cons_succ, List.getElem_toArray, List.getElem_cons_zero, List.getElem_cons_succ]
          refine wpAnyH_take (i := 15) (v := ?_) rfl (by kernel_rfl) (by kernel_rfl) (by kernel_rfl) (fun _ _ _ h => h) (Or.inl ⟨by rfl, ?_⟩) (by assumption) ?_
          rotate_left
          · (intro w' hS'; go_simp; try with_reducible rfl)
          try simp only [Act.put, List.setIfInBounds_toArray, List.set_cons_zero, List.set_cons_succ, List.getElem_toArray, List.getElem_cons_zero, List.getElem_cons_succ]
          refine wpAnyH_take (i := 16) (v := ?_) rfl (by kernel_rfl) (by kernel_rfl) (by kernel_rfl) (fun _ _ _ h => h) (Or.inl ⟨by rfl, ?_⟩) (by assumption) ?_
          rotate_left
          · (intro w' hS'; go_simp; try with_reducible rfl)
          try simp only [Act.put, List.setIfInBounds_toArray, List.set_cons_zero, List.set_cons_succ, List.getElem_toArray, List.getElem_cons_zero, List.getElem_cons_succ]
          refine wpAnyH_take (i := 17) (v := ?_) rfl (by kernel_rfl) (by kernel_rfl) (by kernel_rfl) (fun _ _ _ h => h) (Or.inl ⟨by rfl, ?_⟩) (by assumption) ?_
          rotate_left
          · (intro w' hS'; go_simp; try with_reducible rfl)
          try simp only [Act.put, List.setIfInBounds_toArray, List.set_cons_zero, List.set_cons_succ, List.getElem_toArray, List.getElem_cons_zero, List.getElem_cons_succ]
          refine wpAnyH_take (i := 18) (v := ?_) rfl (by kernel_rfl) (by kernel_rfl) (by kernel_rfl) (fun _ _ _ h => h) (Or.inl ⟨by rfl, ?_⟩) (by assumption) ?_
          rotate_left
          · (intro w' hS'; go_simp; try with_reducible rfl)
          try simp only [Act.put, List.setIfInBounds_toArray, List.set_cons_zero, List.set_cons_succ, List.getElem_toArray, List.getElem_cons_zero, List.getElem_cons_succ]
          refine wpAnyH_ready (rs := [19]) (by kernel_rfl) (by simp) ?_
          refine AllReadyH.cons rfl (fun K hK => ?_) AllReadyH.nil
          go_simp
          refine hK.out _ _ (by go_keep) (fun hHeld3 => ?_)
          clear hK K
          try simp only [Act.put, List.setIfInBounds_toArray, List.set_cons_zero, List.set_cons_succ, List.getElem_toArray, List.getElem_cons_zero, List.getElem_cons_succ]
          refine wpAnyH_take (i := 20) (v := ?_) rfl (by kernel_rfl) (by kernel_rfl) (by kernel_rfl) (fun _ _ _ h => h) (Or.inl ⟨by rfl, ?_⟩) (by assumption) ?_
          rotate_left
          · (intro w' hS'; go_simp; try with_reducible rfl)
          try simp only [Act.put, List.setIfInBounds_toArray, List.set_cons_zero, List.set_cons_succ, List.getElem_toArray, List.getElem_cons_zero, List.getElem_cons_succ]
          refine wpAnyH_done (by kernel_rfl) ?_ _
          have hE := ((hF4.setCell ⟨w.heap.size + 1, 0, none⟩ (.bool r) (.inl (by simp))).setCell ⟨w.heap.size + 1, 1, none⟩ (.slice A n cv) (.inl (by simp))).setCell ⟨w.heap.size + 1, 2, none⟩ (.int .i64 sc) (.inl (by simp))
          have hne := hR3.ne_block ((hF3.block (w.heap.size + 1) hlres (fun x => x)).trans hres) (by decide)
          have hS : Fr (· = w.heap.size + 1) w3 (((w3.setCell ⟨w.heap.size + 1, 0, none⟩ (.bool r)).setCell ⟨w.heap.size + 1, 1, none⟩ (.slice A n cv)).setCell ⟨w.heap.size + 1, 2, none⟩ (.int .i64 sc)) := ((Fr.set _ _ _ _).trans' (Fr.set _ _ _ _)).trans' (Fr.set _ _ _ _)
          have hR4 := hR3.fr hS (fun k hk e => hne (by rw [hk, e]))
          clear hF4 hS hne hR3 hHeld hHeld2 hHeld3
          go_wp2
          exact bodyPost_ret (v := .tuple #[.agg #[.bool r, .slice A n cv, .int .i64 sc], .bool false]) (by simp [results, Tryz.results4, go_sem, z0, z1, z2]) rfl ⟨_, n, F, by rw [hsc.out, hres0.out, hre.out], hR4, hDG.out, hE⟩
      · have e2 : decide (0 ≤ s) = false := decide_eq_false hs0
        have hres0 := Lib.hid (show (decide (c < 10000000000000000000) && decide (0 ≤ s) && decide (s ≤ 19)) = false by simp [hs0])
        clear hs0
        refine wp_region_held_drew (S := (fun w' => w'.cell? ⟨w.heap.size, 0, none⟩ = some (.bool neg) ∧ w'.cell? ⟨w.heap.size, 1, none⟩ = some (.int .u64 c) ∧ w'.cell? ⟨w.heap.size, 2, none⟩ = some (.int .i64 s) ∧ w'.cell? ⟨q, 0, none⟩ = some (.bool r) ∧ w'.cell? ⟨q, 1, none⟩ = some (.slice A n cv))) (by kernel_rfl) ⟨x0, x1, x2, x3, x4⟩ (fun hHeld => ?_)
        refine wpAnyH_take (i := 0) (v := ?_) rfl (by kernel_rfl) (by kernel_rfl) (by kernel_rfl) (fun _ _ _ h => h) (Or.inl ⟨by rfl, ?_⟩) (by assumption) ?_
        rotate_left
        · (intro w' hS'; go_simp; try with_reducible rfl)
        try simp only [Act.put, List.setIfInBounds_toArray, List.set_cons_zero, List.set_cons_succ, List.getElem_toArray, List.getElem_cons_zero]
        refine wpAnyH_take (i := 1) (v := ?_) rfl (by kernel_rfl) (by kernel_rfl) (by kernel_rfl) (fun _ _ _ h => h) (Or.inl ⟨by rfl, ?_⟩) (by assumption) ?_
        rotate_left
        · (intro w' hS'; go_simp; try with_reducible rfl)
        try simp only [Act.put, List.setIfInBounds_toArray, List.set_cons_zero, List.set_cons_succ, List.getElem_toArray, List.getElem_cons_zero, List.getElem_cons_succ]
        refine wpAnyH_take (i := 2) (v := ?_) rfl (by kernel_rfl) (by kernel_rfl) (by kernel_rfl) (fun _ _ _ h => h) (Or.inl ⟨by rfl, ?_⟩) (by assumption) ?_
        rotate_left
        · (intro w' hS'; go_simp; try with_reducible rfl)
        try simp only [Act.put, List.setIfInBounds_toArray, List.set_cons_zero, List.set_cons_succ, List.getElem_toArray, List.getElem_cons_zero, List.getElem_cons_succ]
        refine wpAnyH_take (i := 3) (v := ?_) rfl (by kernel_rfl) (by kernel_rfl) (by kernel_rfl) (fun _ _ _ h => h) (Or.inl ⟨by rfl, ?_⟩) (by assumption) ?_
        rotate_left
        · (intro w' hS'; go_simp; try with_reducible rfl)
        try simp only [Act.put, List.setIfInBounds_toArray, List.set_cons_zero, List.set_cons_succ, List.getElem_toArray, List.getElem_cons_zero, List.getElem_cons_succ]
        refine wpAnyH_take (i := 4) (v := ?_) rfl (by kernel_rfl) (by kernel_rfl) (by kernel_rfl) (fun _ _ _ h => h) (Or.inl ⟨by rfl, ?_⟩) (by assumption) ?_
        rotate_left
        · (intro w' hS'; go_simp; try with_reducible rfl)
        try simp only [Act.put, List.setIfInBounds_toArray, List.set_cons_zero, List.set_cons_succ, List.getElem_toArray, List.getElem_cons_zero, List.getElem_cons_succ]
        refine wpAnyH_take (i := 5) (v := ?_) rfl (by kernel_rfl) (by kernel_rfl) (by kernel_rfl) (fun _ _ _ h => h) (Or.inl ⟨by rfl, ?_⟩) (by assumption) ?_
        rotate_left
        · (intro w' hS'; go_simp; try with_reducible rfl)
        try simp only [Act.put, List.setIfInBounds_toArray, List.set_cons_zero, List.set_cons_succ, List.getElem_toArray, List.getElem_cons_zero, List.getElem_cons_succ]
        refine wpAnyH_take (i := 6) (v := ?_) rfl (by kernel_rfl) (by kernel_rfl) (by kernel_rfl) (fun _ _ _ h => h) (Or.inl ⟨by rfl, ?_⟩) (by assumption) ?_
        rotate_left
        · (intro w' hS'; go_simp; try with_reducible rfl)
        try simp only [Act.put, List.setIfInBounds_toArray, List.set_cons_zero, List.set_cons_succ, List.getElem_toArray, List.getElem_cons_zero, List.getElem_cons_succ]
        refine wpAnyH_ready (rs := [7]) (by kernel_rfl) (by simp) ?_
        refine AllReadyH.cons rfl (fun K hK => ?_) AllReadyH.nil
        go_simp
        refine (sp_Digits c n _ F U.drew (hUR.of_eq fun _ _ => rfl) hDG.out hn3).mono ?_
        rintro e w3 ⟨d, rfl, hd, hf⟩
        have hF3 : Fr NoS U w3 := (((Fr.refl NoS U).drew).trans' hf)
        have y0 := (hF3.cell (p := ⟨w.heap.size, 0, none⟩) hbU (fun x => x)).trans x0
        have y1 := (hF3.cell (p := ⟨w.heap.size, 1, none⟩) hbU (fun x => x)).trans x1
        have y2 := (hF3.cell (p := ⟨w.heap.size, 2, none⟩) hbU (fun x => x)).trans x2
        have y3 := (hF3.cell (p := ⟨q, 0, none⟩) hqU (fun x => x)).trans x3
        have y4 := (hF3.cell (p := ⟨q, 1, none⟩) hqU (fun x => x)).trans x4
        have e1 : decide (d ≤ 19) = true := decide_eq_true (hd.le19.2 hc19)
        have e1z : decide ((d : Int) ≤ 19) = true := decide_eq_true (Int.ofNat_le.2 (hd.le19.2 hc19))
        have hres3 := (hf.block (w.heap.size + 1) hlres (fun x => x)).trans hres
        obtain ⟨z0, z1, z2, g0, g1, g2⟩ := cells3 hres3
        have hR3 := hUR.fr hF3 (fun _ _ x => x)
        have hF4 := hUF.trans' hF3
        refine hK.out _ _ ⟨y0, y1, y2, y3, y4⟩ (fun hHeld2 => ?_)
        clear hK K hf hres3
        try simp only [Act.put, List.setIfInBounds_toArray, List.set_cons_zero, List.set_cons_succ, List.getElem_toArray, List.getElem_cons_zero, List.getElem_cons_succ]
        refine wpAnyH_take (i := 8) (v := ?_) rfl (by kernel_rfl) (by kernel_rfl) (by kernel_rfl) (fun _ _ _ h => h) (Or.inl ⟨by rfl, ?_⟩) (by assumption) ?_
        rotate_left
        · (intro w' hS'; go_simp; try with_reducible rfl)
        try simp only [Act.put, List.setIfInBounds_toArray, List.set_cons_zero, List.set_cons_succ, List.getElem_toArray, List.getElem_cons_zero, List.getElem_cons_succ]
        refine wpAnyH_take (i := 9) (v := ?_) rfl (by kernel_rfl) (by kernel_rfl) (by kernel_rfl) (fun _ _ _ h => h) (Or.inl ⟨by rfl, ?_⟩) (by assumption) ?_
        rotate_left
        · (intro w' hS'; go_simp; try with_reducible rfl)
        try simp only [Act.put, List.setIfInBounds_toArray, List.set_cons_zero, List.set_cons_succ, List.getElem_toArray, List.getElem_cons_zero, List.getElem_cons_succ]
        refine wpAnyH_take (i := 10) (v := ?_) rfl (by kernel_rfl) (by kernel_rfl) (by kernel_rfl) (fun _ _ _ h => h) (Or.inl ⟨by rfl, ?_⟩) (by assumption) ?_
        rotate_left
        · (intro w' hS'; go_simp; try with_reducible rfl)
        try simp only [Act.put, List.setIfInBounds_toArray, List.set_cons_zero, List.set_cons_succ, List.getElem_toArray, List.getElem_cons_zero, List.getElem_cons_succ]
        refine wpAnyH_take (i := 11) (v := ?_) rfl (by kernel_rfl) (by kernel_rfl) (by kernel_rfl) (fun _ _ _ h => h) (Or.inl ⟨by rfl, ?_⟩) (by assumption) ?_
        rotate_left
        · (intro w' hS'; go_simp; try with_reducible rfl)
        try simp only [Act.put, List.setIfInBounds_toArray, List.set_cons_zero, List.set_cons_succ, List.getElem_toArray, List.getElem_cons_zero, List.getElem_cons_succ]
        refine wpAnyH_take (i := 12) (v := ?_) rfl (by kernel_rfl) (by kernel_rfl) (by kernel_rfl) (fun _ _ _ h => h) (Or.inl ⟨by rfl, ?_⟩) (by assumption) ?_
        rotate_left
        · (intro w' hS'; go_simp; try with_reducible rfl)
        try simp only [Act.put, List.setIfInBounds_toArray, List.set_cons_zero, List.set_cons_succ, List.getElem_toArray, List.getElem_cons_zero, List.getElem_cons_succ]
        refine wpAnyH_take (i := 13) (v := ?_) rfl (by kernel_rfl) (by kernel_rfl) (by kernel_rfl) (fun _ _ _ h => h) (Or.inl ⟨by rfl, ?_⟩) (by assumption) ?_
        rotate_left
        · (intro w' hS'; go_simp; try with_reducible rfl)
        try simp only [Act.put, List.setIfInBounds_toArray, List.set_cons_zero, List.set_cons_succ, List.getElem_toArray, List.getElem_cons_zero, List.getElem_cons_succ]
        refine wpAnyH_take (i := 14) (v := ?_) rfl (by kernel_rfl) (by kernel_rfl) (by kernel_rfl) (fun _ _ _ h => h) (Or.inl ⟨by rfl, ?_⟩) (by assumption) ?_
        rotate_left
        · (intro w' hS'; go_simp; try with_reducible rfl)
        try simp only [Act.put, List.setIfInBounds_toArray, List.set_cons_zero, List.set_cons_succ, List.getElem_toArray, List.getElem_cons_zero, List.getElem_cons_succ]
        refine wpAnyH_take (i := 15) (v := undef) rfl (by kernel_rfl) (by kernel_rfl) (by kernel_rfl) (fun _ _ _ h => h) (Or.inr ⟨by rfl, rfl⟩) (by assumption) ?_
        try simp only [Act.put, List.setIfInBounds_toArray, List.set_cons_zero, List.set_cons_succ, List.getElem_toArray, List.getElem_cons_zero, List.getElem_cons_succ]
        refine wpAnyH_take (i := 16) (v := undef) rfl (by kernel_rfl) (by kernel_rfl) (by kernel_rfl) (fun _ _ _ h => h) (Or.inr ⟨by rfl, rfl⟩) (by assumption) ?_
        try simp only [Act.put, List.setIfInBounds_toArray, List.set_cons_zero, List.set_cons_succ, List.getElem_toArray, List.getElem_cons_zero, List.getElem_cons_succ]
        refine wpAnyH_take (i := 17) (v := undef) rfl (by kernel_rfl) (by kernel_rfl) (by kernel_rfl) (fun _ _ _ h => h) (Or.inr ⟨by rfl, rfl⟩) (by assumption) ?_
        try simp only [Act.put, List.setIfInBounds_toArray, List.set_cons_zero, List.set_cons_succ, List.getElem_toArray, List.getElem_cons_zero, List.getElem_cons_succ]
        refine wpAnyH_take (i := 18) (v := ?_) rfl (by kernel_rfl) (by kernel_rfl) (by kernel_rfl) (fun _ _ _ h => h) (Or.inl ⟨by rfl, ?_⟩) (by assumption) ?_
        rotate_left
        · (intro w' hS'; go_simp; try with_reducible rfl)
        try simp only [Act.put, List.setIfInBounds_toArray, List.set_cons_zero, List.set_cons_succ, List.getElem_toArray, List.getElem_cons_zero, List.getElem_cons_succ]
        refine wpAnyH_ready (rs := [19]) (by kernel_rfl) (by simp) ?_
        refine AllReadyH.cons rfl (fun K hK => ?_) AllReadyH.nil
        go_simp
        refine hK.out _ _ (by go_keep) (fun hHeld3 => ?_)
        clear hK K
        try simp only [Act.put, List.setIfInBounds_toArray, List.set_cons_zero, List.set_cons_succ, List.getElem_toArray, List.getElem_cons_zero, List.getElem_cons_succ]
        refine wpAnyH_take (i := 20) (v := ?_) rfl (by kernel_rfl) (by kernel_rfl) (by kernel_rfl) (fun _ _ _ h => h) (Or.inl ⟨by rfl, ?_⟩) (by assumption) ?_
        rotate_left
        · (intro w' hS'; go_simp; try with_reducible rfl)
        try simp only [Act.put, List.setIfInBounds_toArray, List.set_cons_zero, List.set_cons_succ, List.getElem_toArray, List.getElem_cons_zero, List.getElem_cons_succ]
        refine wpAnyH_done (by kernel_rfl) ?_ _
        have hE := ((hF4.setCell ⟨w.heap.size + 1, 0, none⟩ (.bool r) (.inl (by simp))).setCell ⟨w.heap.size + 1, 1, none⟩ (.slice A n cv) (.inl (by simp))).setCell ⟨w.heap.size + 1, 2, none⟩ (.int .i64 sc) (.inl (by simp))
        have hne := hR3.ne_block ((hF3.block (w.heap.size + 1) hlres (fun x => x)).trans hres) (by decide)
        have hS : Fr (· = w.heap.size + 1) w3 (((w3.setCell ⟨w.heap.size + 1, 0, none⟩ (.bool r)).setCell ⟨w.heap.size + 1, 1, none⟩ (.slice A n cv)).setCell ⟨w.heap.size + 1, 2, none⟩ (.int .i64 sc)) := ((Fr.set _ _ _ _).trans' (Fr.set _ _ _ _)).trans' (Fr.set _ _ _ _)
        have hR4 := hR3.fr hS (fun k hk e => hne (by rw [hk, e]))
        clear hF4 hS hne hR3 hHeld hHeld2 hHeld3
        go_wp2
        exact bodyPost_ret (v := .tuple #[.agg #[.bool r, .slice A n cv, .int .i64 sc], .bool false]) (by simp [results, Tryz.results4, go_sem, z0, z1, z2]) rfl ⟨_, n, F, by rw [hsc.out, hres0.out, hre.out], hR4, hDG.out, hE⟩
    · have hres0 := Lib.hid (show (decide (c < 10000000000000000000) && decide (0 ≤ s) && decide (s ≤ 19)) = false by simp [hc19])
      refine wp_region_held_drew (S := (fun w' => w'.cell? ⟨w.heap.size, 0, none⟩ = some (.bool neg) ∧ w'.cell? ⟨w.heap.size, 1, none⟩ = some (.int .u64 c) ∧ w'.cell? ⟨w.heap.size, 2, none⟩ = some (.int .i64 s) ∧ w'.cell? ⟨q, 0, none⟩ = some (.bool r) ∧ w'.cell? ⟨q, 1, none⟩ = some (.slice A n cv))) (by kernel_rfl) ⟨x0, x1, x2, x3, x4⟩ (fun hHeld => ?_)
      refine wpAnyH_take (i := 0) (v := ?_) rfl (by kernel_rfl) (by kernel_rfl) (by kernel_rfl) (fun _ _ _ h => h) (Or.inl ⟨by rfl, ?_⟩) (by assumption) ?_
      rotate_left
      · (intro w' hS'; go_simp; try with_reducible rfl)
      try simp only [Act.put, List.setIfInBounds_toArray, List.set_cons_zero, List.set_cons_succ, List.getElem_toArray, List.getElem_cons_zero]
      refine wpAnyH_take (i := 1) (v := ?_) rfl (by kernel_rfl) (by kernel_rfl) (by kernel_rfl) (fun _ _ _ h => h) (Or.inl ⟨by rfl, ?_⟩) (by assumption) ?_
      rotate_left
      · (intro w' hS'; go_simp; try with_reducible rfl)
      try simp only [Act.put, List.setIfInBounds_toArray, List.set_cons_zero, List.set_cons_succ, List.getElem_toArray, List.getElem_cons_zero, List.getElem_cons_succ]
      refine wpAnyH_take (i := 2) (v := ?_) rfl (by kernel_rfl) (by kernel_rfl) (by kernel_rfl) (fun _ _ _ h => h) (Or.inl ⟨by rfl, ?_⟩) (by assumption) ?_
      rotate_left
      · (intro w' hS'; go_simp; try with_reducible rfl)
      try simp only [Act.put, List.setIfInBounds_toArray, List.set_cons_zero, List.set_cons_succ, List.getElem_toArray, List.getElem_cons_zero, List.getElem_cons_succ]
      refine wpAnyH_take (i := 3) (v := ?_) rfl (by kernel_rfl) (by kernel_rfl) (by kernel_rfl) (fun _ _ _ h => h) (Or.inl ⟨by rfl, ?_⟩) (by assumption) ?_
      rotate_left
      · (intro w' hS'; go_simp; try with_reducible rfl)
      try simp only [Act.put, List.setIfInBounds_toArray, List.set_cons_zero, List.set_cons_succ, List.getElem_toArray, List.getElem_cons_zero, List.getElem_cons_succ]
      refine wpAnyH_take (i := 4) (v := ?_) rfl (by kernel_rfl) (by kernel_rfl) (by kernel_rfl) (fun _ _ _ h => h) (Or.inl ⟨by rfl, ?_⟩) (by assumption) ?_
      rotate_left
      · (intro w' hS'; go_simp; try with_reducible rfl)
      try simp only [Act.put, List.setIfInBounds_toArray, List.set_cons_zero, List.set_cons_succ, List.getElem_toArray, List.getElem_cons_zero, List.getElem_cons_succ]
      refine wpAnyH_take (i := 5) (v := ?_) rfl (by kernel_rfl) (by kernel_rfl) (by kernel_rfl) (fun _ _ _ h => h) (Or.inl ⟨by rfl, ?_⟩) (by assumption) ?_
      rotate_left
      · (intro w' hS'; go_simp; try with_reducible rfl)
      try simp only [Act.put, List.setIfInBounds_toArray, List.set_cons_zero, List.set_cons_succ, List.getElem_toArray, List.getElem_cons_zero, List.getElem_cons_succ]
      refine wpAnyH_take (i := 6) (v := ?_) rfl (by kernel_rfl) (by kernel_rfl) (by kernel_rfl) (fun _ _ _ h => h) (Or.inl ⟨by rfl, ?_⟩) (by assumption) ?_
      rotate_left
      · (intro w' hS'; go_simp; try with_reducible rfl)
      try simp only [Act.put, List.setIfInBounds_toArray, List.set_cons_zero, List.set_cons_succ, List.getElem_toArray, List.getElem_cons_zero, List.getElem_cons_succ]
      refine wpAnyH_ready (rs := [7]) (by kernel_rfl) (by simp) ?_
      refine AllReadyH.cons rfl (fun K hK => ?_) AllReadyH.nil
      go_simp
      refine (sp_Digits c n _ F U.drew (hUR.of_eq fun _ _ => rfl) hDG.out hn3).mono ?_
      rintro e w3 ⟨d, rfl, hd, hf⟩
      have hF3 : Fr NoS U w3 := (((Fr.refl NoS U).drew).trans' hf)
      have y0 := (hF3.cell (p := ⟨w.heap.size, 0, none⟩) hbU (fun x => x)).trans x0
      have y1 := (hF3.cell (p := ⟨w.heap.size, 1, none⟩) hbU (fun x => x)).trans x1
      have y2 := (hF3.cell (p := ⟨w.heap.size, 2, none⟩) hbU (fun x => x)).trans x2
      have y3 := (hF3.cell (p := ⟨q, 0, none⟩) hqU (fun x => x)).trans x3
      have y4 := (hF3.cell (p := ⟨q, 1, none⟩) hqU (fun x => x)).trans x4
      have e1 : decide (d ≤ 19) = false := decide_eq_false (fun h => hc19 (hd.le19.1 h))
      have e1z : decide ((d : Int) ≤ 19) = false := decide_eq_false (fun h => hc19 (hd.le19.1 (by omega)))
      have hres3 := (hf.block (w.heap.size + 1) hlres (fun x => x)).trans hres
      obtain ⟨z0, z1, z2, g0, g1, g2⟩ := cells3 hres3
      have hR3 := hUR.fr hF3 (fun _ _ x => x)
      have hF4 := hUF.trans' hF3
      refine hK.out _ _ ⟨y0, y1, y2, y3, y4⟩ (fun hHeld2 => ?_)
      clear hK K hf hres3
      try simp only [Act.put, List.setIfInBounds_toArray, List.set_cons_zero, List.set_cons_succ, List.getElem_toArray, List.getElem_cons_zero, List.getElem_cons_succ]
      refine wpAnyH_take (i := 8) (v := ?_) rfl (by kernel_rfl) (by kernel_rfl) (by kernel_rfl) (fun _ _ _ h => h) (Or.inl ⟨by rfl, ?_⟩) (by assumption) ?_
      rotate_left
      · (intro w' hS'; go_simp; try with_reducible rfl)
      try simp only [Act.put, List.setIfInBounds_toArray, List.set_cons_zero, List.set_cons_succ, List.getElem_toArray, List.getElem_cons_zero, List.getElem_cons_succ]
      refine wpAnyH_take (i := 9) (v := ?_) rfl (by kernel_rfl) (by kernel_rfl) (by kernel_rfl) (fun _ _ _ h => h) (Or.inl ⟨by rfl, ?_⟩) (by assumption) ?_
      rotate_left
      · (intro w' hS'; go_simp; try with_reducible rfl)
      try simp only [Act.put, List.setIfInBounds_toArray, List.set_cons_zero, List.set_cons_succ, List.getElem_toArray, List.getElem_cons_zero, List.getElem_cons_succ]
      refine wpAnyH_take (i := 10) (v := undef) rfl (by kernel_rfl) (by kernel_rfl) (by kernel_rfl) (fun _ _ _ h => h) (Or.inr ⟨by rfl, rfl⟩) (by assumption) ?_
      try simp only [Act.put, List.setIfInBounds_toArray, List.set_cons_zero, List.set_cons_succ, List.getElem_toArray, List.getElem_cons_zero, List.getElem_cons_succ]
      refine wpAnyH_take (i := 11) (v := undef) rfl (by kernel_rfl) (by kernel_rfl) (by kernel_rfl) (fun _ _ _ h => h) (Or.inr ⟨by rfl, rfl⟩) (by assumption) ?_
      try simp only [Act.put, List.setIfInBounds_toArray, List.set_cons_zero, List.set_cons_succ, List.getElem_toArray, List.getElem_cons_zero, List.getElem_cons_succ]
      refine wpAnyH_take (i := 12) (v := undef) rfl (by kernel_rfl) (by kernel_rfl) (by kernel_rfl) (fun _ _ _ h => h) (Or.inr ⟨by rfl, rfl⟩) (by assumption) ?_
      try simp only [Act.put, List.setIfInBounds_toArray, List.set_cons_zero, List.set_cons_succ, List.getElem_toArray, List.getElem_cons_zero, List.getElem_cons_succ]
      refine wpAnyH_take (i := 13) (v := ?_) rfl (by kernel_rfl) (by kernel_rfl) (by kernel_rfl) (fun _ _ _ h => h) (Or.inl ⟨by rfl, ?_⟩) (by assumption) ?_
      rotate_left
      · (intro w' hS'; go_simp; try with_reducible rfl)
      try simp only [Act.put, List.setIfInBounds_toArray, List.set_cons_zero, List.set_cons_succ, List.getElem_toArray, List.getElem_cons_zero, List.getElem_cons_succ]
      refine wpAnyH_take (i := 14) (v := ?_) rfl (by kernel_rfl) (by kernel_rfl) (by kernel_rfl) (fun _ _ _ h => h) (Or.inl ⟨by rfl, ?_⟩) (by assumption) ?_
      rotate_left
      · (intro w' hS'; go_simp; try with_reducible rfl)
      try simp only [Act.put, List.setIfInBounds_toArray, List.set_cons_zero, List.set_cons_succ, List.getElem_toArray, List.getElem_cons_zero, List.getElem_cons_succ]
      refine wpAnyH_take (i := 15) (v := undef) rfl (by kernel_rfl) (by kernel_rfl) (by kernel_rfl) (fun _ _ _ h => h) (Or.inr ⟨by rfl, rfl⟩) (by assumption) ?_
      try simp only [Act.put, List.setIfInBounds_toArray, List.set_cons_zero, List.set_cons_succ, List.getElem_toArray, List.getElem_cons_zero, List.getElem_cons_succ]
      refine wpAnyH_take (i := 16) (v := undef) rfl (by kernel_rfl) (by kernel_rfl) (by kernel_rfl) (fun _ _ _ h => h) (Or.inr ⟨by rfl, rfl⟩) (by assumption) ?_
      try simp only [Act.put, List.setIfInBounds_toArray, List.set_cons_zero, List.set_cons_succ, List.getElem_toArray, List.getElem_cons_zero, List.getElem_cons_succ]
      refine wpAnyH_take (i := 17) (v := undef) rfl (by kernel_rfl) (by kernel_rfl) (by kernel_rfl) (fun _ _ _ h => h) (Or.inr ⟨by rfl, rfl⟩) (by assumption) ?_
      try simp only [Act.put, List.setIfInBounds_toArray, List.set_cons_zero, List.set_cons_succ, List.getElem_toArray, List.getElem_cons_zero, List.getElem_cons_succ]
      refine wpAnyH_take (i := 18) (v := ?_) rfl (by kernel_rfl) (by kernel_rfl) (by kernel_rfl) (fun _ _ _ h => h) (Or.inl ⟨by rfl, ?_⟩) (by assumption) ?_
      rotate_left
      · (intro w' hS'; go_simp; try with_reducible rfl)
      try simp only [Act.put, List.setIfInBounds_toArray, List.set_cons_zero, List.set_cons_succ, List.getElem_toArray, List.getElem_cons_zero, List.getElem_cons_succ]
      refine wpAnyH_ready (rs := [19]) (by kernel_rfl) (by simp) ?_
      refine AllReadyH.cons rfl (fun K hK => ?_) AllReadyH.nil
      go_simp
      refine hK.out _ _ (by go_keep) (fun hHeld3 => ?_)
      clear hK K
      try simp only [Act.put, List.setIfInBounds_toArray, List.set_cons_zero, List.set_cons_succ, List.getElem_toArray, List.getElem_cons_zero, List.getElem_cons_succ]
      refine wpAnyH_take (i := 20) (v := ?_) rfl (by kernel_rfl) (by kernel_rfl) (by kernel_rfl) (fun _ _ _ h => h) (Or.inl ⟨by rfl, ?_⟩) (by assumption) ?_
      rotate_left
      · (intro w' hS'; go_simp; try with_reducible rfl)
      try simp only [Act.put, List.setIfInBounds_toArray, List.set_cons_zero, List.set_cons_succ, List.getElem_toArray, List.getElem_cons_zero, List.getElem_cons_succ]
      refine wpAnyH_done (by kernel_rfl) ?_ _
      have hE := ((hF4.setCell ⟨w.heap.size + 1, 0, none⟩ (.bool r) (.inl (by simp))).setCell ⟨w.heap.size + 1, 1, none⟩ (.slice A n cv) (.inl (by simp))).setCell ⟨w.heap.size + 1, 2, none⟩ (.int .i64 sc) (.inl (by simp))
      have hne := hR3.ne_block ((hF3.block (w.heap.size + 1) hlres (fun x => x)).trans hres) (by decide)
      have hS : Fr (· = w.heap.size + 1) w3 (((w3.setCell ⟨w.heap.size + 1, 0, none⟩ (.bool r)).setCell ⟨w.heap.size + 1, 1, none⟩ (.slice A n cv)).setCell ⟨w.heap.size + 1, 2, none⟩ (.int .i64 sc)) := ((Fr.set _ _ _ _).trans' (Fr.set _ _ _ _)).trans' (Fr.set _ _ _ _)
      have hR4 := hR3.fr hS (fun k hk e => hne (by rw [hk, e]))
      clear hF4 hS hne hR3 hHeld hHeld2 hHeld3
      go_wp2
      exact bodyPost_ret (v := .tuple #[.agg #[.bool r, .slice A n cv, .int .i64 sc], .bool false]) (by simp [results, Tryz.results4, go_sem, z0, z1, z2]) rfl ⟨_, n, F, by rw [hsc.out, hres0.out, hre.out], hR4, hDG.out, hE⟩
  · obtain ⟨q, hqe⟩ : ∃ q, u0.heap.size = q := ⟨_, rfl⟩
    have hge : u0.heap.size ≤ q := Nat.le_of_eq hqe
    rw [hqe] at hq2 ⊢
    clear hqe
    have hUq : ((w2.setCell ⟨q, 0, none⟩ (.bool (neg && decide (0 < n)))).setCell ⟨q, 1, none⟩ (.slice A n cv)).heap[q]? = some (.cells #[.bool (neg && decide (0 < n)), .slice A n cv] 28 (0, 0)) := by
      rw [heap_setCell_same _ q 1 _ _ _ (heap_setCell_same w2 q 0 _ _ _ hq2)]; rfl
    have hUF0 := (hF2.setCell ⟨q, 0, none⟩ (.bool (neg && decide (0 < n))) (.inl hge)).setCell ⟨q, 1, none⟩ (.slice A n cv) (.inl hge)
    have hneq := hR2.ne_block hq2 (by decide)
    have hS2 : Fr (· = q) w2 ((w2.setCell ⟨q, 0, none⟩ (.bool (neg && decide (0 < n)))).setCell ⟨q, 1, none⟩ (.slice A n cv)) := (Fr.set _ _ _ _).trans' (Fr.set _ _ _ _)
    have hUR := hR2.fr hS2 (fun k hk e => hneq (by rw [hk, e]))
    clear hS2 hneq
    generalize (w2.setCell ⟨q, 0, none⟩ (.bool (neg && decide (0 < n)))).setCell ⟨q, 1, none⟩ (.slice A n cv) = U at *
    have hUb := (hUF0.block w.heap.size hbl (fun x => x)).trans hb
    have hres := (hUF0.block (w.heap.size + 1) (Array.getElem?_eq_some_iff.1 hr).1 (fun x => x)).trans hr
    have hUF := hF.trans' hUF0
    have hbU : w.heap.size < U.heap.size := (Array.getElem?_eq_some_iff.1 hUb).1
    have hlres : w.heap.size + 1 < U.heap.size := (Array.getElem?_eq_some_iff.1 hres).1
    have hqU : q < U.heap.size := (Array.getElem?_eq_some_iff.1 hUq).1
    have hn3 := hD.few hc
    have hDG := Lib.hid hD
    obtain ⟨sc, hsc⟩ : ∃ sc, Hid (IntKind.i64.wrap (-s) = sc) := ⟨_, Lib.hid rfl⟩
    have hscw := hsc.out
    have p1 : w.heap.size ≠ q := by omega
    have p2 : q ≠ w.heap.size := by omega
    have p3 : q ≠ w.heap.size + 1 := by have := (Array.getElem?_eq_some_iff.1 hr).1; omega
    have p4 : w.heap.size + 1 ≠ q := p3.symm
    obtain ⟨r, hre⟩ : ∃ r, Hid ((neg && decide (0 < n)) = r) := ⟨_, Lib.hid rfl⟩
    rw [hre.out] at hUq ⊢
    obtain ⟨x0, x1, x2, _, _, _⟩ := cells3 hUb
    obtain ⟨x3, x4, _, _⟩ := cells2 hUq
    clear hF0 hF1 hF2 hUF0 hR hR2 hr hb hD hUb hUq k0 k1 k2 j0a j1a j2a j0b j1b j2b m0 m0' m1 m1' m2 m2' n1 n2 _hs
    go_wp2
    by_cases hc19 : c < 10000000000000000000
    · by_cases hs0 : 0 ≤ s
      · by_cases hs19 : s ≤ 19
        · have e2 : decide (0 ≤ s) = true := decide_eq_true hs0
          have e3 : decide (s ≤ 19) = true := decide_eq_true hs19
          have hres0 := Lib.hid (show (decide (c < 10000000000000000000) && decide (0 ≤ s) && decide (s ≤ 19)) = true by simp [hc19, hs0, hs19])
          clear hs0 hs19
          refine wp_region_held_drew (S := (fun w' => w'.cell? ⟨w.heap.size, 0, none⟩ = some (.bool neg) ∧ w'.cell? ⟨w.heap.size, 1, none⟩ = some (.int .u64 c) ∧ w'.cell? ⟨w.heap.size, 2, none⟩ = some (.int .i64 s) ∧ w'.cell? ⟨q, 0, none⟩ = some (.bool r) ∧ w'.cell? ⟨q, 1, none⟩ = some (.slice A n cv))) (by kernel_rfl) ⟨x0, x1, x2, x3, x4⟩ (fun hHeld => ?_)
          refine wpAnyH_take (i := 0) (v := ?_) rfl (by kernel_rfl) (by kernel_rfl) (by kernel_rfl) (fun _ _ _ h => h) (Or.inl ⟨by rfl, ?_⟩) (by assumption) ?_
          rotate_left
          · (intro w' hS'; go_simp; try with_reducible rfl)
          try simp only [Act.put, List.setIfInBounds_toArray, List.set_cons_zero, List.set_cons_succ, List.getElem_toArray, List.getElem_cons_zero]
          refine wpAnyH_take (i := 1) (v := ?_) rfl (by kernel_rfl) (by kernel_rfl) (by kernel_rfl) (fun _ _ _ h => h) (Or.inl ⟨by rfl, ?_⟩) (by assumption) ?_
          rotate_left
          · (intro w' hS'; go_simp; try with_reducible rfl)
          try simp only [Act.put, List.setIfInBounds_toArray, List.set_cons_zero, List.set_cons_succ, List.getElem_toArray, List.getElem_cons_zero, List.getElem_cons_succ]
          refine wpAnyH_take (i := 2) (v := ?_) rfl (by kernel_rfl) (by kernel_rfl) (by kernel_rfl) (fun _ _ _ h => h) (Or.inl ⟨by rfl, ?_⟩) (by assumption) ?_
          rotate_left
          · (intro w' hS'; go_simp; try with_reducible rfl)
          try simp only [Act.put, List.setIfInBounds_toArray, List.set_cons_zero, List.set_cons_succ, List.getElem_toArray, List.getElem_cons_zero, List.getElem_cons_succ]
          refine wpAnyH_take (i := 3) (v := ?_) rfl (by kernel_rfl) (by kernel_rfl) (by kernel_rfl) (fun _ _ _ h => h) (Or.inl ⟨by rfl, ?_⟩) (by assumption) ?_
          rotate_left
          · (intro w' hS'; go_simp; try with_reducible rfl)
          try simp only [Act.put, List.setIfInBounds_toArray, List.set_cons_zero, List.set_cons_succ, List.getElem_toArray, List.getElem_cons_zero, List.getElem_cons_succ]
          refine wpAnyH_take (i := 4) (v := ?_) rfl (by kernel_rfl) (by kernel_rfl) (by kernel_rfl) (fun _ _ _ h => h) (Or.inl ⟨by rfl, ?_⟩) (by assumption) ?_
          rotate_left
          · (intro w' hS'; go_simp; try with_reducible rfl)
          try simp only [Act.put, List.setIfInBounds_toArray, List.set_cons_zero, List.set_cons_succ, List.getElem_toArray, List.getElem_cons_zero, List.getElem_cons_succ]
          refine wpAnyH_take (i := 5) (v := ?_) rfl (by kernel_rfl) (by kernel_rfl) (by kernel_rfl) (fun _ _ _ h => h) (Or.inl ⟨by rfl, ?_⟩) (by assumption) ?_
          rotate_left
          · (intro w' hS'; go_simp; try with_reducible rfl)
          try simp only [Act.put, List.setIfInBounds_toArray, List.set_cons_zero, List.set_cons_succ, List.getElem_toArray, List.getElem_cons_zero, List.getElem_cons_succ]
          refine wpAnyH_take (i := 6) (v := ?_) rfl (by kernel_rfl) (by kernel_rfl) (by kernel_rfl) (fun _ _ _ h => h) (Or.inl ⟨by rfl, ?_⟩) (by assumption) ?_
          rotate_left
          · (intro w' hS'; go_simp; try with_reducible rfl)
          try simp only [Act.put, List.setIfInBounds_toArray, List.set_cons_zero, List.set_cons_succ, List.getElem_toArray, List.getElem_cons_zero, List.getElem_cons_succ]
          refine wpAnyH_ready (rs := [7]) (by kernel_rfl) (by simp) ?_
          refine AllReadyH.cons rfl (fun K hK => ?_) AllReadyH.nil
          go_simp
          refine (sp_Digits c n _ F U.drew (hUR.of_eq fun _ _ => rfl) hDG.out hn3).mono ?_
          rintro e w3 ⟨d, rfl, hd, hf⟩
          have hF3 : Fr NoS U w3 := (((Fr.refl NoS U).drew).trans' hf)
          have y0 := (hF3.cell (p := ⟨w.heap.size, 0, none⟩) hbU (fun x => x)).trans x0
          have y1 := (hF3.cell (p := ⟨w.heap.size, 1, none⟩) hbU (fun x => x)).trans x1
          have y2 := (hF3.cell (p := ⟨w.heap.size, 2, none⟩) hbU (fun x => x)).trans x2
          have y3 := (hF3.cell (p := ⟨q, 0, none⟩) hqU (fun x => x)).trans x3
          have y4 := (hF3.cell (p := ⟨q, 1, none⟩) hqU (fun x => x)).trans x4
          have e1 : decide (d ≤ 19) = true := decide_eq_true (hd.le19.2 hc19)
          have e1z : decide ((d : Int) ≤ 19) = true := decide_eq_true (Int.ofNat_le.2 (hd.le19.2 hc19))
          have hres3 := (hf.block (w.heap.size + 1) hlres (fun x => x)).trans hres
          obtain ⟨z0, z1, z2, g0, g1, g2⟩ := cells3 hres3
          have hR3 := hUR.fr hF3 (fun _ _ x => x)
          have hF4 := hUF.trans' hF3
          refine hK.out _ _ ⟨y0, y1, y2, y3, y4⟩ (fun hHeld2 => ?_)
          clear hK K hf hres3
          try simp only [Act.put, List.setIfInBounds_toArray, List.set_cons_zero, List.set_cons_succ, List.getElem_toArray, List.getElem_cons_zero, List.getElem_cons_succ]
          refine wpAnyH_take (i := 8) (v := ?_) rfl (by kernel_rfl) (by kernel_rfl) (by kernel_rfl) (fun _ _ _ h => h) (Or.inl ⟨by rfl, ?_⟩) (by assumption) ?_
          rotate_left
          · (intro w' hS'; go_simp; try with_reducible rfl)
          try simp only [Act.put, List.setIfInBounds_toArray, List.set_cons_zero, List.set_cons_succ, List.getElem_toArray, List.getElem_cons_zero, List.getElem_cons_succ]
          refine wpAnyH_take (i := 9) (v := ?_) rfl (by kernel_rfl) (by kernel_rfl) (by kernel_rfl) (fun _ _ _ h => h) (Or.inl ⟨by rfl, ?_⟩) (by assumption) ?_
          rotate_left
          · (intro w' hS'; go_simp; try with_reducible rfl)
          try simp only [Act.put, List.setIfInBounds_toArray, List.set_cons_zero, List.set_cons_succ, List.getElem_toArray, List.getElem_cons_zero, List.getElem_cons_succ]
          refine wpAnyH_take (i := 10) (v := ?_) rfl (by kernel_rfl) (by kernel_rfl) (by kernel_rfl) (fun _ _ _ h => h) (Or.inl ⟨by rfl, ?_⟩) (by assumption) ?_
          rotate_left
          · (intro w' hS'; go_simp; try with_reducible rfl)
          try simp only [Act.put, List.setIfInBounds_toArray, List.set_cons_zero, List.set_cons_succ, List.getElem_toArray, List.getElem_cons_zero, List.getElem_cons_succ]
          refine wpAnyH_take (i := 11) (v := ?_) rfl (by kernel_rfl) (by kernel_rfl) (by kernel_rfl) (fun _ _ _ h => h) (Or.inl ⟨by rfl, ?_⟩) (by assumption) ?_
          rotate_left
          · (intro w' hS'; go_simp; try with_reducible rfl)
          try simp only [Act.put, List.setIfInBounds_toArray, List.set_cons_zero, List.set_cons_succ, List.getElem_toArray, List.getElem_cons_zero, List.getElem_cons_succ]
          refine wpAnyH_take (i := 12) (v := ?_) rfl (by kernel_rfl) (by kernel_rfl) (by kernel_rfl) (fun _ _ _ h => h) (Or.inl ⟨by rfl, ?_⟩) (by assumption) ?_
          rotate_left
          · (intro w' hS'; go_simp; try with_reducible rfl)
          try simp only [Act.put, List.setIfInBounds_toArray, List.set_cons_zero, List.set_cons_succ, List.getElem_toArray, List.getElem_cons_zero, List.getElem_cons_succ]
          refine wpAnyH_take (i := 13) (v := ?_) rfl (by kernel_rfl) (by kernel_rfl) (by kernel_rfl) (fun _ _ _ h => h) (Or.inl ⟨by rfl, ?_⟩) (by assumption) ?_
          rotate_left
          · (intro w' hS'; go_simp; try with_reducible rfl)
          try simp only [Act.put, List.setIfInBounds_toArray, List.set_cons_zero, List.set_cons_succ, List.getElem_toArray, List.getElem_cons_zero, List.getElem_cons_succ]
          refine wpAnyH_take (i := 14) (v := ?_) rfl (by kernel_rfl) (by kernel_rfl) (by kernel_rfl) (fun _ _ _ h => h) (Or.inl ⟨by rfl, ?_⟩) (by assumption) ?_
          rotate_left
          · (intro w' hS'; go_simp; try with_reducible rfl)
          try simp only [Act.put, List.setIfInBounds_toArray, List.set_cons_zero, List.set_cons_succ, List.getElem_toArray, List.getElem_cons_zero, List.getElem_cons_succ]
          refine wpAnyH_take (i := 15) (v := ?_) rfl (by kernel_rfl) (by kernel_rfl) (by kernel_rfl) (fun _ _ _ h => h) (Or.inl ⟨by rfl, ?_⟩) (by assumption) ?_
          rotate_left
          · (intro w' hS'; go_simp; try with_reducible rfl)
          try simp only [Act.put, List.setIfInBounds_toArray, List.set_cons_zero, List.set_cons_succ, List.getElem_toArray, List.getElem_cons_zero, List.getElem_cons_succ]
          refine wpAnyH_take (i := 16) (v := ?_) rfl (by kernel_rfl) (by kernel_rfl) (by kernel_rfl) (fun _ _ _ h => h) (Or.inl ⟨by rfl, ?_⟩) (by assumption) ?_
          rotate_left
          · (intro w' hS'; go_simp; try with_reducible rfl)
          try simp only [Act.put, List.setIfInBounds_toArray, List.set_cons_zero, List.set_cons_succ, List.getElem_toArray, List.getElem_cons_zero, List.getElem_cons_succ]
          refine wpAnyH_take (i := 17) (v := ?_) rfl (by kernel_rfl) (by kernel_rfl) (by kernel_rfl) (fun _ _ _ h => h) (Or.inl ⟨by rfl, ?_⟩) (by assumption) ?_
          rotate_left
          · (intro w' hS'; go_simp; try with_reducible rfl)
          try simp only [Act.put, List.setIfInBounds_toArray, List.set_cons_zero, List.set_cons_succ, List.getElem_toArray, List.getElem_cons_zero, List.getElem_cons_succ]
          refine wpAnyH_take (i := 18) (v := ?_) rfl (by kernel_rfl) (by kernel_rfl) (by kernel_rfl) (fun _ _ _ h => h) (Or.inl ⟨by rfl, ?_⟩) (by assumption) ?_
          rotate_left
          · (intro w' hS'; go_simp; try with_reducible rfl)
          try simp only [Act.put, List.setIfInBounds_toArray, List.set_cons_zero, List.set_cons_succ, List.getElem_toArray, List.getElem_cons_zero, List.getElem_cons_succ]
          refine wpAnyH_ready (rs := [19]) (by kernel_rfl) (by simp) ?_
          refine AllReadyH.cons rfl (fun K hK => ?_) AllReadyH.nil
          go_simp
          refine hK.out _ _ (by go_keep) (fun hHeld3 => ?_)
          clear hK K
          try simp only [Act.put, List.setIfInBounds_toArray, List.set_cons_zero, List.set_cons_succ, List.getElem_toArray, List.getElem_cons_zero, List.getElem_cons_succ]
          refine wpAnyH_take (i := 20) (v := ?_) rfl (by kernel_rfl) (by kernel_rfl) (by kernel_rfl) (fun _ _ _ h => h) (Or.inl ⟨by rfl, ?_⟩) (by assumption) ?_
          rotate_left
          · (intro w' hS'; go_simp; try with_reducible rfl)
          try simp only [Act.put, List.setIfInBounds_toArray, List.set_cons_zero, List.set_cons_succ, List.getElem_toArray, List.getElem_cons_zero, List.getElem_cons_succ]
          refine wpAnyH_done (by kernel_rfl) ?_ _
          have hE := ((hF4.setCell ⟨w.heap.size + 1, 0, none⟩ (.bool r) (.inl (by simp))).setCell ⟨w.heap.size + 1, 1, none⟩ (.slice A n cv) (.inl (by simp))).setCell ⟨w.heap.size + 1, 2, none⟩ (.int .i64 sc) (.inl (by simp))
          have hne := hR3.ne_block ((hF3.block (w.heap.size + 1) hlres (fun x => x)).trans hres) (by decide)
          have hS : Fr (· = w.heap.size + 1) w3 (((w3.setCell ⟨w.heap.size + 1, 0, none⟩ (.bool r)).setCell ⟨w.heap.size + 1, 1, none⟩ (.slice A n cv)).setCell ⟨w.heap.size + 1, 2, none⟩ (.int .i64 sc)) := ((Fr.set _ _ _ _).trans' (Fr.set _ _ _ _)).trans' (Fr.set _ _ _ _)
          have hR4 := hR3.fr hS (fun k hk e => hne (by rw [hk, e]))
          clear hF4 hS hne hR3 hHeld hHeld2 hHeld3
          go_wp2
          exact bodyPost_ret (v := .tuple #[.agg #[.bool r, .slice A n cv, .int .i64 sc], .bool true]) (by simp [results, Tryz.results4, go_sem, z0, z1, z2]) rfl ⟨_, n, F, by rw [hsc.out, hres0.out, hre.out], hR4, hDG.out, hE⟩
        · have e2 : decide (0 ≤ s) = true := decide_eq_true hs0
          have e3 : decide (s ≤ 19) = false := decide_eq_false hs19
          have hres0 := Lib.hid (show (decide (c < 10000000000000000000) && decide (0 ≤ s) && decide (s ≤ 19)) = false by simp [hs19])
          clear hs0 hs19
          refine wp_region_held_drew (S := (fun w' => w'.cell? ⟨w.heap.size, 0, none⟩ = some (.bool neg) ∧ w'.cell? ⟨w.heap.size, 1, none⟩ = some (.int .u64 c) ∧ w'.cell? ⟨w.heap.size, 2, none⟩ = some (.int .i64 s) ∧ w'.cell? ⟨q, 0, none⟩ = some (.bool r) ∧ w'.cell? ⟨q, 1, none⟩ = some (.slice A n cv))) (by kernel_rfl) ⟨x0, x1, x2, x3, x4⟩ (fun hHeld => ?_)
          refine wpAnyH_take (i := 0) (v := ?_) rfl (by kernel_rfl) (by kernel_rfl) (by kernel_rfl) (fun _ _ _ h => h) (Or.inl ⟨by rfl, ?_⟩) (by assumption) ?_
          rotate_left
          · (intro w' hS'; go_simp; try with_reducible rfl)
          try simp only [Act.put, List.setIfInBounds_toArray, List.set_cons_zero, List.set_cons_succ, List.getElem_toArray, List.getElem_cons_zero]
          refine wpAnyH_take (i := 1) (v := ?_) rfl (by kernel_rfl) (by kernel_rfl) (by kernel_rfl) (fun _ _ _ h => h) (Or.inl ⟨by rfl, ?_⟩) (by assumption) ?_
          rotate_left
          · (intro w' hS'; go_simp; try with_reducible rfl)
          try simp only [Act.put, List.setIfInBounds_toArray, List.set_cons_zero, List.set_cons_succ, List.getElem_toArray, List.getElem_cons_zero, List.getElem_cons_succ]
          refine wpAnyH_take (i := 2) (v := ?_) rfl (by kernel_rfl) (by kernel_rfl) (by kernel_rfl) (fun _ _ _ h => h) (Or.inl ⟨by rfl, ?_⟩) (by assumption) ?_
          rotate_left
          · (intro w' hS'; go_simp; try with_reducible rfl)
          try simp only [Act.put, List.setIfInBounds_toArray, List.set_cons_zero, List.set_cons_succ, List.getElem_toArray, List.getElem_cons_zero, List.getElem_cons_succ]
          refine wpAnyH_take (i := 3) (v := ?_) rfl (by kernel_rfl) (by kernel_rfl) (by kernel_rfl) (fun _ _ _ h => h) (Or.inl ⟨by rfl, ?_⟩) (by assumption) ?_
          rotate_left
          · (intro w' hS'; go_simp; try with_reducible rfl)
          try simp only [Act.put, List.setIfInBounds_toArray, List.set_cons_zero, List.set_cons_succ, List.getElem_toArray, List.getElem_cons_zero, List.getElem_cons_succ]
          refine wpAnyH_take (i := 4) (v := ?_) rfl (by kernel_rfl) (by kernel_rfl) (by kernel_rfl) (fun _ _ _ h => h) (Or.inl ⟨by rfl, ?_⟩) (by assumption) ?_
          rotate_left
          · (intro w' hS'; go_simp; try with_reducible rfl)
          try simp only [Act.put, List.setIfInBounds_toArray, List.set_cons_zero, List.set_cons_succ, List.getElem_toArray, List.getElem_cons_zero, List.getElem_cons_succ]
          refine wpAnyH_take (i := 5) (v := ?_) rfl (by kernel_rfl) (by kernel_rfl) (by kernel_rfl) (fun _ _ _ h => h) (Or.inl ⟨by rfl, ?_⟩) (by assumption) ?_
          rotate_left
          · (intro w' hS'; go_simp; try with_reducible rfl)
          try simp only [Act.put, List.setIfInBounds_toArray, List.set_cons_zero, List.set_cons_succ, List.getElem_toArray, List.getElem_cons_zero, List.getElem_cons_succ]
          refine wpAnyH_take (i := 6) (v := ?_) rfl (by kernel_rfl) (by kernel_rfl) (by kernel_rfl) (fun _ _ _ h => h) (Or.inl ⟨by rfl, ?_⟩) (by assumption) ?_
          rotate_left
          · (intro w' hS'; go_simp; try with_reducible rfl)
          try simp only [Act.put, List.setIfInBounds_toArray, List.set_cons_zero, List.set_cons_succ, List.getElem_toArray, List.getElem_cons_zero, List.getElem_cons_succ]
          refine wpAnyH_ready (rs := [7]) (by kernel_rfl) (by simp) ?_
          refine AllReadyH.cons rfl (fun K hK => ?_) AllReadyH.nil
          go_simp
          refine (sp_Digits c n _ F U.drew (hUR.of_eq fun _ _ => rfl) hDG.out hn3).mono ?_
          rintro e w3 ⟨d, rfl, hd, hf⟩
          have hF3 : Fr NoS U w3 := (((Fr.refl NoS U).drew).trans' hf)
          have y0 := (hF3.cell (p := ⟨w.heap.size, 0, none⟩) hbU (fun x => x)).trans x0
          have y1 := (hF3.cell (p := ⟨w.heap.size, 1, none⟩) hbU (fun x => x)).trans x1
          have y2 := (hF3.cell (p := ⟨w.heap.size, 2, none⟩) hbU (fun x => x)).trans x2
          have y3 := (hF3.cell (p := ⟨q, 0, none⟩) hqU (fun x => x)).trans x3
          have y4 := (hF3.cell (p := ⟨q, 1, none⟩) hqU (fun x => x)).trans x4
          have e1 : decide (d ≤ 19) = true := decide_eq_true (hd.le19.2 hc19)
          have e1z : decide ((d : Int) ≤ 19) = true := decide_eq_true (Int.ofNat_le.2 (hd.le19.2 hc19))
          have hres3 := (hf.block (w.heap.size + 1) hlres (fun x => x)).trans hres
          obtain ⟨z0, z1, z2, g0, g1, g2⟩ := cells3 hres3
          have hR3 := hUR.fr hF3 (fun _ _ x => x)
          have hF4 := hUF.trans' hF3
          refine hK.out _ _ ⟨y0, y1, y2, y3, y4⟩ (fun hHeld2 => ?_)
          clear hK K hf hres3
          try simp only [Act.put, List.setIfInBounds_toArray, List.set_cons_zero, List.set_cons_succ, List.getElem_toArray, List.getElem_cons_zero, List.getElem_cons_succ]
          refine wpAnyH_take (i := 8) (v := ?_) rfl (by kernel_rfl) (by kernel_rfl) (by kernel_rfl) (fun _ _ _ h => h) (Or.inl ⟨by rfl, ?_⟩) (by assumption) ?_
          rotate_left
          · (intro w' hS'; go_simp; try with_reducible rfl)
          try simp only [Act.put, List.setIfInBounds_toArray, List.set_cons_zero, List.set_cons_succ, List.getElem_toArray, List.getElem_cons_zero, List.getElem_cons_succ]
          refine wpAnyH_take (i := 9) (v := ?_) rfl (by kernel_rfl) (by kernel_rfl) (by kernel_rfl) (fun _ _ _ h => h) (Or.inl ⟨by rfl, ?_⟩) (by assumption) ?_
          rotate_left
          · (intro w' hS'; go_simp; try with_reducible rfl)
          try simp only [Act.put, List.setIfInBounds_toArray, List.set_cons_zero, List.set_cons_succ, List.getElem_toArray, List.getElem_cons_zero, List.getElem_cons_succ]
          refine wpAnyH_take (i := 10) (v := ?_) rfl (by kernel_rfl) (by kernel_rfl) (by kernel_rfl) (fun _ _ _ h => h) (Or.inl ⟨by rfl, ?_⟩) (by assumption) ?_
          rotate_left
          · (intro w' hS'; go_simp; try with_reducible rfl)
          try simp only [Act.put, List.setIfInBounds_toArray, List.set_cons_zero, List.set_cons_succ, List.getElem_toArray, List.getElem_cons_zero, List.getElem_cons_succ]
          refine wpAnyH_take (i := 11) (v := ?_) rfl (by kernel_rfl) (by kernel_rfl) (by kernel_rfl) (fun _ _ _ h => h) (Or.inl ⟨by rfl, ?_⟩) (by assumption) ?_
          rotate_left
          · (intro w' hS'; go_simp; try with_reducible rfl)
          try simp only [Act.put, List.setIfInBounds_toArray, List.set_cons_zero, List.set_cons_succ, List.getElem_toArray, List.getElem_cons_zero, List.getElem_cons_succ]
          refine wpAnyH_take (i := 12) (v := ?_) rfl (by kernel_rfl) (by kernel_rfl) (by kernel_rfl) (fun _ _ _ h => h) (Or.inl ⟨by rfl, ?_⟩) (by assumption) ?_
          rotate_left
          · (intro w' hS'; go_simp; try with_reducible rfl)
          try simp only [Act.put, List.setIfInBounds_toArray, List.set_cons_zero, List.set_cons_succ, List.getElem_toArray, List.getElem_cons_zero, List.getElem_cons_succ]
          refine wpAnyH_take (i := 13) (v := ?_) rfl (by kernel_rfl) (by kernel_rfl) (by kernel_rfl) (fun _ _ _ h => h) (Or.inl ⟨by rfl, ?_⟩) (by assumption) ?_
          rotate_left
          · (intro w' hS'; go_simp; try with_reducible rfl)
          try simp only [Act.put, List.setIfInBounds_toArray, List.set_cons_zero, List.set_cons_succ, List.getElem_toArray, List.getElem_cons_zero, List.getElem_cons_succ]
          refine wpAnyH_take (i := 14) (v := ?_) rfl (by kernel_rfl) (by kernel_rfl) (by kernel_rfl) (fun _ _ _ h => h) (Or.inl ⟨by rfl, ?_⟩) (by assumption) ?_
          rotate_left
          · (intro w' hS'; go_simp; try with_reducible rfl)
          try simp only [Act.put, List.setIfInBounds_toArray, List.set_cons_zero, List.set_cons_succ, List.getElem_toArray, List.getElem_cons_zero, List.getElem_cons_succ]
          refine wpAnyH_take (i := 15) (v := ?_) rfl (by kernel_rfl) (by kernel_rfl) (by kernel_rfl) (fun _ _ _ h => h) (Or.inl ⟨by rfl, ?_⟩) (by assumption) ?_
          rotate_left
          · (intro w' hS'; go_simp; try with_reducible rfl)
          try simp only [Act.put, List.setIfInBounds_toArray, List.set_cons_zero, List.set_cons_succ, List.getElem_toArray, List.getElem_cons_zero, List.getElem_cons_succ]
          refine wpAnyH_take (i := 16) (v := ?_) rfl (by kernel_rfl) (by kernel_rfl) (by kernel_rfl) (fun _ _ _ h => h) (Or.inl ⟨by rfl, ?_⟩) (by assumption) ?_
          rotate_left
          · (intro w' hS'; go_simp; try with_reducible rfl)
          try simp only [Act.put, List.setIfInBounds_toArray, List.set_cons_zero, List.set_cons_succ, List.getElem_toArray, List.getElem_cons_zero, List.getElem_cons_succ]
          refine wpAnyH_take (i := 17) (v := ?_) rfl (by kernel_rfl) (by kernel_rfl) (by kernel_rfl) (fun _ _ _ h => h) (Or.inl ⟨by rfl, ?_⟩) (by assumption) ?_
          rotate_left
          · (intro w' hS'; go_simp; try with_reducible rfl)
          try simp only [Act.put, List.setIfInBounds_toArray, List.set_cons_zero, List.set_cons_succ, List.getElem_toArray, List.getElem_cons_zero, List.getElem_cons_succ]
          refine wpAnyH_take (i := 18) (v := ?_) rfl (by kernel_rfl) (by kernel_rfl) (by kernel_rfl) (fun _ _ _ h => h) (Or.inl ⟨by rfl, ?_⟩) (by assumption) ?_
          rotate_left
          · (intro w' hS'; go_simp; try with_reducible rfl)
          try simp only [Act.put, List.setIfInBounds_toArray, List.set_cons_zero, List.set_cons_succ, List.getElem_toArray, List.getElem_cons_zero, List.getElem_cons_succ]
          refine wpAnyH_ready (rs := [19]) (by kernel_rfl) (by simp) ?_
          refine AllReadyH.cons rfl (fun K hK => ?_) AllReadyH.nil
          go_simp
          refine hK.out _ _ (by go_keep) (fun hHeld3 => ?_)
          clear hK K
          try simp only [Act.put, List.setIfInBounds_toArray, List.set_cons_zero, List.set_cons_succ, List.getElem_toArray, List.getElem_cons_zero, List.getElem_cons_succ]
          refine wpAnyH_take (i := 20) (v := ?_) rfl (by kernel_rfl) (by kernel_rfl) (by kernel_rfl) (fun _ _ _ h => h) (Or.inl ⟨by rfl, ?_⟩) (by assumption) ?_
          rotate_left
          · (intro w' hS'; go_simp; try with_reducible rfl)
          try simp only [Act.put, List.setIfInBounds_toArray, List.set_cons_zero, List.set_cons_succ, List.getElem_toArray, List.getElem_cons_zero, List.getElem_cons_succ]
          refine wpAnyH_done (by kernel_rfl) ?_ _
          have hE := ((hF4.setCell ⟨w.heap.size + 1, 0, none⟩ (.bool r) (.inl (by simp))).setCell ⟨w.heap.size + 1, 1, none⟩ (.slice A n cv) (.inl (by simp))).setCell ⟨w.heap.size + 1, 2, none⟩ (.int .i64 sc) (.inl (by simp))
          have hne := hR3.ne_block ((hF3.block (w.heap.size + 1) hlres (fun x => x)).trans hres) (by decide)
          have hS : Fr (· = w.heap.size + 1) w3 (((w3.setCell ⟨w.heap.size + 1, 0, none⟩ (.bool r)).setCell ⟨w.heap.size + 1, 1, none⟩ (.slice A n cv)).setCell ⟨w.heap.size + 1, 2, none⟩ (.int .i64 sc)) := ((Fr.set _ _ _ _).trans' (Fr.set _ _ _ _)).trans' (Fr.set _ _ _ _)
          have hR4 := hR3.fr hS (fun k hk e => hne (by rw [hk, e]))
          clear hF4 hS hne hR3 hHeld hHeld2 hHeld3
          go_wp2
          exact bodyPost_ret (v := .tuple #[.agg #[.bool r, .slice A n cv, .int .i64 sc], .bool false]) (by simp [results, Tryz.results4, go_sem, z0, z1, z2]) rfl ⟨_, n, F, by rw [hsc.out, hres0.out, hre.out], hR4, hDG.out, hE⟩
      · have e2 : decide (0 ≤ s) = false := decide_eq_false hs0
        have hres0 := Lib.hid (show (decide (c < 10000000000000000000) && decide (0 ≤ s) && decide (s ≤ 19)) = false by simp [hs0])
        clear hs0
        refine wp_region_held_drew (S := (fun w' => w'.cell? ⟨w.heap.size, 0, none⟩ = some (.bool neg) ∧ w'.cell? ⟨w.heap.size, 1, none⟩ = some (.int .u64 c) ∧ w'.cell? ⟨w.heap.size, 2, none⟩ = some (.int .i64 s) ∧ w'.cell? ⟨q, 0, none⟩ = some (.bool r) ∧ w'.cell? ⟨q, 1, none⟩ = some (.slice A n cv))) (by kernel_rfl) ⟨x0, x1, x2, x3, x4⟩ (fun hHeld => ?_)
        refine wpAnyH_take (i := 0) (v := ?_) rfl (by kernel_rfl) (by kernel_rfl) (by kernel_rfl) (fun _ _ _ h => h) (Or.inl ⟨by rfl, ?_⟩) (by assumption) ?_
        rotate_left
        · (intro w' hS'; go_simp; try with_reducible rfl)
        try simp only [Act.put, List.setIfInBounds_toArray, List.set_cons_zero, List.set_cons_succ, List.getElem_toArray, List.getElem_cons_zero]
        refine wpAnyH_take (i := 1) (v := ?_) rfl (by kernel_rfl) (by kernel_rfl) (by kernel_rfl) (fun _ _ _ h => h) (Or.inl ⟨by rfl, ?_⟩) (by assumption) ?_
        rotate_left
        · (intro w' hS'; go_simp; try with_reducible rfl)
        try simp only [Act.put, List.setIfInBounds_toArray, List.set_cons_zero, List.set_cons_succ, List.getElem_toArray, List.getElem_cons_zero, List.getElem_cons_succ]
        refine wpAnyH_take (i := 2) (v := ?_) rfl (by kernel_rfl) (by kernel_rfl) (by kernel_rfl) (fun _ _ _ h => h) (Or.inl ⟨by rfl, ?_⟩) (by assumption) ?_
        rotate_left
        · (intro w' hS'; go_simp; try with_reducible rfl)
        try simp only [Act.put, List.setIfInBounds_toArray, List.set_cons_zero, List.set_cons_succ, List.getElem_toArray, List.getElem_cons_zero, List.getElem_cons_succ]
        refine wpAnyH_take (i := 3) (v := ?_) rfl (by kernel_rfl) (by kernel_rfl) (by kernel_rfl) (fun _ _ _ h => h) (Or.inl ⟨by rfl, ?_⟩) (by assumption) ?_
        rotate_left
        · (intro w' hS'; go_simp; try with_reducible rfl)
        try simp only [Act.put, List.setIfInBounds_toArray, List.set_cons_zero, List.set_cons_succ, List.getElem_toArray, List.getElem_cons_zero, List.getElem_cons_succ]
        refine wpAnyH_take (i := 4) (v := ?_) rfl (by kernel_rfl) (by kernel_rfl) (by kernel_rfl) (fun _ _ _ h => h) (Or.inl ⟨by rfl, ?_⟩) (by assumption) ?_
        rotate_left
        · (intro w' hS'; go_simp; try with_reducible rfl)
        try simp only [Act.put, List.setIfInBounds_toArray, List.set_cons_zero, List.set_cons_succ, List.getElem_toArray, List.getElem_cons_zero, List.getElem_cons_succ]
        refine wpAnyH_take (i := 5) (v := ?_) rfl (by kernel_rfl) (by kernel_rfl) (by kernel_rfl) (fun _ _ _ h => h) (Or.inl ⟨by rfl, ?_⟩) (by assumption) ?_
        rotate_left
        · (intro w' hS'; go_simp; try with_reducible rfl)
        try simp only [Act.put, List.setIfInBounds_toArray, List.set_cons_zero, List.set_cons_succ, List.getElem_toArray, List.getElem_cons_zero, List.getElem_cons_succ]
        refine wpAnyH_take (i := 6) (v := ?_) rfl (by kernel_rfl) (by kernel_rfl) (by kernel_rfl) (fun _ _ _ h => h) (Or.inl ⟨by rfl, ?_⟩) (by assumption) ?_
        rotate_left
        · (intro w' hS'; go_simp; try with_reducible rfl)
        try simp only [Act.put, List.setIfInBounds_toArray, List.set_cons_zero, List.set_cons_succ, List.getElem_toArray, List.getElem_cons_zero, List.getElem_cons_succ]
        refine wpAnyH_ready (rs := [7]) (by kernel_rfl) (by simp) ?_
        refine AllReadyH.cons rfl (fun K hK => ?_) AllReadyH.nil
        go_simp
        refine (sp_Digits c n _ F U.drew (hUR.of_eq fun _ _ => rfl) hDG.out hn3).mono ?_
        rintro e w3 ⟨d, rfl, hd, hf⟩
        have hF3 : Fr NoS U w3 := (((Fr.refl NoS U).drew).trans' hf)
        have y0 := (hF3.cell (p := ⟨w.heap.size, 0, none⟩) hbU (fun x => x)).trans x0
        have y1 := (hF3.cell (p := ⟨w.heap.size, 1, none⟩) hbU (fun x => x)).trans x1
        have y2 := (hF3.cell (p := ⟨w.heap.size, 2, none⟩) hbU (fun x => x)).trans x2
        have y3 := (hF3.cell (p := ⟨q, 0, none⟩) hqU (fun x => x)).trans x3
        have y4 := (hF3.cell (p := ⟨q, 1, none⟩) hqU (fun x => x)).trans x4
        have e1 : decide (d ≤ 19) = true := decide_eq_true (hd.le19.2 hc19)
        have e1z : decide ((d : Int) ≤ 19) = true := decide_eq_true (Int.ofNat_le.2 (hd.le19.2 hc19))
        have hres3 := (hf.block (w.heap.size + 1) hlres (fun x => x)).trans hres
        obtain ⟨z0, z1, z2, g0, g1, g2⟩ := cells3 hres3
        have hR3 := hUR.fr hF3 (fun _ _ x => x)
        have hF4 := hUF.trans' hF3
        refine hK.out _ _ ⟨y0, y1, y2, y3, y4⟩ (fun hHeld2 => ?_)
        clear hK K hf hres3
        try simp only [Act.put, List.setIfInBounds_toArray, List.set_cons_zero, List.set_cons_succ, List.getElem_toArray, List.getElem_cons_zero, List.getElem_cons_succ]
        refine wpAnyH_take (i := 8) (v := ?_) rfl (by kernel_rfl) (by kernel_rfl) (by kernel_rfl) (fun _ _ _ h => h) (Or.inl ⟨by rfl, ?_⟩) (by assumption) ?_
        rotate_left
        · (intro w' hS'; go_simp; try with_reducible rfl)
        try simp only [Act.put, List.setIfInBounds_toArray, List.set_cons_zero, List.set_cons_succ, List.getElem_toArray, List.getElem_cons_zero, List.getElem_cons_succ]
        refine wpAnyH_take (i := 9) (v := ?_) rfl (by kernel_rfl) (by kernel_rfl) (by kernel_rfl) (fun _ _ _ h => h) (Or.inl ⟨by rfl, ?_⟩) (by assumption) ?_
        rotate_left
        · (intro w' hS'; go_simp; try with_reducible rfl)
        try simp only [Act.put, List.setIfInBounds_toArray, List.set_cons_zero, List.set_cons_succ, List.getElem_toArray, List.getElem_cons_zero, List.getElem_cons_succ]
        refine wpAnyH_take (i := 10) (v := ?_) rfl (by kernel_rfl) (by kernel_rfl) (by kernel_rfl) (fun _ _ _ h => h) (Or.inl ⟨by rfl, ?_⟩) (by assumption) ?_
        rotate_left
        · (intro w' hS'; go_simp; try with_reducible rfl)
        try simp only [Act.put, List.setIfInBounds_toArray, List.set_cons_zero, List.set_cons_succ, List.getElem_toArray, List.getElem_cons_zero, List.getElem_cons_succ]
        refine wpAnyH_take (i := 11) (v := ?_) rfl (by kernel_rfl) (by kernel_rfl) (by kernel_rfl) (fun _ _ _ h => h) (Or.inl ⟨by rfl, ?_⟩) (by assumption) ?_
        rotate_left
        · (intro w' hS'; go_simp; try with_reducible rfl)
        try simp only [Act.put, List.setIfInBounds_toArray, List.set_cons_zero, List.set_cons_succ, List.getElem_toArray, List.getElem_cons_zero, List.getElem_cons_succ]
        refine wpAnyH_take (i := 12) (v := ?_) rfl (by kernel_rfl) (by kernel_rfl) (by kernel_rfl) (fun _ _ _ h => h) (Or.inl ⟨by rfl, ?_⟩) (by assumption) ?_
        rotate_left
        · (intro w' hS'; go_simp; try with_reducible rfl)
        try simp only [Act.put, List.setIfInBounds_toArray, List.set_cons_zero, List.set_cons_succ, List.getElem_toArray, List.getElem_cons_zero, List.getElem_cons_succ]
        refine wpAnyH_take (i := 13) (v := ?_) rfl (by kernel_rfl) (by kernel_rfl) (by kernel_rfl) (fun _ _ _ h => h) (Or.inl ⟨by rfl, ?_⟩) (by assumption) ?_
        rotate_left
        · (intro w' hS'; go_simp; try with_reducible rfl)
        try simp only [Act.put, List.setIfInBounds_toArray, List.set_cons_zero, List.set_cons_succ, List.getElem_toArray, List.getElem_cons_zero, List.getElem_cons_succ]
        refine wpAnyH_take (i := 14) (v := ?_) rfl (by kernel_rfl) (by kernel_rfl) (by kernel_rfl) (fun _ _ _ h => h) (Or.inl ⟨by rfl, ?_⟩) (by assumption) ?_
        rotate_left
        · (intro w' hS'; go_simp; try with_reducible rfl)
        try simp only [Act.put, List.setIfInBounds_toArray, List.set_cons_zero, List.set_cons_succ, List.getElem_toArray, List.getElem_cons_zero, List.getElem_cons_succ]
        refine wpAnyH_take (i := 15) (v := undef) rfl (by kernel_rfl) (by kernel_rfl) (by kernel_rfl) (fun _ _ _ h => h) (Or.inr ⟨by rfl, rfl⟩) (by assumption) ?_
        try simp only [Act.put, List.setIfInBounds_toArray, List.set_cons_zero, List.set_cons_succ, List.getElem_toArray, List.getElem_cons_zero, List.getElem_cons_succ]
        refine wpAnyH_take (i := 16) (v := undef) rfl (by kernel_rfl) (by kernel_rfl) (by kernel_rfl) (fun _ _ _ h => h) (Or.inr ⟨by rfl, rfl⟩) (by assumption) ?_
        try simp only [Act.put, List.setIfInBounds_toArray, List.set_cons_zero, List.set_cons_succ, List.getElem_toArray, List.getElem_cons_zero, List.getElem_cons_succ]
        refine wpAnyH_take (i := 17) (v := undef) rfl (by kernel_rfl) (by kernel_rfl) (by kernel_rfl) (fun _ _ _ h => h) (Or.inr ⟨by rfl, rfl⟩) (by assumption) ?_
        try simp only [Act.put, List.setIfInBounds_toArray, List.set_cons_zero, List.set_cons_succ, List.getElem_toArray, List.getElem_cons_zero, List.getElem_cons_succ]
        refine wpAnyH_take (i := 18) (v := ?_) rfl (by kernel_rfl) (by kernel_rfl) (by kernel_rfl) (fun _ _ _ h => h) (Or.inl ⟨by rfl, ?_⟩) (by assumption) ?_
        rotate_left
        · (intro w' hS'; go_simp; try with_reducible rfl)
        try simp only [Act.put, List.setIfInBounds_toArray, List.set_cons_zero, List.set_cons_succ, List.getElem_toArray, List.getElem_cons_zero, List.getElem_cons_succ]
        refine wpAnyH_ready (rs := [19]) (by kernel_rfl) (by simp) ?_
        refine AllReadyH.cons rfl (fun K hK => ?_) AllReadyH.nil
        go_simp
        refine hK.out _ _ (by go_keep) (fun hHeld3 => ?_)
        clear hK K
        try simp only [Act.put, List.setIfInBounds_toArray, List.set_cons_zero, List.set_cons_succ, List.getElem_toArray, List.getElem_cons_zero, List.getElem_cons_succ]
        refine wpAnyH_take (i := 20) (v := ?_) rfl (by kernel_rfl) (by kernel_rfl) (by kernel_rfl) (fun _ _ _ h => h) (Or.inl ⟨by rfl, ?_⟩) (by assumption) ?_
        rotate_left
        · (intro w' hS'; go_simp; try with_reducible rfl)
        try simp only [Act.put, List.setIfInBounds_toArray, List.set_cons_zero, List.set_cons_succ, List.getElem_toArray, List.getElem_cons_zero, List.getElem_cons_succ]
        refine wpAnyH_done (by kernel_rfl) ?_ _
        have hE := ((hF4.setCell ⟨w.heap.size + 1, 0, none⟩ (.bool r) (.inl (by simp))).setCell ⟨w.heap.size + 1, 1, none⟩ (.slice A n cv) (.inl (by simp))).setCell ⟨w.heap.size + 1, 2, none⟩ (.int .i64 sc) (.inl (by simp))
        have hne := hR3.ne_block ((hF3.block (w.heap.size + 1) hlres (fun x => x)).trans hres) (by decide)
        have hS : Fr (· = w.heap.size + 1) w3 (((w3.setCell ⟨w.heap.size + 1, 0, none⟩ (.bool r)).setCell ⟨w.heap.size + 1, 1, none⟩ (.slice A n cv)).setCell ⟨w.heap.size + 1, 2, none⟩ (.int .i64 sc)) := ((Fr.set _ _ _ _).trans' (Fr.set _ _ _ _)).trans' (Fr.set _ _ _ _)
        have hR4 := hR3.fr hS (fun k hk e => hne (by rw [hk, e]))
        clear hF4 hS hne hR3 hHeld hHeld2 hHeld3
        go_wp2
        exact bodyPost_ret (v := .tuple #[.agg #[.bool r, .slice A n cv, .int .i64 sc], .bool false]) (by simp [results, Tryz.results4, go_sem, z0, z1, z2]) rfl ⟨_, n, F, by rw [hsc.out, hres0.out, hre.out], hR4, hDG.out, hE⟩
    · have hres0 := Lib.hid (show (decide (c < 10000000000000000000) && decide (0 ≤ s) && decide (s ≤ 19)) = false by simp [hc19])
      refine wp_region_held_drew (S := (fun w' => w'.cell? ⟨w.heap.size, 0, none⟩ = some (.bool neg) ∧ w'.cell? ⟨w.heap.size, 1, none⟩ = some (.int .u64 c) ∧ w'.cell? ⟨w.heap.size, 2, none⟩ = some (.int .i64 s) ∧ w'.cell? ⟨q, 0, none⟩ = some (.bool r) ∧ w'.cell? ⟨q, 1, none⟩ = some (.slice A n cv))) (by kernel_rfl) ⟨x0, x1, x2, x3, x4⟩ (fun hHeld => ?_)
      refine wpAnyH_take (i := 0) (v := ?_) rfl (by kernel_rfl) (by kernel_rfl) (by kernel_rfl) (fun _ _ _ h => h) (Or.inl ⟨by rfl, ?_⟩) (by assumption) ?_
      rotate_left
      · (intro w' hS'; go_simp; try with_reducible rfl)
      try simp only [Act.put, List.setIfInBounds_toArray, List.set_cons_zero, List.set_cons_succ, List.getElem_toArray, List.getElem_cons_zero]
      refine wpAnyH_take (i := 1) (v := ?_) rfl (by kernel_rfl) (by kernel_rfl) (by kernel_rfl) (fun _ _ _ h => h) (Or.inl ⟨by rfl, ?_⟩) (by assumption) ?_
      rotate_left
      · (intro w' hS'; go_simp; try with_reducible rfl)
      try simp only [Act.put, List.setIfInBounds_toArray, List.set_cons_zero, List.set_cons_succ, List.getElem_toArray, List.getElem_cons_zero, List.getElem_cons_succ]
      refine wpAnyH_take (i := 2) (v := ?_) rfl (by kernel_rfl) (by kernel_rfl) (by kernel_rfl) (fun _ _ _ h => h) (Or.inl ⟨by rfl, ?_⟩) (by assumption) ?_
      rotate_left
      · (intro w' hS'; go_simp; try with_reducible rfl)
      try simp only [Act.put, List.setIfInBounds_toArray, List.set_cons_zero, List.set_cons_succ, List.getElem_toArray, List.getElem_cons_zero, List.getElem_cons_succ]
      refine wpAnyH_take (i := 3) (v := ?_) rfl (by kernel_rfl) (by kernel_rfl) (by kernel_rfl) (fun _ _ _ h => h) (Or.inl ⟨by rfl, ?_⟩) (by assumption) ?_
      rotate_left
      · (intro w' hS'; go_simp; try with_reducible rfl)
      try simp only [Act.put, List.setIfInBounds_toArray, List.set_cons_zero, List.set_cons_succ, List.getElem_toArray, List.getElem_cons_zero, List.getElem_cons_succ]
      refine wpAnyH_take (i := 4) (v := ?_) rfl (by kernel_rfl) (by kernel_rfl) (by kernel_rfl) (fun _ _ _ h => h) (Or.inl ⟨by rfl, ?_⟩) (by assumption) ?_
      rotate_left
      · (intro w' hS'; go_simp; try with_reducible rfl)
      try simp only [Act.put, List.setIfInBounds_toArray, List.set_cons_zero, List.set_cons_succ, List.getElem_toArray, List.getElem_cons_zero, List.getElem_cons_succ]
      refine wpAnyH_take (i := 5) (v := ?_) rfl (by kernel_rfl) (by kernel_rfl) (by kernel_rfl) (fun _ _ _ h => h) (Or.inl ⟨by rfl, ?_⟩) (by assumption) ?_
      rotate_left
      · (intro w' hS'; go_simp; try with_reducible rfl)
      try simp only [Act.put, List.setIfInBounds_toArray, List.set_cons_zero, List.set_cons_succ, List.getElem_toArray, List.getElem_cons_zero, List.getElem_cons_succ]
      refine wpAnyH_take (i := 6) (v := ?_) rfl (by kernel_rfl) (by kernel_rfl) (by kernel_rfl) (fun _ _ _ h => h) (Or.inl ⟨by rfl, ?_⟩) (by assumption) ?_
      rotate_left
      · (intro w' hS'; go_simp; try with_reducible rfl)
      try simp only [Act.put, List.setIfInBounds_toArray, List.set_cons_zero, List.set_cons_succ, List.getElem_toArray, List.getElem_cons_zero, List.getElem_cons_succ]
      refine wpAnyH_ready (rs := [7]) (by kernel_rfl) (by simp) ?_
      refine AllReadyH.cons rfl (fun K hK => ?_) AllReadyH.nil
      go_simp
      refine (sp_Digits c n _ F U.drew (hUR.of_eq fun _ _ => rfl) hDG.out hn3).mono ?_
      rintro e w3 ⟨d, rfl, hd, hf⟩
      have hF3 : Fr NoS U w3 := (((Fr.refl NoS U).drew).trans' hf)
      have y0 := (hF3.cell (p := ⟨w.heap.size, 0, none⟩) hbU (fun x => x)).trans x0
      have y1 := (hF3.cell (p := ⟨w.heap.size, 1, none⟩) hbU (fun x => x)).trans x1
      have y2 := (hF3.cell (p := ⟨w.heap.size, 2, none⟩) hbU (fun x => x)).trans x2
      have y3 := (hF3.cell (p := ⟨q, 0, none⟩) hqU (fun x => x)).trans x3
      have y4 := (hF3.cell (p := ⟨q, 1, none⟩) hqU (fun x => x)).trans x4
      have e1 : decide (d ≤ 19) = false := decide_eq_false (fun h => hc19 (hd.le19.1 h))
      have e1z : decide ((d : Int) ≤ 19) = false := decide_eq_false (fun h => hc19 (hd.le19.1 (by omega)))
      have hres3 := (hf.block (w.heap.size + 1) hlres (fun x => x)).trans hres
      obtain ⟨z0, z1, z2, g0, g1, g2⟩ := cells3 hres3
      have hR3 := hUR.fr hF3 (fun _ _ x => x)
      have hF4 := hUF.trans' hF3
      refine hK.out _ _ ⟨y0, y1, y2, y3, y4⟩ (fun hHeld2 => ?_)
      clear hK K hf hres3
      try simp only [Act.put, List.setIfInBounds_toArray, List.set_cons_zero, List.set_cons_succ, List.getElem_toArray, List.getElem_cons_zero, List.getElem_cons_succ]
      refine wpAnyH_take (i := 8) (v := ?_) rfl (by kernel_rfl) (by kernel_rfl) (by kernel_rfl) (fun _ _ _ h => h) (Or.inl ⟨by rfl, ?_⟩) (by assumption) ?_
      rotate_left
      · (intro w' hS'; go_simp; try with_reducible rfl)
      try simp only [Act.put, List.setIfInBounds_toArray, List.set_cons_zero, List.set_cons_succ, List.getElem_toArray, List.getElem_cons_zero, List.getElem_cons_succ]
      refine wpAnyH_take (i := 9) (v := ?_) rfl (by kernel_rfl) (by kernel_rfl) (by kernel_rfl) (fun _ _ _ h => h) (Or.inl ⟨by rfl, ?_⟩) (by assumption) ?_
      rotate_left
      · (intro w' hS'; go_simp; try with_reducible rfl)
      try simp only [Act.put, List.setIfInBounds_toArray, List.set_cons_zero, List.set_cons_succ, List.getElem_toArray, List.getElem_cons_zero, List.getElem_cons_succ]
      refine wpAnyH_take (i := 10) (v := undef) rfl (by kernel_rfl) (by kernel_rfl) (by kernel_rfl) (fun _ _ _ h => h) (Or.inr ⟨by rfl, rfl⟩) (by assumption) ?_
      try simp only [Act.put, List.setIfInBounds_toArray, List.set_cons_zero, List.set_cons_succ, List.getElem_toArray, List.getElem_cons_zero, List.getElem_cons_succ]
      refine wpAnyH_take (i := 11) (v := undef) rfl (by kernel_rfl) (by kernel_rfl) (by kernel_rfl) (fun _ _ _ h => h) (Or.inr ⟨by rfl, rfl⟩) (by assumption) ?_
      try simp only [Act.put, List.setIfInBounds_toArray, List.set_cons_zero, List.set_cons_succ, List.getElem_toArray, List.getElem_cons_zero, List.getElem_cons_succ]
      refine wpAnyH_take (i := 12) (v := undef) rfl (by kernel_rfl) (by kernel_rfl) (by kernel_rfl) (fun _ _ _ h => h) (Or.inr ⟨by rfl, rfl⟩) (by assumption) ?_
      try simp only [Act.put, List.setIfInBounds_toArray, List.set_cons_zero, List.set_cons_succ, List.getElem_toArray, List.getElem_cons_zero, List.getElem_cons_succ]
      refine wpAnyH_take (i := 13) (v := ?_) rfl (by kernel_rfl) (by kernel_rfl) (by kernel_rfl) (fun _ _ _ h => h) (Or.inl ⟨by rfl, ?_⟩) (by assumption) ?_
      rotate_left
      · (intro w' hS'; go_simp; try with_reducible rfl)
      try simp only [Act.put, List.setIfInBounds_toArray, List.set_cons_zero, List.set_cons_succ, List.getElem_toArray, List.getElem_cons_zero, List.getElem_cons_succ]
      refine wpAnyH_take (i := 14) (v := ?_) rfl (by kernel_rfl) (by kernel_rfl) (by kernel_rfl) (fun _ _ _ h => h) (Or.inl ⟨by rfl, ?_⟩) (by assumption) ?_
      rotate_left
      · (intro w' hS'; go_simp; try with_reducible rfl)
      try simp only [Act.put, List.setIfInBounds_toArray, List.set_cons_zero, List.set_cons_succ, List.getElem_toArray, List.getElem_cons_zero, List.getElem_cons_succ]
      refine wpAnyH_take (i := 15) (v := undef) rfl (by kernel_rfl) (by kernel_rfl) (by kernel_rfl) (fun _ _ _ h => h) (Or.inr ⟨by rfl, rfl⟩) (by assumption) ?_
      try simp only [Act.put, List.setIfInBounds_toArray, List.set_cons_zero, List.set_cons_succ, List.getElem_toArray, List.getElem_cons_zero, List.getElem_cons_succ]
      refine wpAnyH_take (i := 16) (v := undef) rfl (by kernel_rfl) (by kernel_rfl) (by kernel_rfl) (fun _ _ _ h => h) (Or.inr ⟨by rfl, rfl⟩) (by assumption) ?_
      try simp only [Act.put, List.setIfInBounds_toArray, List.set_cons_zero, List.set_cons_succ, List.getElem_toArray, List.getElem_cons_zero, List.getElem_cons_succ]
      refine wpAnyH_take (i := 17) (v := undef) rfl (by kernel_rfl) (by kernel_rfl) (by kernel_rfl) (fun _ _ _ h => h) (Or.inr ⟨by rfl, rfl⟩) (by assumption) ?_
      try simp only [Act.put, List.setIfInBounds_toArray, List.set_cons_zero, List.set_cons_succ, List.getElem_toArray, List.getElem_cons_zero, List.getElem_cons_succ]
      refine wpAnyH_take (i := 18) (v := ?_) rfl (by kernel_rfl) (by kernel_rfl) (by kernel_rfl) (fun _ _ _ h => h) (Or.inl ⟨by rfl, ?_⟩) (by assumption) ?_
      rotate_left
      · (intro w' hS'; go_simp; try with_reducible rfl)
      try simp only [Act.put, List.setIfInBounds_toArray, List.set_cons_zero, List.set_cons_succ, List.getElem_toArray, List.getElem_cons_zero, List.getElem_cons_succ]
      refine wpAnyH_ready (rs := [19]) (by kernel_rfl) (by simp) ?_
      refine AllReadyH.cons rfl (fun K hK => ?_) AllReadyH.nil
      go_simp
      refine hK.out _ _ (by go_keep) (fun hHeld3 => ?_)
      clear hK K
      try simp only [Act.put, List.setIfInBounds_toArray, List.set_cons_zero, List.set_cons_succ, List.getElem_toArray, List.getElem_cons_zero, List.getElem_cons_succ]
      refine wpAnyH_take (i := 20) (v := ?_) rfl (by kernel_rfl) (by kernel_rfl) (by kernel_rfl) (fun _ _ _ h => h) (Or.inl ⟨by rfl, ?_⟩) (by assumption) ?_
      rotate_left
      · (intro w' hS'; go_simp; try with_reducible rfl)
      try simp only [Act.put, List.setIfInBounds_toArray, List.set_cons_zero, List.set_cons_succ, List.getElem_toArray, List.getElem_cons_zero, List.getElem_cons_succ]
      refine wpAnyH_done (by kernel_rfl) ?_ _
      have hE := ((hF4.setCell ⟨w.heap.size + 1, 0, none⟩ (.bool r) (.inl (by simp))).setCell ⟨w.heap.size + 1, 1, none⟩ (.slice A n cv) (.inl (by simp))).setCell ⟨w.heap.size + 1, 2, none⟩ (.int .i64 sc) (.inl (by simp))
      have hne := hR3.ne_block ((hF3.block (w.heap.size + 1) hlres (fun x => x)).trans hres) (by decide)
      have hS : Fr (· = w.heap.size + 1) w3 (((w3.setCell ⟨w.heap.size + 1, 0, none⟩ (.bool r)).setCell ⟨w.heap.size + 1, 1, none⟩ (.slice A n cv)).setCell ⟨w.heap.size + 1, 2, none⟩ (.int .i64 sc)) := ((Fr.set _ _ _ _).trans' (Fr.set _ _ _ _)).trans' (Fr.set _ _ _ _)
      have hR4 := hR3.fr hS (fun k hk e => hne (by rw [hk, e]))
      clear hF4 hS hne hR3 hHeld hHeld2 hHeld3
      go_wp2
      exact bodyPost_ret (v := .tuple #[.agg #[.bool r, .slice A n cv, .int .i64 sc], .bool false]) (by simp [results, Tryz.results4, go_sem, z0, z1, z2]) rfl ⟨_, n, F, by rw [hsc.out, hres0.out, hre.out], hR4, hDG.out, hE⟩
end Go.Proofs.YtkholmbfeghhpaaGreatDoor
