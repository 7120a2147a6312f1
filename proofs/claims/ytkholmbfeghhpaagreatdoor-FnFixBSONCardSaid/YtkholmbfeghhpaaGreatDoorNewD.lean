/- Decimals, made of a sign, digits and a scale. Conditions: the digits and the scale fit. -/
import Derived.Test.YtkholmbfeghhpaaGreatDoorPrec
namespace Go.Proofs.YtkholmbfeghhpaaGreatDoor
open Go.RowKit

theorem gv_hasPrec (px n N : Nat) (vx : Value) (X : Nat → Nat) (w : World) (hx : IntRd w px false vx n X) (hV : Vb BB X 0 n = N) (hN : N < 10 ^ 19) (hG : Glob w) :
    Calls Tryz.prog 52 #[.pointer (some ⟨px, 0, none⟩), .int .i64 20] w fun e w' => e = .returned (.bool false) ∧ Fr NoS w w' := by
  obtain ⟨T, hT⟩ : ∃ T : Nat, Hid (T = 10 ^ 19) := ⟨10 ^ 19, Lib.hid rfl⟩
  rw [← hT.out] at hN
  have HN := Lib.hid hN
  have HG := Lib.hid hG
  have HX := Lib.hid hx
  have HV := Lib.hid hV
  clear hN hG hx hV
  go_enter Tryz.func52, Tryz.ntmps52
  go_wp2_with fail
  have B := gv_bpow10 19 w (by omega) HG.out
  rw [← hT.out] at B
  refine B.mono ?_
  rintro e w1 ⟨p, rfl, hN1⟩
  clear B
  have HN1 := Lib.hid hN1
  clear hN1
  go_wp2_with fail
  have C1 := cmp_pow px n 19 vx X w w1 p 7 HX.out (hT.out ▸ HN1.out)
  rw [HV.out, ← hT.out] at C1
  refine C1.mono ?_
  rintro e w2 ⟨rfl, hf2⟩
  clear C1
  have hg : decide (0 ≤ cmpI N T) = false := by rw [cmpI_lt HN.out]; rfl
  generalize cmpI N T = r at *
  go_wp2
  go_ret
  exact ⟨rfl, hf2⟩

/-- What three cells of a block hold. -/
theorem cells3 {w : World} {g : Nat} {a b c : Value} {t : TypeId} (h : w.heap[g]? = some (.cells #[a, b, c] t (0, 0))) :
    w.cell? ⟨g, 0, none⟩ = some a ∧ w.cell? ⟨g, 1, none⟩ = some b ∧ w.cell? ⟨g, 2, none⟩ = some c ∧ w.frozen? ⟨g, 0, none⟩ = false ∧ w.frozen? ⟨g, 1, none⟩ = false ∧ w.frozen? ⟨g, 2, none⟩ = false := by
  simp [World.cell?, World.frozen?, h]

theorem gv_newUnsafe (neg : Bool) (c s : Nat) (w : World) (hs : s ≤ 19) (hc : c < BB) :
    Calls Tryz.prog 40 #[.bool neg, .int .u64 c, .int .i64 s] w fun e w' => e = .returned (.agg #[.bool (neg && decide (0 < c)), .int .i8 s, .int .u64 c]) ∧ Fr NoS w w' := by
  by_cases h0 : c = 0
  · subst h0
    have hb : (((0 : Nat) : Int) == 0) = true := by simp
    go_enter Tryz.func40, Tryz.ntmps40
    go_wp2
    exact bodyPost_ret (v := .agg #[.bool false, .int .i8 s, .int .u64 0]) (by simp [results, Tryz.results40, go_sem]) rfl ⟨by simp, (Fr.refl _ _).alloc _⟩
  · have hb : ((c : Int) == 0) = false := by simp; exact h0
    have hp : 0 < c := by omega
    go_enter Tryz.func40, Tryz.ntmps40
    go_wp2
    exact bodyPost_ret (v := .agg #[.bool neg, .int .i8 s, .int .u64 c]) (by simp [results, Tryz.results40, go_sem]) rfl ⟨by simp [hp], (Fr.refl _ _).alloc _⟩

/-- A made decimal, handed back with no error. -/
theorem gv_newSafe (neg : Bool) (c s : Nat) (w : World) (hs : s ≤ 19) (hc : c < 10000000000000000000) :
    Calls Tryz.prog 30 #[.bool neg, .int .u64 c, .int .i64 s] w fun e w' => e = .returned (.tuple #[.agg #[.bool (neg && decide (0 < c)), .int .i8 s, .int .u64 c], .nilIface]) ∧ Fr NoS w w' := by
  have b1 : decide ((s : Int) < 0) = false := by simp
  have b2 : decide (19 < s) = false := decide_eq_false (by omega)
  have b3 : decide (9999999999999999999 < c) = false := decide_eq_false (by omega)
  have C := fun u => gv_newUnsafe neg c s u hs (by rw [BB_eq]; omega)
  have HC := Lib.hid C
  clear C
  generalize decide (0 < c) = d at HC ⊢
  go_enter Tryz.func30, Tryz.ntmps30
  go_wp2_with fail
  refine (HC.out _).mono ?_
  rintro e w1 ⟨rfl, hf⟩
  have hh := hf.block w.heap.size (by simp) (fun x => x)
  rw [heap_alloc_new] at hh
  obtain ⟨k0, k1, k2, f0, f1, f2⟩ := cells3 hh
  go_wp2
  refine bodyPost_ret (v := .tuple #[.agg #[.bool (neg && d), .int .i8 s, .int .u64 c], .nilIface]) (by simp [results, Tryz.results30, go_sem, k0, k1, k2]) rfl ⟨rfl, ?_⟩
  have hA : Fr NoS w w1 := ((Fr.refl NoS w).alloc _).trans' hf
  exact ((hA.setCell _ _ (.inl (Nat.le_refl _))).setCell _ _ (.inl (Nat.le_refl _))).setCell _ _ (.inl (Nat.le_refl _))

theorem gv_ZzMake (neg : Bool) (c s : Nat) (w : World) (hs : s ≤ 19) (hc : c < 10000000000000000000) :
    Calls Tryz.prog 19 #[.bool neg, .int .u64 c, .int .i64 s] w fun e w' => e = .returned (.tuple #[.agg #[.bool (neg && decide (0 < c)), .int .i8 s, .int .u64 c], .nilIface]) ∧ Fr NoS w w' := by
  have C := fun u => gv_newSafe neg c s u hs hc
  have HC := Lib.hid C
  clear C
  generalize decide (0 < c) = d at HC ⊢
  go_enter Tryz.func19, Tryz.ntmps19
  go_wp2_with fail
  refine (HC.out _).mono ?_
  rintro e w1 ⟨rfl, hf⟩
  have hh := hf.block w.heap.size (by simp) (fun x => x)
  rw [heap_alloc_new] at hh
  obtain ⟨k0, k1, k2, f0, f1, f2⟩ := cells3 hh
  go_wp2
  refine bodyPost_ret (v := .tuple #[.agg #[.bool (neg && d), .int .i8 s, .int .u64 c], .nilIface]) (by simp [results, Tryz.results19, go_sem, k0, k1, k2]) rfl ⟨rfl, ?_⟩
  have hA : Fr NoS w w1 := ((Fr.refl NoS w).alloc _).trans' hf
  exact ((hA.setCell _ _ (.inl (Nat.le_refl _))).setCell _ _ (.inl (Nat.le_refl _))).setCell _ _ (.inl (Nat.le_refl _))

theorem low_word {X : Nat → Nat} {n N : Nat} (ht : Top X n) (hV : Vb BB X 0 n = N) (hN : N < BB) : (if n = 0 then 0 else X 0) = N := by
  by_cases h0 : n = 0
  · subst h0; rw [if_pos rfl]; exact hV
  · rw [if_neg h0]
    by_cases h1 : n = 1
    · subst h1; rw [V_one] at hV; exact hV
    · obtain ⟨k, rfl⟩ : ∃ k, n = k + 2 := ⟨n - 2, by omega⟩
      rcases ht with ht | ht
      · omega
      · have h2 : BB ^ (k + 1) ≤ Vb BB X 0 (k + 1 + 1) := V_top (by rw [Nat.zero_add]; simpa using ht)
        have h3 : BB ^ 1 ≤ BB ^ (k + 1) := Nat.pow_le_pow_right BB_pos (by omega)
        rw [Nat.pow_one] at h3
        have h4 : Vb BB X 0 (k + 1 + 1) = N := hV
        omega
theorem Digs.le {N d k : Nat} (h : Digs N d) (hN : N < 10 ^ k) : d ≤ k := by
  rcases h.2 with h0 | h0
  · omega
  · refine Nat.le_of_not_lt fun hlt => ?_
    have : 10 ^ k ≤ 10 ^ (d - 1) := Nat.pow_le_pow_right (by omega) (by omega)
    omega

set_option maxRecDepth 100000 in
set_option maxHeartbeats 1000000 in
theorem gv_newFromBint (neg : Bool) (px n N s : Nat) (vx : Value) (X : Nat → Nat) (w : World) (hx : IntRd w px false vx n X) (hV : Vb BB X 0 n = N) (hN : N < 10000000000000000000) (hs : s ≤ 19) (hG : Glob w) :
    Calls Tryz.prog 39 #[.bool neg, .pointer (some ⟨px, 0, none⟩), .int .i64 s, .int .i64 0] w fun e w' => e = .returned (.tuple #[.agg #[.bool (neg && decide (0 < N)), .int .i8 s, .int .u64 N], .nilIface]) ∧ Fr NoS w w' := by
  have hA : ∀ o, Fr NoS w (w.alloc o) := fun o => (Fr.refl NoS w).alloc o
  have P := fun u (f : Fr NoS w u) => gv_prec px n N vx X u (hx.fr f (fun x => x) (fun _ _ x => x)) hV (Nat.le_of_lt (Nat.lt_trans hN (by decide))) (hG.fr f)
  have Q := fun u (f : Fr NoS w u) => gv_hasPrec px n N vx X u (hx.fr f (fun x => x) (fun _ _ x => x)) hV hN (hG.fr f)
  have I := fun u (f : Fr NoS w u) => gv_fint px n false vx X u (hx.fr f (fun x => x) (fun _ _ x => x))
  rw [low_word hx.top hV (by rw [BB_eq]; omega)] at I
  have S := fun u => gv_newSafe neg N s u hs hN
  have hd : ∀ d, Digs N d → d ≤ 19 := fun d h => h.le hN
  have HP := Lib.hid P
  have HQ := Lib.hid Q
  have HI := Lib.hid I
  have HS := Lib.hid S
  have HD := Lib.hid hd
  clear P Q I S hd hx hV hG hN
  generalize decide (0 < N) = dd at HS ⊢
  go_enter Tryz.func39, Tryz.ntmps39
  go_wp2_with fail
  refine (HP.out _ (hA _)).mono ?_
  rintro e w1 ⟨d, rfl, hd, hf1⟩
  have hh := hf1.block w.heap.size (by simp) (fun x => x)
  rw [heap_alloc_new] at hh
  replace hf1 := (hA _).trans' hf1
  have hd19 := HD.out d hd
  have b1 : decide ((19 : Int) < d - s) = false := decide_eq_false (by omega)
  have b2 : decide ((s : Int) < 0) = false := decide_eq_false (by omega)
  have b3 : decide (19 < s) = false := decide_eq_false (by omega)
  have b4 : decide (19 < d) = false := decide_eq_false (by omega)
  clear hd
  rcases Nat.lt_or_ge s d with hsd | hsd
  · have b5 : decide (d ≤ s) = false := decide_eq_false (by omega)
    have b6 : decide (s < d) = true := decide_eq_true hsd
    go_wp2_with fail
    refine (HQ.out _ hf1).mono ?_
    rintro e w2 ⟨rfl, hf2⟩
    go_wp2_with fail
    refine (HI.out _ (hf1.trans' hf2)).mono ?_
    rintro e w3 ⟨rfl, rfl⟩
    go_wp2_with fail
    refine (HS.out _).mono ?_
    rintro e w4 ⟨rfl, hf4⟩
    have hh4 := (hf4.block w.heap.size (hf2.lt (Array.getElem?_eq_some_iff.1 hh).1) (fun x => x)).trans ((hf2.block w.heap.size (Array.getElem?_eq_some_iff.1 hh).1 (fun x => x)).trans hh)
    obtain ⟨k0, k1, k2, f0, f1, f2⟩ := cells3 hh4
    go_wp2
    refine bodyPost_ret (v := .tuple #[.agg #[.bool (neg && dd), .int .i8 s, .int .u64 N], .nilIface]) (by simp [results, Tryz.results39, go_sem, k0, k1, k2]) rfl ⟨rfl, ?_⟩
    have hB : Fr NoS w w4 := (hf1.trans' hf2).trans' hf4
    exact ((hB.setCell _ _ (.inl (Nat.le_refl _))).setCell _ _ (.inl (Nat.le_refl _))).setCell _ _ (.inl (Nat.le_refl _))
  · have b5 : decide (d ≤ s) = true := decide_eq_true hsd
    have b6 : decide (s < d) = false := decide_eq_false (by omega)
    go_wp2_with fail
    refine (HQ.out _ hf1).mono ?_
    rintro e w2 ⟨rfl, hf2⟩
    go_wp2_with fail
    refine (HI.out _ (hf1.trans' hf2)).mono ?_
    rintro e w3 ⟨rfl, rfl⟩
    go_wp2_with fail
    refine (HS.out _).mono ?_
    rintro e w4 ⟨rfl, hf4⟩
    have hh4 := (hf4.block w.heap.size (hf2.lt (Array.getElem?_eq_some_iff.1 hh).1) (fun x => x)).trans ((hf2.block w.heap.size (Array.getElem?_eq_some_iff.1 hh).1 (fun x => x)).trans hh)
    obtain ⟨k0, k1, k2, f0, f1, f2⟩ := cells3 hh4
    go_wp2
    refine bodyPost_ret (v := .tuple #[.agg #[.bool (neg && dd), .int .i8 s, .int .u64 N], .nilIface]) (by simp [results, Tryz.results39, go_sem, k0, k1, k2]) rfl ⟨rfl, ?_⟩
    have hB : Fr NoS w w4 := (hf1.trans' hf2).trans' hf4
    exact ((hB.setCell _ _ (.inl (Nat.le_refl _))).setCell _ _ (.inl (Nat.le_refl _))).setCell _ _ (.inl (Nat.le_refl _))
end Go.Proofs.YtkholmbfeghhpaaGreatDoor
