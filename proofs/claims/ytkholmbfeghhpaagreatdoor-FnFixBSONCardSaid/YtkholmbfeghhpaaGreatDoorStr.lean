/- How long a natural number is, written out. Conditions: the digits to the base 10^9 lie in memory. -/
import Derived.Test.YtkholmbfeghhpaaGreatDoorSpec
import Derived.Laws.BytesArg
namespace Go.Proofs.YtkholmbfeghhpaaGreatDoor
open Go.RowKit

theorem Digits9.last {c n : Nat} {F : Nat → Nat} (h : Digits9 c (n + 1) F) : F n = c / B9 ^ n ∧ 0 < F n ∧ F n < 1000000000 := by
  have h1 := h.dig n (by omega)
  have h2 := h.all
  rw [Nat.pow_succ, ← Nat.div_div_eq_div_mul, B9_eq] at h2
  have h3 : c / B9 ^ n % B9 = c / B9 ^ n := by rw [B9_eq] at *; omega
  have h4 : 0 < c / B9 ^ n := by
    rcases h.top with h | h
    · omega
    · simpa using h
  rw [h3] at h1
  refine ⟨h1, by omega, ?_⟩
  rw [B9_eq] at *
  omega
/-- The digits' number, put together. -/
theorem Digits9.digs {c n d : Nat} {F : Nat → Nat} (h : Digits9 c (n + 1) F) (hd : Digs (F n) d) : Digs c (9 * n + d) := by
  obtain ⟨h1, h2, h3⟩ := h.last
  have hb : B9 ^ n = 10 ^ (9 * n) := by rw [Nat.pow_mul, show (10 : Nat) ^ 9 = B9 from rfl]
  have hp : 0 < B9 ^ n := Nat.pow_pos (by decide)
  have hd0 : d ≠ 0 := by
    rintro rfl
    have := hd.1
    simp at this
    omega
  rcases hd with ⟨hl, hu | hu⟩
  · exact absurd hu hd0
  have e1 : c = B9 ^ n * F n + c % B9 ^ n := by rw [h1]; exact (Nat.div_add_mod c _).symm
  have e2 : c % B9 ^ n < B9 ^ n := Nat.mod_lt _ hp
  clear h1
  generalize c % B9 ^ n = r at e1 e2
  constructor
  · rw [Nat.pow_add, ← hb]
    have : B9 ^ n * (F n + 1) ≤ B9 ^ n * 10 ^ d := Nat.mul_le_mul_left _ hl
    rw [Nat.mul_add] at this
    omega
  · right
    rw [show 9 * n + d - 1 = 9 * n + (d - 1) by omega, Nat.pow_add, ← hb]
    have : B9 ^ n * 10 ^ (d - 1) ≤ B9 ^ n * F n := Nat.mul_le_mul_left _ hu
    omega
theorem size_strOfNums (xs : List Int) : (strOfNums xs).size = xs.length := by simp [strOfNums, ByteArray.size]

theorem Row.store {K : IntKind} {T : TypeId} {w : World} {g n c : Nat} {F : Nat → Nat} (h : Row K T w (.slice (some ⟨g, 0, none⟩) n c) n F) (i x : Nat) : Row K T (w.setCell ⟨g, i, none⟩ (.int K (x : Nat))) (.slice (some ⟨g, 0, none⟩) n c) n (upd F i x) := by
  rcases h with ⟨e, _⟩ | ⟨g', c', cs, e, h1, h2, hc, hs, hr⟩
  · cases e
  · simp only [Value.slice.injEq, Option.some.injEq, Addr.mk.injEq] at e
    obtain ⟨⟨rfl, _⟩, _, rfl⟩ := e
    refine .inr ⟨g, c, cs.setIfInBounds i (.int K (x : Nat)), rfl, h1, h2, ?_, by simp [hs], fun j hj => ?_⟩
    · simp [World.setCell, Array.getElem?_modify, hc]
    · rw [Array.getElem?_setIfInBounds]
      by_cases e : i = j
      · subst e; rw [if_pos rfl, if_pos (by omega), upd_same]
      · rw [if_neg e, hr j hj, upd_other _ _ _ _ (fun x => e x.symm)]

set_option maxRecDepth 100000 in
set_option maxHeartbeats 4000000 in
theorem sp_String (g n N cap c : Nat) (F : Nat → Nat) (w : World) (hN : N = n + 1) (hR : Row .u32 T32 w (.slice (some ⟨g, 0, none⟩) N cap) N F) (hD : Digits9 c (n + 1) F) (hn : n ≤ 10) :
    Calls Tryz.prog 18 #[.slice (some ⟨g, 0, none⟩) N cap] w fun e w' =>
      ∃ s : ByteArray, e = .returned (.string s) ∧ Digs c s.size ∧ Fr NoS w w' := by
  have HR := Lib.hid hR
  have HD := Lib.hid hD
  have hgl : g < w.heap.size := hR.lt rfl
  have hF : ∀ j, j < n + 1 → F j < 1000000000 := fun j hj => by rw [hD.dig j hj, B9_eq]; omega
  have HF := Lib.hid hF
  have HN := Lib.hid hN
  have hNl : N ≤ 11 := by omega
  clear hR hD hF hN
  go_enter Tryz.func18, Tryz.ntmps18
  go_wp2
  go_loopw [3, 11] (fun v x wr => ∃ (k m : Nat) (G : Nat → Nat), k ≤ N ∧ x = .int .i64 k ∧ Row .u8 TB8 wr v m G ∧ m ≤ 9 * k ∧ Hid (k ≤ n → m = 9 * k) ∧ Hid (k = n + 1 → Digs c m) ∧ Fr NoS w wr ∧ Hid (∀ k, v.ownBlock = some k → w.heap.size ≤ k))
    (fun _ x _ => N - (intOf x).toNat)
  case atStart => exact ⟨0, 0, fun _ => 0, by omega, rfl, Row.nil _ _ _ _, by omega, fun _ => rfl, fun h => by omega, Fr.refl _ _, fun k hk => by simp [Value.ownBlock] at hk⟩
  case round =>
    obtain ⟨k, m, G, hk, rfl, hR, hm9, hm, hL, hfr, hown⟩ := hrel
    rcases Nat.lt_or_ge k N with hlt | hge
    · have hg1 : decide (k < N) = true := decide_eq_true hlt
      have hcell := (HR.out.fr hfr (fun _ _ x => x)).cell hlt
      rw [Nat.zero_add] at hcell
      obtain ⟨d, hd⟩ : ∃ d, Hid (d = F k) := ⟨_, Lib.hid rfl⟩
      have hdl : d < 1000000000 := by rw [hd.out]; exact HF.out k (by have := HN.out; omega)
      rw [← hd.out] at hcell
      go_wp2
      go_loopw [3, 5, 6] (fun v x y wr => ∃ (i m : Nat) (G : Nat → Nat) (D : Nat), i ≤ 9 ∧ x = .int .u32 D ∧ y = .int .i64 i ∧ Row .u8 TB8 wr v m G ∧ Hid (D = F k / 10 ^ i) ∧ D < 1000000000 ∧ Hid (m = 9 * k + i) ∧ Hid (k = n → i = 0 ∨ 10 ^ (i - 1) ≤ F k) ∧ Fr NoS w wr ∧ Hid (∀ k, v.ownBlock = some k → w.heap.size ≤ k))
        (fun _ _ y _ => 9 - (intOf y).toNat)
      case atStart => exact ⟨0, m, G, d, by omega, rfl, rfl, hR, by rw [hd.out]; simp [Hid], hdl, by have := hm.out; have := HN.out; show _ = _; omega, fun _ => .inl rfl, hfr, hown⟩
      case round =>
        clear hm9 hm hL hfr hown hR
        obtain ⟨i, m, G, D, hi, rfl, rfl, hR, hDD, hDl, hmm, hL, hfr, hown⟩ := hrel
        have hml : m ≤ 200 := by have := hmm.out; omega
        rcases Nat.lt_or_ge i 9 with hi9 | hi9
        · have d1 : decide (i < 9) = true := decide_eq_true hi9
          rcases Nat.eq_zero_or_pos D with hD0 | hD0
          · subst hD0
            have d2 : decide (0 < 0) = false := by simp
            rcases Nat.lt_or_ge k n with hkn | hkn
            · have hkN : k + 1 < N := by have := HN.out; omega
              have d3 : decide ((k : Int) + 1 < N) = true := decide_eq_true (by omega)
              have hRa : ∀ o, Row .u8 TB8 (wr.alloc o) u3 m G := fun o => hR.fr ((Fr.refl NoS wr).alloc o) (fun _ _ x => x)
              have hy : ∀ c0 : Int, c0 = ((48 + 0 % 10 : Nat) : Int) → (wr.alloc (.cells #[.int .u8 c0] TB8 (0, 0))).cell? ⟨wr.heap.size, 0, none⟩ = some (.int .u8 ((48 + 0 % 10 : Nat) : Int)) := by
                rintro _ rfl
                exact cell_of_heap (heap_alloc_new wr _) rfl
              go_wp2_with (at_builtin; (refine wpList_push (K := .u8) (T := TB8) rfl (.tmp 31) (.tmp 36) 33 rfl Tryz.underlying33 info8 rfl (by omega) u3 m (48 + 0 % 10) rfl (hRa _) ⟨wr.heap.size, 0, none⟩ 1 rfl (hy _ (by omega)) rfl (by omega) ?_; intro g' c' w' hR' hf' hat'))
              go_roundw
              have hsz := hfr.size
              case rel =>
                refine ⟨i + 1, m + 1, upd G m (48 + 0 % 10), 0 / 10, by omega, int_eq (by omega), by go_num, hR', ?_, by omega, by have := hmm.out; show _ = _; omega, fun hkn => .inr ?_, (hfr.trans' ((Fr.refl NoS wr).alloc _)).trans hf' (fun i hi e => ?_), fun i hi => ?_⟩
                · show _ = _
                  rw [Nat.pow_succ, ← Nat.div_div_eq_div_mul, ← hDD.out]
                · rw [Nat.add_sub_cancel]
                  omega
                · have := hown.out i e; omega
                · simp only [Value.ownBlock, Option.some.injEq] at hi
                  subst hi
                  rcases hat' with e | e
                  · exact hown.out _ e
                  · rw [World.size_alloc] at e; omega
              case measure => simp [intOf]; omega
            · have hkN : ¬ (k + 1 < N) := by have := HN.out; omega
              have d3 : decide ((k : Int) + 1 < N) = false := decide_eq_false (by omega)
              obtain rfl : k = n := by have := HN.out; omega
              go_wp2
              go_roundw
              case rel =>
                refine ⟨k + 1, m, G, by omega, by go_num, hR, by have := hmm.out; omega, fun h => by have := hmm.out; omega, fun h => ?_, hfr, hown⟩
                rw [hmm.out]
                refine HD.out.digs ⟨?_, hL.out rfl⟩
                have h0 := hDD.out
                rcases Nat.lt_or_ge (F k) (10 ^ i) with h1 | h1
                · exact h1
                · have := Nat.div_pos h1 (Nat.pow_pos (by omega)); omega
              case measure => simp [intOf]; omega
          · have d2 : decide (0 < D) = true := decide_eq_true hD0
            have hRa : ∀ o, Row .u8 TB8 (wr.alloc o) u3 m G := fun o => hR.fr ((Fr.refl NoS wr).alloc o) (fun _ _ x => x)
            have hy : ∀ c0 : Int, c0 = ((48 + D % 10 : Nat) : Int) → (wr.alloc (.cells #[.int .u8 c0] TB8 (0, 0))).cell? ⟨wr.heap.size, 0, none⟩ = some (.int .u8 ((48 + D % 10 : Nat) : Int)) := by
              rintro _ rfl
              exact cell_of_heap (heap_alloc_new wr _) rfl
            go_wp2_with (at_builtin; (refine wpList_push (K := .u8) (T := TB8) rfl (.tmp 31) (.tmp 36) 33 rfl Tryz.underlying33 info8 rfl (by omega) u3 m (48 + D % 10) rfl (hRa _) ⟨wr.heap.size, 0, none⟩ 1 rfl (hy _ (by omega)) rfl (by omega) ?_; intro g' c' w' hR' hf' hat'))
            go_roundw
            have hsz := hfr.size
            case rel =>
              refine ⟨i + 1, m + 1, upd G m (48 + D % 10), D / 10, by omega, int_eq (by omega), by go_num, hR', ?_, by omega, by have := hmm.out; show _ = _; omega, fun hkn => .inr ?_, (hfr.trans' ((Fr.refl NoS wr).alloc _)).trans hf' (fun i hi e => ?_), fun i hi => ?_⟩
              · show _ = _
                rw [Nat.pow_succ, ← Nat.div_div_eq_div_mul, ← hDD.out]
              · rw [Nat.add_sub_cancel]
                have h2 := (Nat.le_div_iff_mul_le (x := 1) (y := F k) (Nat.pow_pos (n := i) (show 0 < 10 by omega))).1 (by rw [← hDD.out]; omega)
                rw [Nat.one_mul] at h2; exact h2
              · have := hown.out i e; omega
              · simp only [Value.ownBlock, Option.some.injEq] at hi
                subst hi
                rcases hat' with e | e
                · exact hown.out _ e
                · rw [World.size_alloc] at e; omega
            case measure => simp [intOf]; omega
        · obtain rfl : i = 9 := by omega
          have d1 : decide (9 < 9) = false := by simp
          go_wp2
          go_roundw
          case rel =>
            refine ⟨k + 1, m, G, by omega, by go_num, hR, by have := hmm.out; omega, fun h => by have := hmm.out; omega, fun h => ?_, hfr, hown⟩
            obtain rfl : k = n := by omega
            rw [hmm.out]
            exact HD.out.digs ⟨HF.out k (by omega), hL.out rfl⟩
          case measure => simp [intOf]; omega
    · obtain rfl : k = N := by omega
      have hLn := hL.out HN.out
      have hc0 : 0 < c := by
        obtain ⟨l1, l2, l3⟩ := HD.out.last
        rcases Nat.eq_zero_or_pos c with h0 | h0
        · rw [h0, Nat.zero_div] at l1; omega
        · exact h0
      have hm0 : 0 < m := by
        rcases Nat.eq_zero_or_pos m with h0 | h0
        · subst h0
          have := hLn.1
          simp at this
          omega
        · exact h0
      have hml : m ≤ 200 := by omega
      have HL := Lib.hid hLn
      obtain ⟨gv, cv, rfl⟩ : ∃ gv cv, u3 = .slice (some ⟨gv, 0, none⟩) m cv := by
        rcases hR with ⟨_, h0⟩ | ⟨gv, cv, cs, rfl, _⟩
        · omega
        · exact ⟨_, _, rfl⟩
      have hgv := hown.out gv rfl
      have hbm : ((m : Int) == 0) = false := by simp; omega
      clear hLn hL hown hm hm9 hc0
      go_wp2
      go_loopw [7, 8] (fun x y wr => ∃ (a b : Nat) (G : Nat → Nat), x = .int .i64 a ∧ y = .int .i64 b ∧ a + b + 1 = m ∧ Row .u8 TB8 wr (.slice (some ⟨gv, 0, none⟩) m cv) m G ∧ Fr NoS w wr)
        (fun x _ _ => m - (intOf x).toNat)
      case atStart => exact ⟨0, m - 1, G, rfl, by go_num, by omega, hR, hfr⟩
      case round =>
        clear hR hfr
        obtain ⟨a, b, G, rfl, rfl, hab, hR, hfr⟩ := hrel
        rcases Nat.lt_or_ge a b with hl | hl
        · have d1 : decide (a < b) = true := decide_eq_true hl
          have ca := hR.cell (j := a) (by omega)
          have cb := hR.cell (j := b) (by omega)
          rw [Nat.zero_add] at ca cb
          have fa := hR.free a
          have fb := hR.free b
          obtain ⟨p, hp⟩ : ∃ p, Hid (p = G a) := ⟨_, Lib.hid rfl⟩
          obtain ⟨q, hq⟩ : ∃ q, Hid (q = G b) := ⟨_, Lib.hid rfl⟩
          rw [← hp.out] at ca
          rw [← hq.out] at cb
          have hne : a ≠ b := by omega
          have hne2 : b ≠ a := by omega
          have hall : a < m := by omega
          have hbl : b < m := by omega
          go_wp2
          go_region
          go_wp2
          go_roundw
          case rel =>
            have h1 := (hR.store a q).store b p
            have h2 := (hfr.setCell ⟨gv, a, none⟩ (.int .u8 q) (.inl hgv)).setCell ⟨gv, b, none⟩ (.int .u8 p) (.inl hgv)
            exact ⟨a + 1, b - 1, _, by go_num, by go_num, by omega, h1.of_eq fun _ _ => rfl, h2.drew⟩
          case measure => simp [intOf]; omega
        · have d1 : decide (a < b) = false := decide_eq_false (by omega)
          have cvt := run_convert_bytes_arg (P := Tryz.prog) wr 33 TB8 Tryz.underlying33 Tryz.underlying5 gv 0 m cv ((List.range m).map fun j => (G j : Int)) (by simp) (fun i hi => by
            rw [hR.cell hi]; simp [List.getD, List.getElem?_range hi]) 9 Tryz.underlying9
          go_wp2
          go_ret
          refine ⟨_, rfl, ?_, hfr⟩
          rw [size_strOfNums, List.length_map, List.length_range]
          exact HL.out
end Go.Proofs.YtkholmbfeghhpaaGreatDoor
