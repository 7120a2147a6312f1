/- A decimal out of sixteen bytes. Conditions: the bytes are such as the writing made. -/
import Derived.Test.YtkholmbfeghhpaaGreatDoorBson
import Derived.Recover
namespace Go.Proofs.YtkholmbfeghhpaaGreatDoor
open Go.RowKit

theorem infoB : (Tryz.prog.info? TB).map (fun i => (i.zero, i.size, i.bytes)) = some (some (.int .u8 0), 1, 1) := by kernel_rfl
theorem madeB (n : Nat) : madeCells #[Value.int .u8 0] n = Array.replicate n (.int .u8 0) := by
  apply Array.ext
  · simp [madeCells]
  · intro i h1 h2
    simp [madeCells, Nat.mod_one]
theorem run_makeB (w : World) :
    (Instr.makeSlice 33 (.int .i64 15) (.int .i64 15)).run Tryz.prog w = .ok (.slice (some ⟨w.heap.size, 0, none⟩) 15 15) (w.alloc (.cells (Array.replicate 15 (.int .u8 0)) TB)) := by
  obtain ⟨i, hi, hzz⟩ := Option.map_eq_some_iff.1 infoB
  simp only [Prod.mk.injEq] at hzz
  obtain ⟨hz, hs, hb⟩ := hzz
  rw [run_make w 33 TB i (.int .u8 0) Tryz.underlying33 hi hz .i64 .i64 15 15 (by omega) (by omega) (by rw [hb]; omega) (by omega), hs, Nat.mul_one]
  rw [show (Value.int .u8 0).cells = #[Value.int .u8 0] from rfl, madeB]
  rfl

theorem put_later (v : Value) (u : FrameMode) (w : World) :
    CallsD Tryz.prog 36 #[v] u w fun e u' w' => u' = u ∧ e = .returned (.tuple #[]) ∧ w' = w := by
  refine callsD_of_wp Tryz.func36 rfl ?_
  refine wp_skip ?_
  go_end0
  exact ⟨rfl, rfl⟩

/-- The number that the bytes are. -/
theorem be_rev {B D : Nat → Nat} : ∀ (n o : Nat), (∀ j, j < n → B (o + j) = D (n - 1 - j)) → be B o n = Vb 256 D 0 n
  | 0, _, _ => rfl
  | n + 1, o, h => by
    rw [Nat.add_comm n 1, be_add B o 1 n, be_rev n (o + 1) (D := D) (fun j hj => by rw [Nat.add_assoc, h (1 + j) (by omega)]; congr 1; omega), Nat.add_comm 1 n, V_succ]
    have h0 := h 0 (by omega)
    simp only [be, Nat.zero_add, Nat.zero_mul, Nat.add_zero] at h0 ⊢
    rw [h0, show n + 1 - 1 - 0 = n by omega, Nat.mul_comm, Nat.add_comm]
theorem digits_mod (c : Nat) : ∀ n, Vb 256 (fun j => c / 256 ^ j % 256) 0 n = c % 256 ^ n
  | 0 => by simp [Vb, Nat.mod_one]
  | n + 1 => by
    rw [V_succ, digits_mod c n, Nat.zero_add, Nat.pow_succ, Nat.mod_mul]

theorem half : ∀ s : Nat, s < 20 → bits .or .i64 0 (((64 - 2 * s : Nat) : Int) / 2) = ((32 - s : Nat) : Int) := by decide
theorem whole : ∀ s : Nat, s < 20 → bits .or .i64 ((32 - s : Nat) : Int) 6144 = ((6176 - s : Nat) : Int) := by decide
theorem low1 : ∀ s : Nat, s < 20 → bits .and .u8 ((64 - 2 * s : Nat) : Int) 1 = 0 := by decide

theorem parse_value {F B : Nat → Nat} {neg : Bool} {c s : Nat} (hI : Is16 neg c s B) (hv : ∀ j, j < 15 → F j = B (14 - j)) (hc : c < 10000000000000000000) : be (upd F 0 0) 0 15 = c := by
  rw [be_rev (D := fun i => if i < 8 then c / 256 ^ i % 256 else 0) 15 0 (fun j hj => ?_), show 15 = 8 + 7 from rfl, V_add, V_zeros (n := 7) (fun j hj => ?_), V_congr (n := 8) (G := fun i => c / 256 ^ i % 256) (o' := 0) (fun j hj => ?_), digits_mod, Nat.mul_zero, Nat.add_zero]
  · exact Nat.mod_eq_of_lt (Nat.lt_trans hc (by decide))
  · simp only [Nat.zero_add]; rw [if_pos hj]
  · simp only [Nat.zero_add]; rw [if_neg (by omega)]
  · simp only [Nat.zero_add]
    by_cases h0 : j = 0
    · subst h0; rw [upd_same]; rfl
    · rw [upd_other _ _ _ _ h0, hv j hj]
      by_cases h8 : 14 - j < 8
      · rw [hI.low _ h8, show 15 - 1 - j = 14 - j by omega, if_pos h8]
      · rw [hI.mid _ (by omega) (by omega), if_neg (by omega)]

set_option maxRecDepth 100000 in
set_option maxHeartbeats 2000000 in
theorem gv_parse (neg : Bool) (g c s : Nat) (B : Nat → Nat) (w : World) (hB : Byts w g 0 16 B) (hI : Is16 neg c s B) (hs : s ≤ 19) (hc : c < 10000000000000000000) (hG : Glob w) :
    Calls Tryz.prog 25 #[.slice (some ⟨g, 0, none⟩) 16 16] w fun e w' =>
      e = .returned (.tuple #[.agg #[.bool (neg && decide (0 < c)), .int .i8 s, .int .u64 c], .nilIface]) ∧ Fr NoS w w' := by
  have hB1 := hB.fr ((Fr.refl NoS w).alloc (.cells #[.bool false, .int .i8 0, .int .u64 0] 46 (0, 0))) (fun x => x)
  have c14 := hB1.cell 14 (by omega)
  have c15 := hB1.cell 15 (by omega)
  rw [Nat.zero_add] at c14 c15
  rw [hI.b14] at c14
  rw [hI.b15] at c15
  have e1 := half s (by omega)
  have e2 := whole s (by omega)
  have e3 := low1 s (by omega)
  have e4 : (6176 : Int) - ((6176 - s : Nat) : Int) = s := by omega
  have HB := Lib.hid hB
  have HI := Lib.hid hI
  have HG := Lib.hid hG
  clear hB hI hG hB1
  cases neg with
  | true =>
    have a1 : bits .and .u8 176 124 = 48 := by decide
    have a2 : bits .and .u8 176 96 = 32 := by decide
    have a3 : bits .and .u8 176 128 = 128 := by decide
    have a4 : bits .and .u8 176 127 = 48 := by decide
    simp only [if_true] at c15
    rw [show (((128 + 48 : Nat)) : Int) = 176 from rfl] at c15
    go_enter_defers Tryz.func25, Tryz.ntmps25
    go_wp2_with fail
    refine (gv_getBint _).mono ?_
    rintro e w1 ⟨rfl, ho1, hf1⟩
    rw [World.size_alloc] at ho1 ⊢
    have hh1 := hf1.block w.heap.size (by simp) (fun x => x)
    rw [heap_alloc_new] at hh1
    have hA1 : Fr NoS w w1 := ((Fr.refl NoS w).alloc _).trans' hf1
    clear hf1 c14 c15 e1 e2 e4 a1 a2 a3 a4
    have mk := run_makeB w1
    have hblk : Blk .u8 TB _ w1.heap.size 15 (fun _ => 0) := Blk.made w1 15 (by decide) (by decide)
    have hsz1 : w1.heap.size < (w1.alloc (.cells (Array.replicate 15 (.int .u8 0)) TB)).heap.size := by simp
    have hA2 : Fr NoS w1 (w1.alloc (.cells (Array.replicate 15 (.int .u8 0)) TB)) := (Fr.refl NoS w1).alloc _
    go_wp2
    generalize w1.alloc (.cells (Array.replicate 15 (.int .u8 0)) TB) = w2 at *
    clear mk
    go_loopw [60] (fun i wr => ∃ (k : Nat) (F : Nat → Nat), k ≤ 15 ∧ i = .int .i64 k ∧ Blk .u8 TB wr w1.heap.size 15 F ∧ Hid (∀ j, j < k → F j = B (14 - j)) ∧ Fr (· = w1.heap.size) w2 wr)
      (fun i _ => 15 - (intOf i).toNat)
    case atStart => exact ⟨0, _, by omega, rfl, hblk, fun j hj => by omega, Fr.refl _ _⟩
    case round =>
      obtain ⟨k, F, hk, rfl, hF, hv, hfr⟩ := hrel
      have hA3 : Fr NoS w wr := (hA1.trans' hA2).trans hfr (fun i hi e => by have := hA1.size; omega)
      rcases Nat.lt_or_ge k 15 with hlt | hge
      · have hBr := HB.out.fr hA3 (fun x => x)
        have hcell := hBr.cell (14 - k) (by omega)
        rw [Nat.zero_add] at hcell
        have hcell2 := hF.cell (j := k) (by omega)
        have hfree := hF.free k
        have q1 : IntKind.i64.wrap ((14 : Int) - k) = 14 - k := IntWalk.i64_in _ (by omega)
        have q2 : (0 : Int) ≤ 14 - k := by omega
        have q3 : (14 : Int) - k < (16 : Nat) := by omega
        have q4 : ((14 : Int) - k).toNat = 14 - k := by omega
        go_wp2
        go_roundw
        case rel =>
          refine ⟨k + 1, upd F k (B (14 - k)), by omega, by go_num, hF.store (HB.out.lt _ (by omega)), fun j hj => ?_, hfr.trans' (Fr.set _ _ _ _)⟩
          by_cases e : j = k
          · subst e; rw [upd_same]
          · rw [upd_other _ _ _ _ e]; exact hv.out j (by omega)
        case measure => simp [intOf]; omega
      · obtain rfl : k = 15 := by omega
        have hF0 : F 0 = 64 - 2 * s := by rw [hv.out 0 (by omega)]; exact HI.out.b14
        have c0 := hF.cell (j := 0) (by omega)
        have f0 := hF.free 0
        rw [hF0] at c0
        have st : Blk .u8 TB (wr.setCell ⟨w1.heap.size, 0, none⟩ (.int .u8 0)) w1.heap.size 15 (upd F 0 0) := hF.store (i := 0) (x := 0) (by decide)
        have hby : Byts (wr.setCell ⟨w1.heap.size, 0, none⟩ (.int .u8 0)) w1.heap.size 0 15 (upd F 0 0) := ⟨fun j hj => by rw [Nat.zero_add]; exact st.cell hj, fun j hj => st.word j hj⟩
        have hA4 : Fr NoS w1 (wr.setCell ⟨w1.heap.size, 0, none⟩ (.int .u8 0)) := (hA2.trans hfr (fun i hi e => by omega)).setCell _ _ (.inl (Nat.le_refl _))
        have ho3 := ho1.fr hA4 (fun x => x) (fun _ _ x => x)
        have hbe := parse_value HI.out hv.out hc
        have HBE := Lib.hid hbe
        have HBY := Lib.hid hby
        have HA4 := Lib.hid hA4
        clear hbe hby hF0 hF st hfr hA3 hblk hA2 hA4
        go_wp2_with fail
        generalize wr.setCell ⟨w1.heap.size, 0, none⟩ (.int .u8 0) = w3 at *
        refine (gv_setBytes (w.heap.size + 1) 0 w1.heap.size 0 15 false (.slice none 0 0) _ _ w3 ho3.blk ho3.own HBY.out (by omega) (by omega) (by simp [Value.ownBlock])).mono ?_
        rintro e w4 ⟨v4, n, G, rfl, ho4, hn4, hv4, hf4, hat4⟩
        have hV : Vb BB G 0 n = c := by rw [hv4]; exact HBE.out
        have hA5 : Fr NoS w1 w4 → True := fun _ => trivial
        have hA6 : Fr NoS w w4 := (hA1.trans' HA4.out).trans hf4 (fun i hi e => by
          rcases e with e | e
          · omega
          · simp [Value.ownBlock] at e)
        have hh4 : w4.heap[w.heap.size]? = some (Obj.cells #[.bool false, .int .i8 0, .int .u64 0] 46 (0, 0)) := by
          have hl := (Array.getElem?_eq_some_iff.1 hh1).1
          rw [hf4.block w.heap.size (HA4.out.lt hl) (by
            rintro (e | e)
            · omega
            · simp [Value.ownBlock] at e), HA4.out.block w.heap.size hl (fun x => x)]
          exact hh1
        have SG := gv_sign (w.heap.size + 1) n false v4 G w4 ho4.rd
        have NB := fun u (f : Fr NoS w4 u) => gv_newFromBint true (w.heap.size + 1) n c s v4 G u (ho4.rd.fr f (fun x => x) (fun _ _ x => x)) hV hc hs (HG.out.fr (hA6.trans' f))
        obtain ⟨dd, hdd⟩ : ∃ dd : Bool, Hid (dd = decide (0 < c)) := ⟨_, Lib.hid rfl⟩
        rw [← hdd.out] at NB
        have HSG := Lib.hid SG
        have HNB := Lib.hid NB
        have HH4 := Lib.hid hh4
        have hmax : max (s : Int) 0 = s := by omega
        clear SG NB hh4 hV hA5 hn4 hv4 hf4 hat4 HBE HBY HA4 ho1 ho3 ho4 hh1 hA1 e3
        by_cases hn0 : n = 0
        · have SG := HSG.out
          rw [if_pos hn0] at SG
          go_wp2_with fail
          refine SG.mono ?_
          rintro e w5 ⟨rfl, rfl⟩
          clear SG
          go_wp2_with fail
          refine (HNB.out _ (Fr.refl _ _)).mono ?_
          rintro e w6 ⟨rfl, hf6⟩
          have hh6 := (hf6.block w.heap.size ((Array.getElem?_eq_some_iff.1 HH4.out).1) (fun x => x)).trans HH4.out
          obtain ⟨k0, k1, k2, f0, f1, f2⟩ := cells3 hh6
          go_wp2
          refine leaves_cons (f := 36) (args := #[.pointer (some ⟨w.heap.size + 1, 0, none⟩)]) (by simp) (by simp [go_sem]) ?_
          refine (put_later _ _ _).mono ?_
          rintro e u' w'' ⟨rfl, rfl, rfl⟩
          have hE : Fr NoS w (((w6.setCell ⟨w.heap.size, 0, none⟩ (.bool (true && dd))).setCell ⟨w.heap.size, 1, none⟩ (.int .i8 s)).setCell ⟨w.heap.size, 2, none⟩ (.int .u64 c)) :=
            (((hA6.trans' hf6).setCell _ _ (.inl (Nat.le_refl _))).setCell _ _ (.inl (Nat.le_refl _))).setCell _ _ (.inl (Nat.le_refl _))
          simp [Leaves, settle, results, Tryz.results25, go_sem, k0, k1, k2]
          simp only [Bool.true_and] at hE
          exact ⟨hdd.out, hE⟩
        · have SG := HSG.out
          rw [if_neg hn0, if_neg Bool.false_ne_true] at SG
          go_wp2_with fail
          refine SG.mono ?_
          rintro e w5 ⟨rfl, rfl⟩
          clear SG
          go_wp2_with fail
          refine (HNB.out _ (Fr.refl _ _)).mono ?_
          rintro e w6 ⟨rfl, hf6⟩
          have hh6 := (hf6.block w.heap.size ((Array.getElem?_eq_some_iff.1 HH4.out).1) (fun x => x)).trans HH4.out
          obtain ⟨k0, k1, k2, f0, f1, f2⟩ := cells3 hh6
          go_wp2
          refine leaves_cons (f := 36) (args := #[.pointer (some ⟨w.heap.size + 1, 0, none⟩)]) (by simp) (by simp [go_sem]) ?_
          refine (put_later _ _ _).mono ?_
          rintro e u' w'' ⟨rfl, rfl, rfl⟩
          have hE : Fr NoS w (((w6.setCell ⟨w.heap.size, 0, none⟩ (.bool (true && dd))).setCell ⟨w.heap.size, 1, none⟩ (.int .i8 s)).setCell ⟨w.heap.size, 2, none⟩ (.int .u64 c)) :=
            (((hA6.trans' hf6).setCell _ _ (.inl (Nat.le_refl _))).setCell _ _ (.inl (Nat.le_refl _))).setCell _ _ (.inl (Nat.le_refl _))
          simp [Leaves, settle, results, Tryz.results25, go_sem, k0, k1, k2]
          simp only [Bool.true_and] at hE
          exact ⟨hdd.out, hE⟩
  | false =>
    have a1 : bits .and .u8 48 124 = 48 := by decide
    have a2 : bits .and .u8 48 96 = 32 := by decide
    have a3 : bits .and .u8 48 128 = 0 := by decide
    have a4 : bits .and .u8 48 127 = 48 := by decide
    simp only [Bool.false_eq_true, if_false] at c15
    rw [show (((0 + 48 : Nat)) : Int) = 48 from rfl] at c15
    go_enter_defers Tryz.func25, Tryz.ntmps25
    go_wp2_with fail
    refine (gv_getBint _).mono ?_
    rintro e w1 ⟨rfl, ho1, hf1⟩
    rw [World.size_alloc] at ho1 ⊢
    have hh1 := hf1.block w.heap.size (by simp) (fun x => x)
    rw [heap_alloc_new] at hh1
    have hA1 : Fr NoS w w1 := ((Fr.refl NoS w).alloc _).trans' hf1
    clear hf1 c14 c15 e1 e2 e4 a1 a2 a3 a4
    have mk := run_makeB w1
    have hblk : Blk .u8 TB _ w1.heap.size 15 (fun _ => 0) := Blk.made w1 15 (by decide) (by decide)
    have hsz1 : w1.heap.size < (w1.alloc (.cells (Array.replicate 15 (.int .u8 0)) TB)).heap.size := by simp
    have hA2 : Fr NoS w1 (w1.alloc (.cells (Array.replicate 15 (.int .u8 0)) TB)) := (Fr.refl NoS w1).alloc _
    go_wp2
    generalize w1.alloc (.cells (Array.replicate 15 (.int .u8 0)) TB) = w2 at *
    clear mk
    go_loopw [60] (fun i wr => ∃ (k : Nat) (F : Nat → Nat), k ≤ 15 ∧ i = .int .i64 k ∧ Blk .u8 TB wr w1.heap.size 15 F ∧ Hid (∀ j, j < k → F j = B (14 - j)) ∧ Fr (· = w1.heap.size) w2 wr)
      (fun i _ => 15 - (intOf i).toNat)
    case atStart => exact ⟨0, _, by omega, rfl, hblk, fun j hj => by omega, Fr.refl _ _⟩
    case round =>
      obtain ⟨k, F, hk, rfl, hF, hv, hfr⟩ := hrel
      have hA3 : Fr NoS w wr := (hA1.trans' hA2).trans hfr (fun i hi e => by have := hA1.size; omega)
      rcases Nat.lt_or_ge k 15 with hlt | hge
      · have hBr := HB.out.fr hA3 (fun x => x)
        have hcell := hBr.cell (14 - k) (by omega)
        rw [Nat.zero_add] at hcell
        have hcell2 := hF.cell (j := k) (by omega)
        have hfree := hF.free k
        have q1 : IntKind.i64.wrap ((14 : Int) - k) = 14 - k := IntWalk.i64_in _ (by omega)
        have q2 : (0 : Int) ≤ 14 - k := by omega
        have q3 : (14 : Int) - k < (16 : Nat) := by omega
        have q4 : ((14 : Int) - k).toNat = 14 - k := by omega
        go_wp2
        go_roundw
        case rel =>
          refine ⟨k + 1, upd F k (B (14 - k)), by omega, by go_num, hF.store (HB.out.lt _ (by omega)), fun j hj => ?_, hfr.trans' (Fr.set _ _ _ _)⟩
          by_cases e : j = k
          · subst e; rw [upd_same]
          · rw [upd_other _ _ _ _ e]; exact hv.out j (by omega)
        case measure => simp [intOf]; omega
      · obtain rfl : k = 15 := by omega
        have hF0 : F 0 = 64 - 2 * s := by rw [hv.out 0 (by omega)]; exact HI.out.b14
        have c0 := hF.cell (j := 0) (by omega)
        have f0 := hF.free 0
        rw [hF0] at c0
        have st : Blk .u8 TB (wr.setCell ⟨w1.heap.size, 0, none⟩ (.int .u8 0)) w1.heap.size 15 (upd F 0 0) := hF.store (i := 0) (x := 0) (by decide)
        have hby : Byts (wr.setCell ⟨w1.heap.size, 0, none⟩ (.int .u8 0)) w1.heap.size 0 15 (upd F 0 0) := ⟨fun j hj => by rw [Nat.zero_add]; exact st.cell hj, fun j hj => st.word j hj⟩
        have hA4 : Fr NoS w1 (wr.setCell ⟨w1.heap.size, 0, none⟩ (.int .u8 0)) := (hA2.trans hfr (fun i hi e => by omega)).setCell _ _ (.inl (Nat.le_refl _))
        have ho3 := ho1.fr hA4 (fun x => x) (fun _ _ x => x)
        have hbe := parse_value HI.out hv.out hc
        have HBE := Lib.hid hbe
        have HBY := Lib.hid hby
        have HA4 := Lib.hid hA4
        clear hbe hby hF0 hF st hfr hA3 hblk hA2 hA4
        go_wp2_with fail
        generalize wr.setCell ⟨w1.heap.size, 0, none⟩ (.int .u8 0) = w3 at *
        refine (gv_setBytes (w.heap.size + 1) 0 w1.heap.size 0 15 false (.slice none 0 0) _ _ w3 ho3.blk ho3.own HBY.out (by omega) (by omega) (by simp [Value.ownBlock])).mono ?_
        rintro e w4 ⟨v4, n, G, rfl, ho4, hn4, hv4, hf4, hat4⟩
        have hV : Vb BB G 0 n = c := by rw [hv4]; exact HBE.out
        have hA5 : Fr NoS w1 w4 → True := fun _ => trivial
        have hA6 : Fr NoS w w4 := (hA1.trans' HA4.out).trans hf4 (fun i hi e => by
          rcases e with e | e
          · omega
          · simp [Value.ownBlock] at e)
        have hh4 : w4.heap[w.heap.size]? = some (Obj.cells #[.bool false, .int .i8 0, .int .u64 0] 46 (0, 0)) := by
          have hl := (Array.getElem?_eq_some_iff.1 hh1).1
          rw [hf4.block w.heap.size (HA4.out.lt hl) (by
            rintro (e | e)
            · omega
            · simp [Value.ownBlock] at e), HA4.out.block w.heap.size hl (fun x => x)]
          exact hh1
        have SG := gv_sign (w.heap.size + 1) n false v4 G w4 ho4.rd
        have NB := fun u (f : Fr NoS w4 u) => gv_newFromBint false (w.heap.size + 1) n c s v4 G u (ho4.rd.fr f (fun x => x) (fun _ _ x => x)) hV hc hs (HG.out.fr (hA6.trans' f))
        obtain ⟨dd, hdd⟩ : ∃ dd : Bool, Hid (dd = decide (0 < c)) := ⟨_, Lib.hid rfl⟩
        rw [← hdd.out] at NB
        have HSG := Lib.hid SG
        have HNB := Lib.hid NB
        have HH4 := Lib.hid hh4
        have hmax : max (s : Int) 0 = s := by omega
        clear SG NB hh4 hV hA5 hn4 hv4 hf4 hat4 HBE HBY HA4 ho1 ho3 ho4 hh1 hA1 e3
        by_cases hn0 : n = 0
        · have SG := HSG.out
          rw [if_pos hn0] at SG
          go_wp2_with fail
          refine SG.mono ?_
          rintro e w5 ⟨rfl, rfl⟩
          clear SG
          go_wp2_with fail
          refine (HNB.out _ (Fr.refl _ _)).mono ?_
          rintro e w6 ⟨rfl, hf6⟩
          have hh6 := (hf6.block w.heap.size ((Array.getElem?_eq_some_iff.1 HH4.out).1) (fun x => x)).trans HH4.out
          obtain ⟨k0, k1, k2, f0, f1, f2⟩ := cells3 hh6
          go_wp2
          refine leaves_cons (f := 36) (args := #[.pointer (some ⟨w.heap.size + 1, 0, none⟩)]) (by simp) (by simp [go_sem]) ?_
          refine (put_later _ _ _).mono ?_
          rintro e u' w'' ⟨rfl, rfl, rfl⟩
          have hE : Fr NoS w (((w6.setCell ⟨w.heap.size, 0, none⟩ (.bool (false && dd))).setCell ⟨w.heap.size, 1, none⟩ (.int .i8 s)).setCell ⟨w.heap.size, 2, none⟩ (.int .u64 c)) :=
            (((hA6.trans' hf6).setCell _ _ (.inl (Nat.le_refl _))).setCell _ _ (.inl (Nat.le_refl _))).setCell _ _ (.inl (Nat.le_refl _))
          simp [Leaves, settle, results, Tryz.results25, go_sem, k0, k1, k2]
          simp only [Bool.false_and] at hE
          exact hE
        · have SG := HSG.out
          rw [if_neg hn0, if_neg Bool.false_ne_true] at SG
          go_wp2_with fail
          refine SG.mono ?_
          rintro e w5 ⟨rfl, rfl⟩
          clear SG
          go_wp2_with fail
          refine (HNB.out _ (Fr.refl _ _)).mono ?_
          rintro e w6 ⟨rfl, hf6⟩
          have hh6 := (hf6.block w.heap.size ((Array.getElem?_eq_some_iff.1 HH4.out).1) (fun x => x)).trans HH4.out
          obtain ⟨k0, k1, k2, f0, f1, f2⟩ := cells3 hh6
          go_wp2
          refine leaves_cons (f := 36) (args := #[.pointer (some ⟨w.heap.size + 1, 0, none⟩)]) (by simp) (by simp [go_sem]) ?_
          refine (put_later _ _ _).mono ?_
          rintro e u' w'' ⟨rfl, rfl, rfl⟩
          have hE : Fr NoS w (((w6.setCell ⟨w.heap.size, 0, none⟩ (.bool (false && dd))).setCell ⟨w.heap.size, 1, none⟩ (.int .i8 s)).setCell ⟨w.heap.size, 2, none⟩ (.int .u64 c)) :=
            (((hA6.trans' hf6).setCell _ _ (.inl (Nat.le_refl _))).setCell _ _ (.inl (Nat.le_refl _))).setCell _ _ (.inl (Nat.le_refl _))
          simp [Leaves, settle, results, Tryz.results25, go_sem, k0, k1, k2]
          simp only [Bool.false_and] at hE
          exact hE
end Go.Proofs.YtkholmbfeghhpaaGreatDoor
