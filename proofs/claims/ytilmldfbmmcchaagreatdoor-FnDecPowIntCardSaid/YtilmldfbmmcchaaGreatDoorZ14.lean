/- The square of a natural number. A slice of words grown by zeros. slices.Grow on slices of words: the library's own text, walked. The stack that division takes its rows from: the library's own text, walked. A row of words taken from the stack: the library's own text, walked. The stack's length kept and laid back; a new stack. Powers of natural numbers: the library's own text, walked. Conditions: each theorem bears its own. -/
import Derived.Laws.AppendOwn
import Derived.Lib.QuoteBits
import Derived.Test.YtilmldfbmmcchaaGreatDoorZ13
set_option linter.unusedVariables false
set_option linter.unusedSimpArgs false
namespace Go.Proofs.YtilmldfbmmcchaaGreatDoor
open Go.RowKit
set_option maxHeartbeats 1000000 in
theorem big_mulWW (x y : Nat) (hx : x < BB) (hy : y < BB) (w : World) :
  Calls Tryz.prog 177 #[.int .u64 x, .int .u64 y] w fun e w' => e = .returned (.tuple #[.int .u64 ((x * y / 18446744073709551616 : Nat) : Int), .int .u64 ((x * y % 18446744073709551616 : Nat) : Int)]) ∧ w = w' := by
 have M := bits_Mul x y hx hy w
 obtain ⟨a, ha⟩ : ∃ a, Hid (x * y / 18446744073709551616 = a) := ⟨_, Lib.hid rfl⟩
 obtain ⟨b, hb⟩ : ∃ b, Hid (x * y % 18446744073709551616 = b) := ⟨_, Lib.hid rfl⟩
 rw [ha.out, hb.out] at M ⊢
 rw [BB_eq] at hx hy
 go_enter Tryz.func177, Tryz.ntmps177
 go_wp2_with fail
 refine M.mono ?_
 rintro e w1 ⟨rfl, rfl⟩
 go_wp2
 go_ret2
 exact ⟨rfl, rfl⟩
set_option maxRecDepth 100000 in
set_option maxHeartbeats 4000000 in
theorem nat_sqr_one (v stk : Value) (gx ox l cx : Nat) (F X : Nat → Nat) (w : World) (h : OwnW w v l F) (wx : Words w gx ox 1 X) :
  Calls Tryz.prog 134 #[v, stk, .slice (some ⟨gx, ox, none⟩) 1 cx] w fun e w' =>
   ∃ (v' : Value) (n' : Nat) (G : Nat → Nat), e = .returned v' ∧ MadeNat w w' v v' n' G ∧ n' ≤ 2 ∧ Top G n' ∧ Vb BB G 0 n' = X 0 * X 0 := by
 have b0 : (((1 : Nat) : Int) == 0) = false := by simp
 have b1 : (((1 : Nat) : Int) == 1) = true := by simp
 have hx0 := wx.cell 0 (by omega)
 have hxB := wx.word 0 (by omega)
 rw [Nat.add_zero] at hx0
 obtain ⟨d, hd⟩ : ∃ d, Hid (X 0 = d) := ⟨_, Lib.hid rfl⟩
 rw [hd.out] at hx0 hxB ⊢
 go_enter_defers Tryz.func134, Tryz.ntmps134
 go_wp2_with fail
 refine (nat_make v l 2 _ F _ h rfl (by omega)).mono ?_
 rintro e w2 ⟨v2, G2, rfl, hm2, hf2, _⟩
 rcases hm2.own with ⟨_, e0⟩ | ⟨g2, c2, rfl, hmc2, hbk2⟩
 ·omega
 have hM := fun u => big_mulWW d d hxB hxB u
 obtain ⟨a, ha⟩ : ∃ a, Hid (d * d / 18446744073709551616 = a) := ⟨_, Lib.hid rfl⟩
 obtain ⟨b, hb⟩ : ∃ b, Hid (d * d % 18446744073709551616 = b) := ⟨_, Lib.hid rfl⟩
 have haB : a < BB := by
  rw [← ha.out, BB_eq] at *
  refine Nat.div_lt_of_lt_mul ?_
  exact Nat.mul_lt_mul_of_lt_of_le hxB (Nat.le_of_lt hxB) (by omega)
 have hbB : b < BB := by rw [← hb.out, BB_eq]; exact Nat.mod_lt _ (by omega)
 rw [ha.out, hb.out] at hM
 have k1 := hbk2.cell (j := 1) (by omega)
 have k0 := hbk2.cell (j := 0) (by omega)
 have f1 := hbk2.free 1
 have f0 := hbk2.free 0
 go_wp2_with fail
 refine (hM _).mono ?_
 rintro e w3 ⟨rfl, rfl⟩
 have hs1 := hbk2.store (i := 1) (x := a) haB
 have hs0 := hs1.store (i := 0) (x := b) hbB
 go_wp2_with fail
 refine (nat_norm_own (.slice (some ⟨g2, 0, none⟩) 2 c2) 2 _ _ (.inr ⟨g2, c2, rfl, hmc2, hs0⟩)).mono ?_
 rintro e w4 ⟨v4, n4, rfl, hown4, hn4, ht4, hv4, hob4, rfl⟩
 have HV4 := Lib.hid hv4
 clear hv4
 go_wp2
 have hfA : Fr (· = g2) w2 ((w2.setCell ⟨g2, 1, none⟩ (.int .u64 (a : Nat))).setCell ⟨g2, 0, none⟩ (.int .u64 (b : Nat))) := (Fr.set _ _ _ _).trans' (Fr.set _ _ _ _)
 refine bodyPostD_ret (results_tmp (t := 6) rfl _ _ _) rfl ⟨v4, n4, _, rfl, ⟨hown4, hm2.fr.trans hfA (fun i hi e => ?_), fun k hk => ?_⟩, hn4, ht4, ?_⟩
 ·rcases hm2.at_ g2 rfl with e2 | e2
  ·rw [e2, e]
  ·omega
 ·rw [hob4] at hk
  exact hm2.at_ k hk
 ·rw [HV4.out]
  simp only [V_succ, V_zero, Nat.pow_zero, Nat.pow_one, Nat.one_mul, Nat.zero_add]
  rw [upd_same, upd_other _ _ _ _ (by omega), upd_same, ← ha.out, ← hb.out, ← BB_eq]
  exact Nat.mod_add_div _ _
set_option maxRecDepth 100000 in
set_option maxHeartbeats 4000000 in
theorem nat_sqr_many (v stk : Value) (gx ox l n cx : Nat) (F X : Nat → Nat) (w : World) (h : OwnW w v l F) (hx : RdW w (.slice (some ⟨gx, ox, none⟩) n cx) n X) (hn2 : 2 ≤ n) (hn : n < 12)
  (nx : Near v (.slice (some ⟨gx, ox, none⟩) n cx)) (hbs : w.cell? ⟨3, 0, none⟩ = some (.int .i64 12)) (hks : w.cell? ⟨4, 0, none⟩ = some (.int .i64 80)) :
  Calls Tryz.prog 134 #[v, stk, .slice (some ⟨gx, ox, none⟩) n cx] w fun e w' =>
   ∃ (v' : Value) (n' : Nat) (G : Nat → Nat), e = .returned v' ∧ MadeNat w w' v v' n' G ∧ n' ≤ n + n ∧ Top G n' ∧ Vb BB G 0 n' = Vb BB X 0 n * Vb BB X 0 n := by
 have b1 : ((n : Int) == 1) = false := by simp; omega
 have b0 : ((n : Int) == 0) = false := by simp; omega
 have b12 : decide ((n : Int) < 12) = true := by simp; omega
 have b80 : decide ((n : Int) < 80) = true := by simp; omega
 have A1 := alias_any v _ l n F X w h hx (by omega) nx
 have wx := hx.words
 have hxl := hx.lt (k := gx) rfl
 go_enter_defers Tryz.func134, Tryz.ntmps134
 go_wp2_with fail
 refine A1.mono ?_
 rintro e w1 ⟨bb, rfl, hfr1, hb1f⟩
 clear A1
 have HB1 := Lib.hid hb1f
 clear hb1f
 obtain ⟨vz, lz, Fz, hvz, hz⟩ : ∃ (vz : Value) (lz : Nat) (Fz : Nat → Nat), (if bb = true then vz = .slice none 0 0 else vz = v) ∧ OwnW w1 vz lz Fz := by
  cases bb
  ·exact ⟨v, l, F, rfl, h.fr hfr1 (fun _ _ x => x)⟩
  ·exact ⟨_, 0, F, rfl, .inl ⟨rfl, rfl⟩⟩
 have hMk := nat_make vz lz (n + n) (2 * (n : Int)) Fz w1 hz (by omega) (by omega)
 cases bb
 all_goals
  simp only [Bool.false_eq_true, if_false, if_true] at hvz
  subst hvz
  go_wp2_with fail
  refine hMk.mono ?_
  rintro e w2 ⟨v2, G2, rfl, hm2, hf2, _⟩
  rcases hm2.own with ⟨_, e0⟩ | ⟨g2, c2, rfl, hmc2, hbk2⟩
  ·omega
  have hsep : gx ≠ g2 := by
   rcases hm2.at_ g2 rfl with e | e
   ·first | (simp [Value.ownBlock] at e; done) | (exact fun x => HB1.out trivial g2 e (by rw [← x]; rfl))
   ·have e : _ ≤ g2 := e
    have hs := hfr1.size
    omega
  have hroom2 := hbk2.room
  rw [LL_eq] at hroom2
  have hF2 := hfr1.trans' hf2
  have hbs2 := (hF2.cell (World.block_lt_of_cell? w _ hbs) (fun x => x)).trans hbs
  have hks2 := (hF2.cell (World.block_lt_of_cell? w _ hks) (fun x => x)).trans hks
  have wx2 : Words w2 gx ox n X := (wx.fr (S := NoS) hfr1 (fun x => x)).fr (S := NoS) hf2 (fun x => x)
  go_wp2_with fail
  refine (basicMul n n g2 (n + n) c2 gx ox cx gx ox cx c2 G2 X X w2 hbk2 wx2 wx2 (Nat.le_refl _) hmc2 (Nat.le_refl _) hsep hsep (by rw [LL_eq]; omega)).mono ?_
  rintro e w3 ⟨G3, rfl, hb3, hv3, hf3⟩
  have HV3 := Lib.hid hv3
  clear hv3
  go_wp2_with fail
  refine (nat_norm_own (.slice (some ⟨g2, 0, none⟩) (n + n) c2) (n + n) G3 _ (.inr ⟨g2, c2, rfl, hmc2, hb3⟩)).mono ?_
  rintro e w4 ⟨v4, n4, rfl, hown4, hn4, ht4, hv4, hob4, rfl⟩
  have HV4 := Lib.hid hv4
  clear hv4
  go_wp2
  refine bodyPostD_ret (results_tmp (t := 6) rfl _ _ _) rfl ⟨v4, n4, G3, rfl, mul_fin hfr1 hm2 hf2 hf3 hown4 hob4 (by first | exact .inl rfl | exact .inr rfl), hn4, ht4, by rw [HV4.out, HV3.out]⟩
theorem nat_sqr (v vx stk : Value) (l n : Nat) (F X : Nat → Nat) (w : World) (h : OwnW w v l F) (hx : RdW w vx n X) (hn : n < 12)
  (nx : Near v vx) (hbs : w.cell? ⟨3, 0, none⟩ = some (.int .i64 12)) (hks : w.cell? ⟨4, 0, none⟩ = some (.int .i64 80)) (hn0 : 0 < n) :
  Calls Tryz.prog 134 #[v, stk, vx] w fun e w' =>
   ∃ (v' : Value) (n' : Nat) (G : Nat → Nat), e = .returned v' ∧ MadeNat w w' v v' n' G ∧ n' ≤ n + n ∧ Top G n' ∧ Vb BB G 0 n' = Vb BB X 0 n * Vb BB X 0 n := by
 rcases hx with ⟨_, e⟩ | ⟨gx, ox, cx', csx, ex', hx1, hx2, hx3, hxc', hxr⟩
 ·omega
 have hx0 : RdW w vx n X := .inr ⟨gx, ox, cx', csx, ex', hx1, hx2, hx3, hxc', hxr⟩
 subst ex'
 by_cases h1 : n = 1
 ·subst h1
  refine (nat_sqr_one v stk gx ox l cx' F X w h hx0.words).mono ?_
  rintro e w' ⟨v', n', G, he, h2, h3, h4, h5⟩
  exact ⟨v', n', G, he, h2, h3, h4, by rw [V_one]; exact h5⟩
 ·exact nat_sqr_many v stk gx ox l n cx' F X w h hx0 (by omega) hn nx hbs hks
theorem run_grow_nil {P : Program} (w : World) (t u ty e : TypeId) (i : TypeInfo) (z : Value) (ht : P.underlying t = some (.slice e)) (hu : P.underlying u = some (.int .i64)) (hi : P.info? e = some i) (hz : i.zero = some z) (hs : i.size = 1) (hb : i.bytes = 8)
  (m : Nat) (h0 : 0 < m) (hm : m ≤ 1000000000) :
  (Builtin.append_ #[t, u] ty #[.slice none 0 0, .int .i64 m]).run P w =
   .ok (.slice (some ⟨w.heap.size, 0, none⟩) m (grownCap w m 0 e)) (w.drew.alloc (.cells (Builtin.zeroCells z.cells m ++ Builtin.zeroCells z.cells (grownCap w m 0 e - m)) e)) := by
 have hw : IntKind.i64.wrap (m : Int) = m := IntWalk.i64_in _ (by omega)
 have hA : ∀ w, (asIntOf (.int .i64 (m : Int))).run P w = .ok (IntKind.i64, (m : Int)) w := fun _ => rfl
 have h1 : ¬ ((m : Int) < 0) := by omega
 have h3 : ¬ ((m : Int) ≤ 0) := by omega
 have h2 : ¬ ((281474976710656 : Int) < (m : Int) * 8) := by omega
 have hn : m ≠ 0 := by omega
 have h63' : ¬ (9223372036854775807 < (m : Int)) := by omega
 have h48' : ¬ (281474976710656 < Builtin.nextslicecap m 0 * 8) := by rw [nextslicecap_zero h0]; omega
 simp [Builtin.append_, run_underlying ht, run_underlying hu, sizeOf, typeInfo, zeroValue, hi, hz, hs, hb, asInt, hA, hw, h1, h2, h3, hn, h63', h48', Question.forced, newRow, grownCap, Builtin.firstCells]
theorem run_grow_some {P : Program} (w : World) (t u ty e : TypeId) (i : TypeInfo) (z : Value) (ht : P.underlying t = some (.slice e)) (hu : P.underlying u = some (.int .i64)) (hi : P.info? e = some i) (hz : i.zero = some z) (hs : i.size = 1) (hb : i.bytes = 8)
  (b : Addr) (sLen : Nat) (olds : List Value) (hlo : olds.length = sLen) (holds : ∀ j v, olds[j]? = some v → w.cell? (b.add j) = some v)
  (m : Nat) (h0 : 0 < m) (hm : m ≤ 1000000000) (hsl : sLen ≤ 1000000000) :
  (Builtin.append_ #[t, u] ty #[.slice (some b) sLen sLen, .int .i64 m]).run P w =
   .ok (.slice (some ⟨w.heap.size, 0, none⟩) (sLen + m) (grownCap w (sLen + m) sLen e)) (w.drew.alloc (.cells (olds.toArray ++ Builtin.zeroCells z.cells m ++ Builtin.zeroCells z.cells (grownCap w (sLen + m) sLen e - (sLen + m))) e)) := by
 have hw : IntKind.i64.wrap (m : Int) = m := IntWalk.i64_in _ (by omega)
 have hA : ∀ w, (asIntOf (.int .i64 (m : Int))).run P w = .ok (IntKind.i64, (m : Int)) w := fun _ => rfl
 have h1 : ¬ ((m : Int) < 0) := by omega
 have h3 : ¬ ((m : Int) ≤ 0) := by omega
 have h2 : ¬ ((281474976710656 : Int) < (m : Int) * 8) := by omega
 have hn : m ≠ 0 := by omega
 have hn2 : ¬ (sLen + m ≤ sLen) := by omega
 have h63' : ¬ (9223372036854775807 < (sLen : Int) + (m : Int)) := by omega
 have h48' : ¬ (281474976710656 < Builtin.nextslicecap (sLen + m) sLen * 8) := by
  have := growslice_fits (old := sLen) (need := sLen + m) (bytes := 8) (by omega) (by omega)
  omega
 have hfo := run_firstCells_some (P := P) w.drew 1 sLen b sLen sLen olds (by omega) (by simpa using holds)
 simp [Builtin.append_, run_underlying ht, run_underlying hu, sizeOf, typeInfo, zeroValue, hi, hz, hs, hb, asInt, hA, hw, h1, h2, h3, hn, hn2, h63', h48', Question.forced, hfo, newRow, grownCap]
theorem zeroCellsW (n : Nat) : Builtin.zeroCells (Value.int .u64 0).cells n = Array.replicate n (.int .u64 0) := by
 apply Array.ext
 ·simp [Builtin.zeroCells, Value.cells]
 ·intro i h1 h2
  simp [Builtin.zeroCells, Value.cells, Nat.mod_one]
theorem wpList_grow {ops : Array Oper} {rest : List Oper} {o : Oper} {a : Act} {w : World} {Q : Exit → Act → World → Prop} (hgd : o.guard = none) (s x : Operand) (t : TypeId)
  (ho : o.op = .call { callee := .builtin .append, args := #[s, x], argTypes := #[t, 3] }) (ht : Tryz.prog.underlying t = some (.slice TW))
  (v : Value) (l m : Nat) (hs : a.eval s = v) (hx : a.eval x = .int .i64 m) (hv : (v = .slice none 0 0 ∧ l = 0) ∨ ∃ g F, v = .slice (some ⟨g, 0, none⟩) l l ∧ Bs w g l l F) (h0 : 0 < m) (hm : m ≤ 1000000000) (hl : l ≤ 1000000000)
  (h : ∀ (cap : Nat) (w' : World) (F : Nat → Nat), l + m ≤ cap → Bs w' w.heap.size cap (min cap LL) F → Fr NoS w w' → cap ≤ maxLen → wpList Tryz.prog ops Q rest (a.put o.dst (.slice (some ⟨w.heap.size, 0, none⟩) (l + m) cap)) w') :
  wpList Tryz.prog ops Q (o :: rest) a w := by
 refine wpList_plain hgd fun K hK => ?_
 obtain ⟨i, hi, hzz⟩ := Option.map_eq_some_iff.1 infoW
 simp only [Prod.mk.injEq] at hzz
 obtain ⟨hz, hsz, hby⟩ := hzz
 have hge := grownCap_ge w (l + m) l TW
 have hle := grownCap_le_maxLen w (l + m) l TW (by unfold maxLen; omega)
 have fin : ∀ (cs : Array Value), cs.size = l → (∀ j, j < l → ∃ x : Nat, cs[j]? = some (.int .u64 (x : Nat)) ∧ x < BB) →
   Bs (w.drew.alloc (.cells (cs ++ Array.replicate m (.int .u64 0) ++ Array.replicate (grownCap w (l + m) l TW - (l + m)) (.int .u64 0)) TW)) w.heap.size (grownCap w (l + m) l TW) (min (grownCap w (l + m) l TW) LL)
    (fun j => match cs[j]? with | some (.int .u64 x) => x.toNat | _ => 0) := by
  intro cs hcs hint
  refine ⟨⟨_, heap_alloc_new w.drew _, by simp [hcs]; omega, fun j hj => ?_⟩, fun j hj => ?_, Nat.min_le_left _ _, Nat.min_le_right _ _⟩
  ·by_cases hjl : j < l
   ·obtain ⟨x, hx, hxB⟩ := hint j hjl
    rw [hx, Array.append_assoc, Array.getElem?_append_left (by omega), hx]
    simp
   ·have hn : cs[j]? = none := by rw [Array.getElem?_eq_none]; omega
    rw [hn, Array.append_assoc, Array.getElem?_append_right (by omega), hcs]
    by_cases hjm : j < l + m
    ·rw [Array.getElem?_append_left (by simp; omega), Array.getElem?_replicate, if_pos (by omega)]; rfl
    ·rw [Array.getElem?_append_right (by simp; omega), Array.getElem?_replicate, if_pos (by simp; omega)]; rfl
  ·by_cases hjl : j < l
   ·obtain ⟨x, hx, hxB⟩ := hint j hjl
    simp only [hx]
    simpa using hxB
   ·have hn : cs[j]? = none := by rw [Array.getElem?_eq_none]; omega
    simp only [hn]
    exact BB_pos
 have hfr : ∀ ob, Fr NoS w (w.drew.alloc ob) := fun ob => ((Fr.refl NoS w).drew).alloc ob
 unfold Oper.wp execOp
 rcases hv with ⟨rfl, rfl⟩ | ⟨g, F, rfl, hb⟩
 ·rw [Nat.zero_add] at hge hle fin h
  have hr := run_grow_nil (P := Tryz.prog) w t 3 o.type TW i (.int .u64 0) ht Tryz.underlying3 hi hz hsz hby m h0 hm
  rw [zeroCellsW, zeroCellsW] at hr
  simp only [ho, resolve, invoke, builtin, Sem.run_bind, Sem.run_pure, Result.andThen_ok, List.map_toArray, List.map_cons, List.map_nil, hs, hx, hr]
  have hB := fin #[] rfl (fun j hj => by omega)
  rw [Array.empty_append] at hB
  exact hK _ _ (h _ _ _ hge hB (hfr _) hle)
 ·obtain ⟨cs, hc, hcs, hcr⟩ := hb.row
  have hr := run_grow_some (P := Tryz.prog) w t 3 o.type TW i (.int .u64 0) ht Tryz.underlying3 hi hz hsz hby ⟨g, 0, none⟩ l cs.toList (by simpa using hcs) (fun j v hv => by
   have hadd : (⟨g, 0, none⟩ : Addr).add j = ⟨g, 0 + j, none⟩ := by unfold Addr.add; split <;> simp_all
   rw [hadd, Nat.zero_add]
   rw [Array.getElem?_toList] at hv
   simp [World.cell?, hc, hv]) m h0 hm hl
  rw [zeroCellsW, zeroCellsW] at hr
  simp only [ho, resolve, invoke, builtin, Sem.run_bind, Sem.run_pure, Result.andThen_ok, List.map_toArray, List.map_cons, List.map_nil, hs, hx, hr]
  have hB := fin cs hcs (fun j hj => ⟨F j, hcr j hj, hb.word j hj⟩)
  exact hK _ _ (h _ _ _ hge hB (hfr _) hle)
def Buf (w : World) (g cap : Nat) : Prop := cap ≤ 9223372036854775807 ∧ ∃ F, Bs w g cap (min cap LL) F
set_option maxHeartbeats 2000000 in
theorem grow_nil_w (n : Nat) (w : World) (h0 : 0 < n) (hn : n ≤ 1000000000) :
  Calls Tryz.prog 270 #[.slice none 0 0, .int .i64 n] w fun e w' =>
   ∃ (cap : Nat), e = .returned (.slice (some ⟨w.heap.size, 0, none⟩) 0 cap) ∧ n ≤ cap ∧ Buf w' w.heap.size cap ∧ Fr NoS w w' := by
 have q1 : ((n : Int) - ((0 : Int) - 0)) = n := by omega
 have g1 : decide ((n : Int) < 0) = false := decide_eq_false (by omega)
 have g2 : decide (0 < n) = true := decide_eq_true h0
 go_enter Tryz.func270, Tryz.ntmps270
 go_wp2_with (with_reducible refine wpList_grow rfl _ _ _ rfl Tryz.underlying93 (.slice none 0 0) 0 n ?hs ?hx (.inl ⟨rfl, rfl⟩) h0 hn (by omega) ?_)
 case hs => rfl
 case hx => rfl
 intro cap w' F hcap hB hf hmax
 have hmx : cap ≤ 9223372036854775807 := hmax
 go_wp2
 go_ret
 exact ⟨cap, rfl, hcap, ⟨hmx, F, hB⟩, hf⟩
set_option maxHeartbeats 2000000 in
theorem grow_some_w (g l cap n : Nat) (w : World) (hb : Buf w g cap) (h0 : 0 < n) (hl : l ≤ cap) (hln : l + n ≤ 1000000000) :
  Calls Tryz.prog 270 #[.slice (some ⟨g, 0, none⟩) l cap, .int .i64 n] w fun e w' =>
   ∃ (g' cap' : Nat), e = .returned (.slice (some ⟨g', 0, none⟩) l cap') ∧ l + n ≤ cap' ∧ Buf w' g' cap' ∧ Fr NoS w w' ∧ ((g' = g ∧ cap' = cap ∧ w' = w) ∨ g' = w.heap.size) := by
 obtain ⟨hmx, F, hB⟩ := hb
 have g1 : decide ((n : Int) < 0) = false := decide_eq_false (by omega)
 have q0 : IntKind.i64.wrap ((cap : Int) - (l : Int)) = ((cap - l : Nat) : Int) := by rw [IntWalk.i64_in _ (by omega)]; omega
 by_cases hroom : l + n ≤ cap
 ·obtain ⟨d, hd⟩ : ∃ d : Int, d = (n : Int) - ((cap : Int) - (l : Int)) := ⟨_, rfl⟩
  have q1 : IntKind.i64.wrap ((n : Int) - ((cap : Int) - (l : Int))) = d := by rw [hd, IntWalk.i64_in _ (by omega)]
  have q2 : IntKind.i64.wrap ((cap : Int) - (l : Int)) = (cap : Int) - (l : Int) := IntWalk.i64_in _ (by omega)
  have g2 : decide (0 < d) = false := decide_eq_false (by omega)
  have HM := Lib.hid hmx
  clear q0 hmx
  go_enter Tryz.func270, Tryz.ntmps270
  go_wp2
  go_ret
  exact ⟨g, cap, rfl, hroom, ⟨HM.out, F, hB⟩, Fr.refl _ _, .inl ⟨rfl, rfl, rfl⟩⟩
 ·obtain ⟨m, hm⟩ : ∃ m, Hid (m + cap = l + n) := ⟨l + n - cap, Lib.hid (by omega)⟩
  have q1 : IntKind.i64.wrap ((n : Int) - ((cap : Int) - (l : Int))) = m := by have := hm.out; rw [IntWalk.i64_in _ (by omega)]; omega
  have q2 : IntKind.i64.wrap ((cap : Int) - (l : Int)) = (cap : Int) - (l : Int) := IntWalk.i64_in _ (by omega)
  have q3 : (n : Int) - ((cap : Int) - (l : Int)) = m := by have := hm.out; omega
  have hm0 : 0 < m := by have := hm.out; omega
  have hml : m ≤ 1000000000 := by have := hm.out; omega
  have hcl : cap ≤ 1000000000 := by omega
  have g2 : decide (0 < m) = true := decide_eq_true hm0
  have hB' : Bs w g cap cap F := by
   have : min cap LL = cap := by rw [LL_eq]; omega
   rw [this] at hB
   exact hB
  have hlm : l ≤ cap + m := by omega
  clear q0 hB hmx hroom hln
  go_enter Tryz.func270, Tryz.ntmps270
  go_wp2_with (with_reducible refine wpList_grow rfl _ _ _ rfl Tryz.underlying93 (.slice (some ⟨g, 0, none⟩) cap cap) cap m ?hs ?hx (.inr ⟨g, F, rfl, hB'⟩) hm0 hml hcl ?_)
  case hs => rfl
  case hx => rfl
  intro cap' w' F' hcap hB2 hf hmax
  have hmx : cap' ≤ 9223372036854775807 := hmax
  have hlc : l ≤ cap' := by omega
  go_wp2
  go_ret
  exact ⟨_, cap', rfl, by have := hm.out; omega, ⟨hmx, F', hB2⟩, hf, .inr rfl⟩
set_option maxHeartbeats 2000000 in
theorem grow_nil_n (n : Nat) (w : World) (h0 : 0 < n) (hn : n ≤ 1000000000) :
  Calls Tryz.prog 234 #[.slice none 0 0, .int .i64 n] w fun e w' =>
   ∃ (cap : Nat), e = .returned (.slice (some ⟨w.heap.size, 0, none⟩) 0 cap) ∧ n ≤ cap ∧ Buf w' w.heap.size cap ∧ Fr NoS w w' := by
 have q1 : ((n : Int) - ((0 : Int) - 0)) = n := by omega
 have g1 : decide ((n : Int) < 0) = false := decide_eq_false (by omega)
 have g2 : decide (0 < n) = true := decide_eq_true h0
 go_enter Tryz.func234, Tryz.ntmps234
 go_wp2_with (with_reducible refine wpList_grow rfl _ _ _ rfl Tryz.underlying95 (.slice none 0 0) 0 n ?hs ?hx (.inl ⟨rfl, rfl⟩) h0 hn (by omega) ?_)
 case hs => rfl
 case hx => rfl
 intro cap w' F hcap hB hf hmax
 have hmx : cap ≤ 9223372036854775807 := hmax
 go_wp2
 go_ret
 exact ⟨cap, rfl, hcap, ⟨hmx, F, hB⟩, hf⟩
abbrev TIn : TypeId := 242
abbrev TSt : TypeId := 238
theorem andNot3 (n : Nat) (h : n ≤ 1000000000) : bits .andNot .i64 ((n : Int) + 3) 3 = (((n + 3) / 4 * 4 : Nat) : Int) := by
 have e0 : (n : Int) + 3 = ((n + 3 : Nat) : Int) := by omega
 rw [e0]
 show IntKind.i64.wrap ((BitVec.ofInt 64 ((n + 3 : Nat) : Int) &&& ~~~BitVec.ofInt 64 ((3 : Nat) : Int)).toNat : Int) = _
 rw [BitVec.toNat_and, BitVec.toNat_not, ofInt_u64 (n + 3) (by omega), ofInt_u64 3 (by omega)]
 have e : 2 ^ 64 - 1 - 3 = 18446744073709551612 := by decide
 rw [e, nat_hi64_2, Nat.mod_eq_of_lt (by omega)]
 exact Lib.wrap_i64_small _ (by omega)
def Inn (w : World) (q l : Nat) : Option (Nat × Nat) → Prop
 | none => w.heap[q]? = some (.cells #[.slice none 0 0] TIn (0, 0)) ∧ l = 0
 | some (g, cap) => w.heap[q]? = some (.cells #[.slice (some ⟨g, 0, none⟩) l cap] TIn (0, 0)) ∧ l ≤ cap ∧ Buf w g cap ∧ g ≠ q
theorem inn_set {w : World} {q : Nat} {v : Value} (hb : w.heap[q]? = some (.cells #[v] TIn (0, 0))) (v' : Value) : (w.setCell ⟨q, 0, none⟩ v').heap[q]? = some (.cells #[v'] TIn (0, 0)) := by
 rw [heap_setCell_same w q 0 _ _ _ hb]; rfl
set_option maxHeartbeats 4000000 in
theorem inner_nat_none (q n : Nat) (w : World) (hI : Inn w q 0 none) (h0 : 0 < n) (hn : n ≤ 900000000) :
  Calls Tryz.prog 235 #[.pointer (some ⟨q, 0, none⟩), .int .i64 n] w fun e w' =>
   ∃ g cap : Nat, e = .returned (.slice (some ⟨g, 0, none⟩) n n) ∧ Inn w' q ((n + 3) / 4 * 4) (some (g, cap)) ∧ w.heap.size ≤ g ∧ Fr (· = q) w w' := by
 obtain ⟨hq, _⟩ := hI
 have hql := (zLt hq)
 have c0 : w.cell? ⟨q, 0, none⟩ = some (.slice none 0 0) := by simp [World.cell?, hq]
 obtain ⟨nn, hnn⟩ : ∃ nn, Hid (nn = (n + 3) / 4 * 4) := ⟨_, Lib.hid rfl⟩
 have eN := andNot3 n (by omega)
 rw [← hnn.out] at eN ⊢
 have n0 : 0 < nn := by have := hnn.out; omega
 have nb : nn ≤ 1000000000 := by have := hnn.out; omega
 have nle : n ≤ nn := by have := hnn.out; omega
 have g0 : decide (0 < n) = true := decide_eq_true h0
 go_enter Tryz.func235, Tryz.ntmps235
 go_wp2_with fail
 refine (grow_nil_w nn _ n0 nb).mono ?_
 rintro e w1 ⟨cap, rfl, hcap, hB, hf⟩
 obtain ⟨g, hg⟩ : ∃ g, Hid (g = w.heap.size) := ⟨_, Lib.hid rfl⟩
 rw [← hg.out] at hB ⊢
 have hne : g ≠ q := by have := hg.out; omega
 have hne2 : q ≠ g := fun e => hne e.symm
 obtain ⟨hmx, F, hBs⟩ := hB
 have hmin : n ≤ min cap LL := by rw [LL_eq]; omega
 have hq1 := (hf.block q hql (fun x => x)).trans hq
 have c1 : w1.cell? ⟨q, 0, none⟩ = some (.slice none 0 0) := by simp [World.cell?, hq1]
 have f1 : w1.frozen? ⟨q, 0, none⟩ = false := by simp [World.frozen?, hq1]
 have cg := hBs.cell (j := 0) (by omega)
 have fg := hBs.free 0
 have hle : nn ≤ cap := hcap
 have hn0 : n ≤ cap := by omega
 have HB := Lib.hid hBs
 have HM := Lib.hid hmx
 clear hBs hmin hmx
 go_wp2
 go_ret
 have hs1 := inn_set (inn_set hq1 (.slice (some ⟨g, 0, none⟩) 0 cap)) (.slice (some ⟨g, 0, none⟩) nn cap)
 refine ⟨g, cap, rfl, ⟨?_, hle, ⟨HM.out, _, ((HB.out.of_eq (heap_setCell_other _ _ _ _ hne)).of_eq (heap_setCell_other _ _ _ _ hne)).store (i := 0) (x := 1043915) (by unfold BB; omega)⟩, hne⟩, by have := hg.out; omega, ?_⟩
 ·rw [heap_setCell_other _ _ _ _ hne2]; exact hs1
 ·have h1 := ((hf.mono (S' := (· = q)) (fun _ _ x => x.elim)).setCell ⟨q, 0, none⟩ (.slice (some ⟨g, 0, none⟩) 0 cap) (.inr rfl)).setCell ⟨q, 0, none⟩ (.slice (some ⟨g, 0, none⟩) nn cap) (.inr rfl)
  exact h1.setCell ⟨g, 0, none⟩ _ (.inl (by have := hg.out; show _ ≤ g; omega))
set_option maxHeartbeats 4000000 in
theorem inner_nat_some (q l g cap n : Nat) (w : World) (hI : Inn w q l (some (g, cap))) (h0 : 0 < n) (hn : l + n ≤ 900000000) :
  Calls Tryz.prog 235 #[.pointer (some ⟨q, 0, none⟩), .int .i64 n] w fun e w' =>
   ∃ g' cap' : Nat, e = .returned (.slice (some ⟨g', l, none⟩) n n) ∧ Inn w' q (l + (n + 3) / 4 * 4) (some (g', cap')) ∧ ((g' = g ∧ cap' = cap) ∨ w.heap.size ≤ g') ∧ Fr (fun k => k = q ∨ k = g) w w' ∧
    (∀ j, j < l → w'.cell? ⟨g, j, none⟩ = w.cell? ⟨g, j, none⟩) := by
 obtain ⟨hq, hlc, hB0, hgq⟩ := hI
 have hql := (zLt hq)
 have hgl : g < w.heap.size := by obtain ⟨_, F, hb⟩ := hB0; exact hb.lt
 have c0 : w.cell? ⟨q, 0, none⟩ = some (.slice (some ⟨g, 0, none⟩) l cap) := by simp [World.cell?, hq]
 obtain ⟨nn, hnn⟩ : ∃ nn, Hid (nn = (n + 3) / 4 * 4) := ⟨_, Lib.hid rfl⟩
 have eN := andNot3 n (by omega)
 rw [← hnn.out] at eN ⊢
 have n0 : 0 < nn := by have := hnn.out; omega
 have nb : l + nn ≤ 1000000000 := by have := hnn.out; omega
 have nle : n ≤ nn := by have := hnn.out; omega
 have g0 : decide (0 < n) = true := decide_eq_true h0
 go_enter Tryz.func235, Tryz.ntmps235
 go_wp2_with fail
 refine (grow_some_w g l cap nn _ hB0 n0 hlc nb).mono ?_
 rintro e w1 ⟨g', cap', rfl, hcap, hB, hf, hor⟩
 have hne : g' ≠ q := by
  rcases hor with ⟨e, _⟩ | e
  ·rw [e]; exact hgq
  ·omega
 have hor2 : Hid ((g' = g ∧ cap' = cap) ∨ w.heap.size ≤ g') := Lib.hid (by
  rcases hor with ⟨e, e', _⟩ | e
  ·exact .inl ⟨e, e'⟩
  ·exact .inr (by omega))
 have hgg : Hid (g' = g ∨ w.heap.size ≤ g') := Lib.hid (hor2.out.imp (fun x => x.1) id)
 have hne2 : q ≠ g' := fun e => hne e.symm
 obtain ⟨hmx, F, hBs⟩ := hB
 have hmin : l + n ≤ min cap' LL := by rw [LL_eq]; omega
 have hq1 := (hf.block q hql (fun x => x)).trans hq
 have c1 : w1.cell? ⟨q, 0, none⟩ = some (.slice (some ⟨g, 0, none⟩) l cap) := by simp [World.cell?, hq1]
 have f1 : w1.frozen? ⟨q, 0, none⟩ = false := by simp [World.frozen?, hq1]
 have cg := hBs.cell (j := l) (by omega)
 have fg := hBs.free l
 have hle : l + nn ≤ cap' := hcap
 have hlc' : l ≤ cap' := by omega
 have hn0 : l + n ≤ cap' := by omega
 have hll : l ≤ l + nn := by omega
 have hln : l + n ≤ l + nn := by omega
 have HB := Lib.hid hBs
 have HM := Lib.hid hmx
 have HF := Lib.hid hf
 clear hBs hmin hmx hor hf hB0
 go_wp2
 go_ret
 have hf := HF.out
 have hs1 := inn_set (inn_set hq1 (.slice (some ⟨g', 0, none⟩) l cap')) (.slice (some ⟨g', 0, none⟩) (l + nn) cap')
 have eln : l + n - l = n := by omega
 refine ⟨g', cap', (by show Ending.returned (Value.slice (some ⟨g', l, none⟩) (l + n - l) (l + n - l)) = _; rw [eln]), ⟨?_, hle, ⟨HM.out, _, ((HB.out.of_eq (heap_setCell_other _ _ _ _ hne)).of_eq (heap_setCell_other _ _ _ _ hne)).store (i := l) (x := 1043915) (by unfold BB; omega)⟩, hne⟩, hor2.out, ?_, ?_⟩
 ·rw [heap_setCell_other _ _ _ _ hne2]; exact hs1
 ·have h1 := ((hf.mono (S' := fun k => k = q ∨ k = g) (fun _ _ x => x.elim)).setCell ⟨q, 0, none⟩ (.slice (some ⟨g', 0, none⟩) l cap') (.inr (.inl rfl))).setCell ⟨q, 0, none⟩ (.slice (some ⟨g', 0, none⟩) (l + nn) cap') (.inr (.inl rfl))
  refine h1.setCell ⟨g', l, none⟩ _ ?_
  rcases hgg.out with e | e
  ·exact .inr (.inr e)
  ·exact .inl e
 ·intro j hj
  rw [World.cell?_setCell_other (h := fun e => by injection e with e1 e2; omega), World.cell?_setCell_other (h := fun e => by injection e with e1 e2; exact hgq e1.symm), World.cell?_setCell_other (h := fun e => by injection e with e1 e2; exact hgq e1.symm)]
  exact hf.cell hgl (fun x => x)
structure Held where
 q : Nat
 l : Nat
 g : Nat
 cap : Nat
def Stk (w : World) (p : Nat) : Option Held → Prop
 | none => w.heap[p]? = some (.cells #[.pointer none] TSt (0, 0))
 | some s => w.heap[p]? = some (.cells #[.pointer (some ⟨s.q, 0, none⟩)] TSt (0, 0)) ∧ Inn w s.q s.l (some (s.g, s.cap)) ∧ p ≠ s.q ∧ s.g ≠ p
def StkB (S : Option Held) (k : Nat) : Prop := ∃ s, S = some s ∧ (k = s.q ∨ k = s.g)
def Live (S : Option Held) (g o n : Nat) : Prop := ∀ s, S = some s → g = s.g → o + n ≤ s.l
def slen : Option Held → Nat
 | none => 0
 | some s => s.l
structure Taken (w w' : World) (p n b : Nat) (S S' : Option Held) (g o c sz len : Nat) (F : Nat → Nat) : Prop where
 cap : n ≤ c
 bs : Bs w' g sz len F
 fit : o + n ≤ len
 stk : Stk w' p S'
 base : ∀ k, StkB S' k → b ≤ k
 gb : b ≤ g
 gp : g ≠ p
 live : Live S' g o n
 short : slen S' ≤ slen S + n + 3
 grow : slen S ≤ slen S'
 fr : Fr (fun k => k = p ∨ StkB S k) w w'
 buf : ∀ s, S' = some s → s.g = g ∧ sz = s.cap ∧ len = min s.cap LL
 new : ∀ k, StkB S' k → StkB S k ∨ w.heap.size ≤ k
 gnew : StkB S g ∨ w.heap.size ≤ g
 keep : ∀ g0 o0 n0 X0, 0 < n0 → Words w g0 o0 n0 X0 → Live S g0 o0 n0 → Words w' g0 o0 n0 X0 ∧ Live S' g0 o0 n0 ∧ (g0 = g → o0 + n0 ≤ o)
theorem stk_set {w : World} {p : Nat} {v : Value} (hb : w.heap[p]? = some (.cells #[v] TSt (0, 0))) (v' : Value) : (w.setCell ⟨p, 0, none⟩ v').heap[p]? = some (.cells #[v'] TSt (0, 0)) := by
 rw [heap_setCell_same w p 0 _ _ _ hb]; rfl
theorem Words.ne {w : World} {g o n p : Nat} {X : Nat → Nat} {v : Value} {T : TypeId} (h : Words w g o n X) (h0 : 0 < n) (hp : w.heap[p]? = some (.cells #[v] T (0, 0))) (hv : ∀ x, v ≠ .int .u64 x) : g ≠ p := by
 rintro rfl
 have := h.cell 0 h0
 simp only [World.cell?, hp] at this
 by_cases e : o + 0 = 0
 ·rw [e] at this
  simp at this
  exact hv _ this
 ·have : (#[v] : Array Value)[o + 0]? = none := by rw [Array.getElem?_eq_none]; simp; omega
  simp_all
set_option maxHeartbeats 4000000 in
theorem stack_nat_small (p n b : Nat) (w : World) (hS : Stk w p none) (hb : b ≤ w.heap.size) (h0 : 0 < n) (hn : n ≤ 4) :
  Calls Tryz.prog 187 #[.pointer (some ⟨p, 0, none⟩), .int .i64 n] w fun e w' =>
   ∃ (g o c sz len : Nat) (F : Nat → Nat) (S' : Option Held), e = .returned (.slice (some ⟨g, o, none⟩) n c) ∧ Taken w w' p n b none S' g o c sz len F := by
 have hp : w.heap[p]? = some (.cells #[.pointer none] TSt (0, 0)) := hS
 have hpl := (zLt hp)
 have c0 : w.cell? ⟨p, 0, none⟩ = some (.pointer none) := by simp [World.cell?, hp]
 have g1 : decide ((n : Int) ≤ 4) = true := decide_eq_true (by omega)
 have g2 : decide (0 < n) = true := decide_eq_true h0
 go_enter Tryz.func187, Tryz.ntmps187
 go_wp2_with fail
 refine (grow_nil_n n _ h0 (by omega)).mono ?_
 rintro e w1 ⟨cap, rfl, hcap, hB, hf⟩
 obtain ⟨g, hg⟩ : ∃ g, Hid (g = w.heap.size) := ⟨_, Lib.hid rfl⟩
 rw [← hg.out] at hB ⊢
 have hne : g ≠ p := by have := hg.out; omega
 obtain ⟨hmx, F, hBs⟩ := hB
 have hmin : n ≤ min cap LL := by rw [LL_eq]; omega
 have cg := hBs.cell (j := 0) (by omega)
 have fg := hBs.free 0
 have HB := Lib.hid hBs
 have HI := Lib.hid hmin
 clear hBs hmin hmx
 go_wp2
 go_ret
 have hp1 := (hf.block p hpl (fun x => x)).trans hp
 have hfr : Fr NoS w (w1.setCell ⟨g, 0, none⟩ (.int .u64 11259375)) := hf.setCell _ _ (.inl (by have := hg.out; show _ ≤ g; omega))
 refine ⟨g, 0, cap, _, _, _, none, rfl, ⟨hcap, HB.out.store (i := 0) (x := 11259375) (by unfold BB; omega), by have := HI.out; omega, ?_, (fun k ⟨s, h, _⟩ => by cases h), by have := hg.out; omega, hne, (fun s h => by cases h), by simp [slen], Nat.le_refl _, hfr.mono (fun _ _ x => x.elim), (fun s h => by cases h), (fun k ⟨s, h, _⟩ => by cases h), .inr (by have := hg.out; omega), fun g0 o0 n0 X0 h1 h2 _ => ⟨h2.fr hfr (fun x => x), fun s h => (by cases h), fun e => ?_⟩⟩⟩
 ·show _ = _
  rw [heap_setCell_other _ _ _ _ (fun e => hne e.symm)]; exact hp1
 ·have := h2.lt h1; have := hg.out; omega
set_option maxHeartbeats 4000000 in
theorem stack_nat_new (p n b : Nat) (w : World) (hS : Stk w p none) (hb : b ≤ w.heap.size) (h0 : 4 < n) (hn : n ≤ 900000000) :
  Calls Tryz.prog 187 #[.pointer (some ⟨p, 0, none⟩), .int .i64 n] w fun e w' =>
   ∃ (g o c sz len : Nat) (F : Nat → Nat) (S' : Option Held), e = .returned (.slice (some ⟨g, o, none⟩) n c) ∧ Taken w w' p n b none S' g o c sz len F := by
 have hp : w.heap[p]? = some (.cells #[.pointer none] TSt (0, 0)) := hS
 have hpl := (zLt hp)
 have c0 : w.cell? ⟨p, 0, none⟩ = some (.pointer none) := by simp [World.cell?, hp]
 have f0 : w.frozen? ⟨p, 0, none⟩ = false := by simp [World.frozen?, hp]
 have g1 : decide ((n : Int) ≤ 4) = false := decide_eq_false (by omega)
 go_enter Tryz.func187, Tryz.ntmps187
 go_wp2_with fail
 have hqw : Inn ((w.setCell ⟨p, 0, none⟩ (.pointer (some ⟨w.heap.size, 0, none⟩))).alloc (.cells #[.slice none 0 0] TIn)) w.heap.size 0 none := by
  refine ⟨?_, rfl⟩
  have := heap_alloc_new (w.setCell ⟨p, 0, none⟩ (.pointer (some ⟨w.heap.size, 0, none⟩))) (.cells #[.slice none 0 0] TIn)
  rw [World.size_setCell] at this
  exact this
 have hf1 : Fr (· = p) w ((w.setCell ⟨p, 0, none⟩ (.pointer (some ⟨w.heap.size, 0, none⟩))).alloc (.cells #[.slice none 0 0] TIn)) := (((Fr.refl (· = p) w).setCell ⟨p, 0, none⟩ _ (.inr rfl))).alloc _
 have hsz1 : ((w.setCell ⟨p, 0, none⟩ (.pointer (some ⟨w.heap.size, 0, none⟩))).alloc (.cells #[.slice none 0 0] TIn)).heap.size = w.heap.size + 1 := by simp
 have hp1 : ((w.setCell ⟨p, 0, none⟩ (.pointer (some ⟨w.heap.size, 0, none⟩))).alloc (.cells #[.slice none 0 0] TIn)).heap[p]? = some (.cells #[.pointer (some ⟨w.heap.size, 0, none⟩)] TSt (0, 0)) := by
  rw [Below.heap_alloc _ _ _ (by simpa using hpl)]
  exact stk_set hp _
 refine (inner_nat_none w.heap.size n _ hqw (by omega) hn).mono ?_
 rintro e w1 ⟨g, cap, rfl, hI, hg, hf2⟩
 rw [hsz1] at hg
 obtain ⟨hq, hlc, ⟨hmx, F, hBs⟩, hgq⟩ := hI
 have HB := Lib.hid hBs
 clear hBs
 go_wp2
 go_ret
 have hpq : p ≠ w.heap.size := by omega
 have hfr : Fr (· = p) w w1 := hf1.trans hf2 (fun i hi e => by omega)
 refine ⟨g, 0, n, _, _, F, some ⟨w.heap.size, (n + 3) / 4 * 4, g, cap⟩, rfl, ⟨Nat.le_refl _, HB.out, by rw [LL_eq]; omega, ⟨(hf2.block p (by rw [hsz1]; omega) hpq).trans hp1, ⟨hq, hlc, ⟨hmx, F, HB.out⟩, hgq⟩, hpq, by show g ≠ p; omega⟩,
  (fun k ⟨s, h, h2⟩ => by injection h with h; subst h; rcases h2 with h2 | h2 <;> (rw [h2]; simp only; omega)), by omega, by omega, (fun s h _ => by injection h with h; subst h; simp only; omega), by simp only [slen]; omega, by simp only [slen]; omega, hfr.mono (fun _ _ x => .inl x), (fun s h => by injection h with h; subst h; exact ⟨rfl, rfl, rfl⟩), (fun k ⟨s, h, h2⟩ => by injection h with h; subst h; right; rcases h2 with h2 | h2 <;> (rw [h2]; simp only; omega)), .inr (by omega),
  fun g0 o0 n0 X0 h1 h2 _ => ⟨h2.fr hfr (h2.ne h1 hp (fun x e => by cases e)), (fun s h e => by injection h with h; subst h; have := h2.lt h1; simp only at e; omega), fun e => by have := h2.lt h1; omega⟩⟩⟩
set_option maxHeartbeats 4000000 in
theorem stack_nat_some (p n b : Nat) (s : Held) (w : World) (hS : Stk w p (some s)) (hbk : ∀ k, StkB (some s) k → b ≤ k) (hb : b ≤ w.heap.size) (h0 : 0 < n) (hn : s.l + n ≤ 900000000) :
  Calls Tryz.prog 187 #[.pointer (some ⟨p, 0, none⟩), .int .i64 n] w fun e w' =>
   ∃ (g o c sz len : Nat) (F : Nat → Nat) (S' : Option Held), e = .returned (.slice (some ⟨g, o, none⟩) n c) ∧ Taken w w' p n b (some s) S' g o c sz len F := by
 obtain ⟨hp, hI, hpq, hgp⟩ := hS
 obtain ⟨q, l, g, cap⟩ := s
 simp only at hp hI hpq hgp hn
 have hpl := (zLt hp)
 have hql := (Array.getElem?_eq_some_iff.1 hI.1).1
 have hbq : b ≤ q := hbk q ⟨_, rfl, .inl rfl⟩
 have hbg : b ≤ g := hbk g ⟨_, rfl, .inr rfl⟩
 have c0 : w.cell? ⟨p, 0, none⟩ = some (.pointer (some ⟨q, 0, none⟩)) := by simp [World.cell?, hp]
 go_enter Tryz.func187, Tryz.ntmps187
 go_wp2_with fail
 refine (inner_nat_some q l g cap n _ hI h0 hn).mono ?_
 rintro e w1 ⟨g', cap', rfl, hI2, hor, hf, hkeep⟩
 obtain ⟨hq2, hlc2, ⟨hmx2, F2, hBs2⟩, hgq2⟩ := hI2
 have HB := Lib.hid hBs2
 have HO := Lib.hid hor
 have HK := Lib.hid hkeep
 clear hBs2 hor hkeep
 go_wp2
 go_ret
 have hgp2 : g' ≠ p := by
  rcases HO.out with ⟨e, _⟩ | e
  ·rw [e]; exact hgp
  ·omega
 have hbg2 : b ≤ g' := by
  rcases HO.out with ⟨e, _⟩ | e
  ·rw [e]; exact hbg
  ·omega
 refine ⟨g', l, n, _, _, F2, some ⟨q, l + (n + 3) / 4 * 4, g', cap'⟩, rfl, ⟨Nat.le_refl _, HB.out, by rw [LL_eq]; omega, ⟨(hf.block p hpl (by omega)).trans hp, ⟨hq2, hlc2, ⟨hmx2, F2, HB.out⟩, hgq2⟩, hpq, hgp2⟩,
  (fun k ⟨s, h, h2⟩ => by injection h with h; subst h; rcases h2 with h2 | h2 <;> (rw [h2]; simp only; omega)), hbg2, hgp2, (fun s h _ => by injection h with h; subst h; simp only; omega), by simp only [slen]; omega, by simp only [slen]; omega, hf.mono (fun k _ x => .inr ⟨_, rfl, x⟩), (fun s h => by injection h with h; subst h; exact ⟨rfl, rfl, rfl⟩), (fun k ⟨s, h, h2⟩ => by
   injection h with h
   subst h
   rcases h2 with h2 | h2
   ·exact .inl ⟨_, rfl, .inl h2⟩
   ·rcases HO.out with ⟨e, _⟩ | e
    ·exact .inl ⟨_, rfl, .inr (h2.trans e)⟩
    ·right; rw [h2]; exact e), (HO.out.imp (fun x => ⟨_, rfl, .inr x.1⟩) id),
  fun g0 o0 n0 X0 h1 h2 h3 => ?_⟩⟩
 have hq0 : g0 ≠ q := h2.ne h1 hI.1 (fun x e => by cases e)
 have hlt := h2.lt h1
 refine ⟨?_, (fun s h e => ?_), fun e => ?_⟩
 ·by_cases eg : g0 = g
  ·subst eg
   have := h3 _ rfl rfl
   simp only at this
   exact ⟨fun j hj => (HK.out _ (by omega)).trans (h2.cell j hj), h2.word⟩
  ·exact h2.fr hf (by rintro (e | e); exact hq0 e; exact eg e)
 ·injection h with h
  subst h
  simp only at e ⊢
  rcases HO.out with ⟨e2, _⟩ | e2
  ·have := h3 _ rfl (by rw [e, e2])
   simp only at this
   omega
  ·omega
 ·rcases HO.out with ⟨e2, _⟩ | e2
  ·have := h3 _ rfl (by rw [e, e2])
   exact this
  ·omega
theorem Taken.stk_after {w w1 w' : World} {p n b g o c sz len : Nat} {S S' : Option Held} {F F' : Nat → Nat} {T : Nat → Prop} (h : Taken w w1 p n b S S' g o c sz len F) (hb : Bs w' g sz len F') (hf : Fr T w1 w') (hp : ¬ T p) (hq : ∀ s, S' = some s → ¬ T s.q) : Stk w' p S' := by
 have hs := h.stk
 cases S' with
 | none => exact (hf.block p (zLt hs) hp).trans hs
 | some s =>
  obtain ⟨h1, ⟨h2, h3, ⟨h4, _⟩, h5⟩, h6, h7⟩ := hs
  obtain ⟨b1, b2, b3⟩ := h.buf s rfl
  subst b1 b2 b3
  exact ⟨(hf.block p (zLt h1) hp).trans h1, ⟨(hf.block s.q (zLt h2) (hq s rfl)).trans h2, h3, ⟨h4, F', hb⟩, h5⟩, h6, h7⟩
theorem stack_nat (p n b : Nat) (S : Option Held) (w : World) (hS : Stk w p S) (hbk : ∀ k, StkB S k → b ≤ k) (hb : b ≤ w.heap.size) (h0 : 0 < n) (hn : slen S + n ≤ 900000000) :
  Calls Tryz.prog 187 #[.pointer (some ⟨p, 0, none⟩), .int .i64 n] w fun e w' =>
   ∃ (g o c sz len : Nat) (F : Nat → Nat) (S' : Option Held), e = .returned (.slice (some ⟨g, o, none⟩) n c) ∧ Taken w w' p n b S S' g o c sz len F := by
 cases S with
 | none =>
  rcases Nat.lt_or_ge 4 n with h | h
  ·exact stack_nat_new p n b w hS hb h (by simp only [slen] at hn; omega)
  ·exact stack_nat_small p n b w hS hb h0 h
 | some s => exact stack_nat_some p n b s w hS hbk hb h0 hn
theorem getStack (w : World) : Calls Tryz.prog 179 #[] w fun e w' =>
  ∃ p : Nat, e = .returned (.pointer (some ⟨p, 0, none⟩)) ∧ Stk w' p none ∧ p = w.heap.size ∧ Fr NoS w w' := by
 go_enter Tryz.func179, Tryz.ntmps179
 go_wp2
 go_ret
 exact ⟨_, rfl, heap_alloc_new w _, rfl, (Fr.refl _ _).alloc _⟩
theorem stack_save (p : Nat) (S : Option Held) (w : World) (hS : Stk w p S) :
  Calls Tryz.prog 186 #[.pointer (some ⟨p, 0, none⟩)] w fun e w' => e = .returned (.int .i64 (slen S : Nat)) ∧ w = w' := by
 cases S with
 | none =>
  have hp : w.heap[p]? = some (.cells #[.pointer none] TSt (0, 0)) := hS
  have c0 : w.cell? ⟨p, 0, none⟩ = some (.pointer none) := by simp [World.cell?, hp]
  go_enter Tryz.func186, Tryz.ntmps186
  go_wp2
  go_ret
  exact ⟨rfl, rfl⟩
 | some s =>
  obtain ⟨hp, hI, hpq, hgp⟩ := hS
  obtain ⟨q, l, g, cap⟩ := s
  simp only at hp hI hpq hgp
  have c0 : w.cell? ⟨p, 0, none⟩ = some (.pointer (some ⟨q, 0, none⟩)) := by simp [World.cell?, hp]
  have hq := hI.1
  have c1 : w.cell? ⟨q, 0, none⟩ = some (.slice (some ⟨g, 0, none⟩) l cap) := by simp [World.cell?, hq]
  have hin : Calls Tryz.prog 233 #[.pointer (some ⟨q, 0, none⟩)] w fun e w' => e = .returned (.int .i64 (l : Nat)) ∧ w = w' := by
   go_enter Tryz.func233, Tryz.ntmps233
   go_wp2
   go_ret
   exact ⟨rfl, rfl⟩
  have HIN := Lib.hid hin
  clear hin
  go_enter Tryz.func186, Tryz.ntmps186
  go_wp2_with fail
  refine HIN.out.mono ?_
  rintro e w1 ⟨rfl, rfl⟩
  go_wp2
  go_ret
  exact ⟨rfl, rfl⟩
structure Back (w w' : World) (p b k : Nat) (S : Option Held) : Prop where
 fr : Fr (fun j => StkB S j ∧ j ≠ p) w w'
 stk : ∃ S', Stk w' p S' ∧ slen S' ≤ k ∧ (∀ j, StkB S' j → StkB S j)
 keep : ∀ g0 o0 n0 X0, 0 < n0 → Words w g0 o0 n0 X0 → Words w' g0 o0 n0 X0
 heap : ∀ j, (∀ s, S = some s → j ≠ s.q) → w'.heap[j]? = w.heap[j]?
set_option maxHeartbeats 1000000 in
theorem stack_restore_later (p b k : Nat) (u : FrameMode) (S : Option Held) (w : World) (hS : Stk w p S) (hk : k ≤ slen S) :
  CallsD Tryz.prog 185 #[.pointer (some ⟨p, 0, none⟩), .int .i64 k] u w fun e u' w' => u' = u ∧ e = .returned (.tuple #[]) ∧ Back w w' p b k S := by
 cases S with
 | none =>
  have hp : w.heap[p]? = some (.cells #[.pointer none] TSt (0, 0)) := hS
  have c0 : w.cell? ⟨p, 0, none⟩ = some (.pointer none) := by simp [World.cell?, hp]
  go_enter_d Tryz.func185, Tryz.ntmps185
  go_wp2
  exact bodyPost_ret (v := .tuple #[]) (by simp [results, Tryz.results185, go_sem]) rfl ⟨rfl, Fr.refl _ _, ⟨none, hS, by simp [slen], fun j h => h⟩, fun _ _ _ _ _ h => h, fun _ _ => rfl⟩
 | some s =>
  obtain ⟨hp, hI, hpq, hgp⟩ := hS
  obtain ⟨q, l, g, cap⟩ := s
  simp only at hp hI hpq hgp
  simp only [slen] at hk
  have c0 : w.cell? ⟨p, 0, none⟩ = some (.pointer (some ⟨q, 0, none⟩)) := by simp [World.cell?, hp]
  obtain ⟨hq, hlc, hB, hgq⟩ := hI
  have c1 : w.cell? ⟨q, 0, none⟩ = some (.slice (some ⟨g, 0, none⟩) l cap) := by simp [World.cell?, hq]
  have f1 : w.frozen? ⟨q, 0, none⟩ = false := by simp [World.frozen?, hq]
  have hkc : k ≤ cap := by omega
  have hin : Calls Tryz.prog 232 #[.pointer (some ⟨q, 0, none⟩), .int .i64 k] w fun e w' => e = .returned (.tuple #[]) ∧ w' = w.setCell ⟨q, 0, none⟩ (.slice (some ⟨g, 0, none⟩) k cap) := by
   go_enter Tryz.func232, Tryz.ntmps232
   go_wp2
   exact bodyPost_end (v := .tuple #[]) (by simp [results, Tryz.results232, go_sem]) rfl ⟨rfl, rfl⟩
  have HIN := Lib.hid hin
  clear hin
  go_enter_d Tryz.func185, Tryz.ntmps185
  go_wp2_with fail
  refine HIN.out.mono ?_
  rintro e w1 ⟨rfl, rfl⟩
  go_wp2
  have hpl := (zLt hp)
  have hset := inn_set hq (.slice (some ⟨g, 0, none⟩) k cap)
  have hfr : Fr (· = q) w (w.setCell ⟨q, 0, none⟩ (.slice (some ⟨g, 0, none⟩) k cap)) := Fr.set w q 0 _
  refine bodyPost_end (v := .tuple #[]) (by simp [results, Tryz.results185, go_sem]) rfl ⟨rfl, hfr.mono (fun j _ e => ⟨⟨_, rfl, .inl e⟩, by omega⟩), ⟨some ⟨q, k, g, cap⟩, ⟨(heap_setCell_other _ _ _ _ hpq).trans hp, ⟨hset, hkc, ?_, hgq⟩, hpq, hgp⟩, Nat.le_refl _, fun j ⟨s, h, h2⟩ => ?_⟩, fun g0 o0 n0 X0 h1 h2 => h2.fr hfr (h2.ne h1 hq (fun x e => by cases e)), fun j hj => heap_setCell_other _ _ _ _ (hj _ rfl)⟩
  ·obtain ⟨hmx, F, hBs⟩ := hB
   exact ⟨hmx, F, hBs.of_eq (heap_setCell_other _ _ _ _ hgq)⟩
  ·injection h with h
   subst h
   exact ⟨_, rfl, h2⟩
set_option maxHeartbeats 1000000 in
theorem stack_free_later (p : Nat) (u : FrameMode) (S : Option Held) (w : World) (hS : Stk w p S) :
  CallsD Tryz.prog 180 #[.pointer (some ⟨p, 0, none⟩)] u w fun e u' w' => u' = u ∧ e = .returned (.tuple #[]) ∧ Fr (fun j => StkB S j) w w' ∧ (∀ j, (∀ s, S = some s → j ≠ s.q) → w'.heap[j]? = w.heap[j]?) ∧ (∀ g0 o0 n0 X0, 0 < n0 → Words w g0 o0 n0 X0 → Words w' g0 o0 n0 X0) := by
 cases S with
 | none =>
  have hp : w.heap[p]? = some (.cells #[.pointer none] TSt (0, 0)) := hS
  have c0 : w.cell? ⟨p, 0, none⟩ = some (.pointer none) := by simp [World.cell?, hp]
  go_enter_d Tryz.func180, Tryz.ntmps180
  go_wp2
  exact bodyPost_end (v := .tuple #[]) (by simp [results, Tryz.results180, go_sem]) rfl ⟨rfl, Fr.refl _ _, fun _ _ => rfl, fun _ _ _ _ _ h => h⟩
 | some s =>
  obtain ⟨hp, hI, hpq, hgp⟩ := hS
  obtain ⟨q, l, g, cap⟩ := s
  simp only at hp hI hpq hgp
  have c0 : w.cell? ⟨p, 0, none⟩ = some (.pointer (some ⟨q, 0, none⟩)) := by simp [World.cell?, hp]
  obtain ⟨hq, hlc, hB, hgq⟩ := hI
  have c1 : w.cell? ⟨q, 0, none⟩ = some (.slice (some ⟨g, 0, none⟩) l cap) := by simp [World.cell?, hq]
  have f1 : w.frozen? ⟨q, 0, none⟩ = false := by simp [World.frozen?, hq]
  have hin : Calls Tryz.prog 230 #[.pointer (some ⟨q, 0, none⟩)] w fun e w' => e = .returned (.tuple #[]) ∧ w' = w.setCell ⟨q, 0, none⟩ (.slice (some ⟨g, 0, none⟩) 0 cap) := by
   go_enter Tryz.func230, Tryz.ntmps230
   go_wp2
   exact bodyPost_end (v := .tuple #[]) (by simp [results, Tryz.results230, go_sem]) rfl ⟨rfl, rfl⟩
  have HIN := Lib.hid hin
  clear hin
  go_enter_d Tryz.func180, Tryz.ntmps180
  go_wp2_with fail
  refine HIN.out.mono ?_
  rintro e w1 ⟨rfl, rfl⟩
  go_wp2
  have hfr : Fr (· = q) w (w.setCell ⟨q, 0, none⟩ (.slice (some ⟨g, 0, none⟩) 0 cap)) := Fr.set w q 0 _
  exact bodyPost_end (v := .tuple #[]) (by simp [results, Tryz.results180, go_sem]) rfl ⟨rfl, hfr.mono (fun j _ e => ⟨_, rfl, .inl e⟩), fun j hj => heap_setCell_other _ _ _ _ (hj _ rfl), fun g0 o0 n0 X0 h1 h2 => h2.fr hfr (h2.ne h1 hq (fun x e => by cases e))⟩
structure NewN (w w' : World) (v : Value) (N : Nat) : Prop where
 fr : Fr NoS w w'
 own : ∃ (n : Nat) (G : Nat → Nat), OwnW w' v n G ∧ Top G n ∧ Vb BB G 0 n = N
 new : ∀ k, v.ownBlock = some k → w.heap.size ≤ k
theorem NewN.of_made {w w1 w' : World} {v' : Value} {n : Nat} {G : Nat → Nat} {N : Nat} (f : Fr NoS w w1) (h : MadeNat w1 w' (.slice none 0 0) v' n G) (ht : Top G n) (hv : Vb BB G 0 n = N) : NewN w w' v' N :=
 ⟨f.trans' (h.fr.mono (fun _ _ e => by cases e)), ⟨n, G, h.own, ht, hv⟩, fun k hk => by
  rcases h.at_ k hk with e | e
  ·cases e
  ·exact Nat.le_trans f.size e⟩
structure Sq (w0 w : World) (p : Nat) (z zz : Value) (P : Nat) : Prop where
 fr : Fr NoS w0 w
 zown : ∃ (n : Nat) (G : Nat → Nat), OwnW w z n G ∧ Top G n ∧ Vb BB G 0 n = P
 zzown : ∃ (l : Nat) (F : Nat → Nat), OwnW w zz l F
 znew : ∀ k, z.ownBlock = some k → w0.heap.size ≤ k
 zznew : ∀ k, zz.ownBlock = some k → w0.heap.size ≤ k
 ne : ∀ k, z.ownBlock = some k → zz.ownBlock ≠ some k
 pnew : w0.heap.size ≤ p
 stk : Stk w p none
theorem Sq.step {w0 w w1 : World} {p : Nat} {z zz v' : Value} {P n Q : Nat} {G : Nat → Nat} (h : Sq w0 w p z zz P) (hm : MadeNat w w1 zz v' n G) (ht : Top G n) (hv : Vb BB G 0 n = Q) : Sq w0 w1 p v' z Q := by
 obtain ⟨nz, Gz, hz, htz, hvz⟩ := h.zown
 obtain ⟨l, F, hzz⟩ := h.zzown
 have hs := h.fr.size
 have hstk : w.heap[p]? = some (.cells #[.pointer none] TSt (0, 0)) := h.stk
 have hpz : ∀ k, zz.ownBlock = some k → k ≠ p := by
  rintro k hk rfl
  rcases hzz with ⟨rfl, _⟩ | ⟨g, c, rfl, _, hb⟩
  ·cases hk
  ·simp only [Value.ownBlock, Option.some.injEq] at hk
   subst hk
   obtain ⟨cs, hc, _⟩ := hb.row
   rw [hc] at hstk
   injection hstk with hstk
   injection hstk with _ hstk
   exact absurd hstk (by decide)
 refine ⟨h.fr.trans hm.fr (fun i hi e => by have := h.zznew i e; omega), ⟨n, G, hm.own, ht, hv⟩, ⟨nz, Gz, hz.fr hm.fr (fun k hk e => h.ne k hk e)⟩, fun k hk => ?_, h.znew, fun k hk hk2 => ?_, h.pnew, ?_⟩
 ·rcases hm.at_ k hk with e | e
  ·exact h.zznew k e
  ·omega
 ·rcases hm.at_ k hk with e | e
  ·exact h.ne k hk2 e
  ·have := hz.lt hk2; omega
 ·exact (hm.fr.block p (zLt hstk) (fun e => hpz p e rfl)).trans hstk
set_option maxRecDepth 100000 in
set_option maxHeartbeats 4000000 in
theorem nat_exp_zero (Ax Ay : Option Addr) (cx cy my : Nat) (w : World) (hy : 0 < my) :
  Calls Tryz.prog 139 #[.slice none 0 0, .pointer none, .slice Ax 0 cx, .slice Ay my cy, .slice none 0 0, .bool false] w fun e w' => ∃ v', e = .returned v' ∧ NewN w w' v' 0 := by
 have b0 : ((my : Int) == 0) = false := by simp; omega
 go_enter_defers Tryz.func139, Tryz.ntmps139
 go_wp2_with fail
 refine (alias_none none 0 _ w).mono ?_
 rintro e w1 ⟨q1, rfl, rfl⟩
 go_wp2_with fail
 refine (alias_none none 0 _ _).mono ?_
 rintro e w1 ⟨q2, rfl, rfl⟩
 go_wp2_with fail
 refine (nat_setWord (.slice none 0 0) 0 0 (fun _ => 0) _ (.inl ⟨rfl, rfl⟩) BB_pos).mono ?_
 rintro e w2 ⟨v2, n2, G2, rfl, hm2, hn2, ht2, hV2⟩
 go_wp2
 exact bodyPostD_ret (results_tmp (t := 12) rfl _ _ _) rfl ⟨v2, rfl, NewN.of_made ((Fr.refl NoS w).drewN _) hm2 ht2 hV2⟩
set_option maxRecDepth 100000 in
set_option maxHeartbeats 4000000 in
theorem nat_exp_one (g o cx my cy : Nat) (Ay : Option Addr) (X : Nat → Nat) (w : World) (hy : 0 < my) (wx : Words w g o 1 X) (h1 : X 0 = 1) :
  Calls Tryz.prog 139 #[.slice none 0 0, .pointer none, .slice (some ⟨g, o, none⟩) 1 cx, .slice Ay my cy, .slice none 0 0, .bool false] w fun e w' => ∃ v', e = .returned v' ∧ NewN w w' v' 1 := by
 have b0 : ((my : Int) == 0) = false := by simp; omega
 have b1 : (((1 : Nat) : Int) == 0) = false := by simp
 have b2 : (((1 : Nat) : Int) == 1) = true := by simp
 have hc := wx.cell 0 (by omega)
 rw [Nat.add_zero, h1] at hc
 have hcq : ∀ q, (w.drewN q).cell? ⟨g, o, none⟩ = some (.int .u64 ((1 : Nat) : Int)) := fun q => hc
 go_enter_defers Tryz.func139, Tryz.ntmps139
 go_wp2_with fail
 refine (alias_none none 0 _ w).mono ?_
 rintro e w1 ⟨q1, rfl, rfl⟩
 go_wp2_with fail
 refine (alias_none none 0 _ _).mono ?_
 rintro e w1 ⟨q2, rfl, rfl⟩
 go_wp2_with fail
 refine (nat_setWord (.slice none 0 0) 0 1 (fun _ => 0) _ (.inl ⟨rfl, rfl⟩) (by rw [BB_eq]; omega)).mono ?_
 rintro e w2 ⟨v2, n2, G2, rfl, hm2, hn2, ht2, hV2⟩
 go_wp2
 exact bodyPostD_ret (results_tmp (t := 12) rfl _ _ _) rfl ⟨v2, rfl, NewN.of_made ((Fr.refl NoS w).drewN _) hm2 ht2 hV2⟩
set_option maxRecDepth 100000 in
set_option maxHeartbeats 4000000 in
theorem nat_exp_self (g o n cx gy oy cy : Nat) (X Y : Nat → Nat) (w : World) (hx : RdW w (.slice (some ⟨g, o, none⟩) n cx) n X) (tx : Top X n) (hn0 : 0 < n) (hn : n ≤ 999999000) (hbig : n = 1 → X 0 ≠ 1) (wy : Words w gy oy 1 Y) (hY : Y 0 = 1) :
  Calls Tryz.prog 139 #[.slice none 0 0, .pointer none, .slice (some ⟨g, o, none⟩) n cx, .slice (some ⟨gy, oy, none⟩) 1 cy, .slice none 0 0, .bool false] w fun e w' => ∃ v', e = .returned v' ∧ NewN w w' v' (Vb BB X 0 n) := by
 have b1 : (((1 : Nat) : Int) == 0) = false := by simp
 have b2 : (((1 : Nat) : Int) == 1) = true := by simp
 have b3 : ((n : Int) == 0) = false := by simp; omega
 have hc := wy.cell 0 (by omega)
 rw [Nat.add_zero, hY] at hc
 have hcq : ∀ q, (w.drewN q).cell? ⟨gy, oy, none⟩ = some (.int .u64 ((1 : Nat) : Int)) := fun q => hc
 have hcx := hx.words.cell 0 hn0
 rw [Nat.add_zero] at hcx
 obtain ⟨x0, hx0⟩ : ∃ x0, Hid (X 0 = x0) := ⟨_, Lib.hid rfl⟩
 rw [hx0.out] at hcx hbig
 have hcxq : ∀ q, (w.drewN q).cell? ⟨g, o, none⟩ = some (.int .u64 (x0 : Int)) := fun q => hcx
 have S := fun q => nat_set_any _ n X (w.drewN q) (hx.fr ((Fr.refl NoS w).drewN q) (fun _ _ x => x)) hn
 have fin : ∀ (q : Nat) (w2 : World) (A : Option Addr) (c : Nat) (G : Nat → Nat), OwnW w2 (.slice A n c) n G → Fr NoS (w.drewN q) w2 → (∀ k, (Value.slice A n c).ownBlock = some k → (w.drewN q).heap.size ≤ k) → (∀ j, j < n → G j = X j) → NewN w w2 (.slice A n c) (Vb BB X 0 n) :=
  fun q w2 A c G ho hf hk hG => ⟨((Fr.refl NoS w).drewN q).trans' hf, ⟨n, G, ho, tx.congr hG, V_same hG⟩, hk⟩
 have FIN := Lib.hid fin
 clear fin
 by_cases h1 : n = 1
 ·subst h1
  have b4 : ((x0 : Int) == 1) = false := by have := hbig rfl; simp; omega
  clear hbig hx tx
  go_enter_defers Tryz.func139, Tryz.ntmps139
  go_wp2_with fail
  refine (alias_none none 0 _ w).mono ?_
  rintro e w1 ⟨q1, rfl, rfl⟩
  go_wp2_with fail
  refine (alias_none none 0 _ _).mono ?_
  rintro e w1 ⟨q2, rfl, rfl⟩
  rw [World.drewN_drewN]
  go_wp2_with fail
  refine (S _).mono ?_
  rintro e w2 ⟨A, c, G, rfl, ho, hf, hk, hG⟩
  have HG := Lib.hid hG
  clear hG
  go_wp2
  exact bodyPostD_ret (results_tmp (t := 12) rfl _ _ _) rfl ⟨_, rfl, FIN.out _ _ _ _ _ ho hf hk HG.out⟩
 ·have b4 : ((n : Int) == 1) = false := by simp; omega
  clear hbig hx tx h1
  go_enter_defers Tryz.func139, Tryz.ntmps139
  go_wp2_with fail
  refine (alias_none none 0 _ w).mono ?_
  rintro e w1 ⟨q1, rfl, rfl⟩
  go_wp2_with fail
  refine (alias_none none 0 _ _).mono ?_
  rintro e w1 ⟨q2, rfl, rfl⟩
  rw [World.drewN_drewN]
  go_wp2_with fail
  refine (S _).mono ?_
  rintro e w2 ⟨A, c, G, rfl, ho, hf, hk, hG⟩
  have HG := Lib.hid hG
  clear hG
  go_wp2
  exact bodyPostD_ret (results_tmp (t := 12) rfl _ _ _) rfl ⟨_, rfl, FIN.out _ _ _ _ _ ho hf hk HG.out⟩
end Go.Proofs.YtilmldfbmmcchaaGreatDoor
