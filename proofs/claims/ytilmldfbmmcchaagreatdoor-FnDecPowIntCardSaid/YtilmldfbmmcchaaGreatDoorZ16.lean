/- The decimal text of a number of any length: the digits that impl.digits writes. A whole number read from its decimal text: impl.whole. Conditions: each theorem bears its own. -/
import Derived.Lib.EndianBits
import Derived.Test.YtilmldfbmmcchaaGreatDoorZ15
import Derived.Test.YtilmldfbmmcchaaGreatDoorZ8
set_option linter.unusedVariables false
set_option linter.unusedSimpArgs false
namespace Go.Proofs.YtilmldfbmmcchaaGreatDoor
open Go.RowKit
abbrev T64 : TypeId := 82
abbrev T8 : TypeId := 5
def HB : Nat := 4294967296
theorem HB_eq : HB = 4294967296 := rfl
theorem HB_sq (k : Nat) : HB ^ (2 * k) = BB ^ k := by rw [Nat.pow_mul]; rfl
theorem info64 : (Tryz.prog.info? T64).map (fun i => (i.zero, i.size, i.bytes)) = some (some (.int .u64 0), 1, 8) := by kernel_rfl
theorem info8' : (Tryz.prog.info? T8).map (fun i => (i.zero, i.size, i.bytes)) = some (some (.int .u8 0), 1, 1) := by kernel_rfl
theorem wpList_pushs {P : Program} {ops : Array Oper} {rest : List Oper} {o : Oper} {a : Act} {w : World} {Q : Exit → Act → World → Prop} {K : IntKind} {T : TypeId} {F : Nat → Nat} {z : Value} {bytes : Nat} (hgd : o.guard = none) (s x : Operand) (t : TypeId)
  (ho : o.op = .call { callee := .builtin .append, args := #[s, x], argTypes := #[t, t] }) (ht : P.underlying t = some (.slice T)) (hi : (P.info? T).map (fun i => (i.zero, i.size, i.bytes)) = some (some z, 1, bytes)) (hzs : z.cells.size = 1) (hb : bytes ≤ 8)
  (v : Value) (n : Nat) (ys : List Nat) (hs : a.eval s = v) (hown : Row K T w v n F) (g0 m c : Nat) (hx : a.eval x = .slice (some ⟨g0, 0, none⟩) m c) (hm : ys.length = m) (hm0 : 0 < m) (hml : m ≤ 1000) (hy : ∀ j, j < m → w.cell? ⟨g0, j, none⟩ = some (.int K (ys.getD j 0 : Nat))) (hn : n ≤ 1000000000)
  (h : ∀ (g c' : Nat) (w' : World), Row K T w' (.slice (some ⟨g, 0, none⟩) (n + m) c') (n + m) (fun j => if j < n then F j else ys.getD (j - n) 0) → Fr (fun k => v.ownBlock = some k) w w' → (v.ownBlock = some g ∨ w.heap.size ≤ g) → wpList P ops Q rest (a.put o.dst (.slice (some ⟨g, 0, none⟩) (n + m) c')) w') : wpList P ops Q (o :: rest) a w := by
 obtain ⟨i, hi, hzz⟩ := Option.map_eq_some_iff.1 hi
 simp only [Prod.mk.injEq] at hzz
 obtain ⟨hz, hsz, hby⟩ := hzz
 refine wpList_append_lies w hgd s x t ho 0 T i z 1 bytes ht hi hz hsz hby hzs (by omega) v n _ hs hown.owns ⟨g0, 0, none⟩ m c (ys.map fun y => .int K (y : Nat)) hx (by rw [List.length_map, hm, Nat.mul_one]) ?_ ?_ hm0 ?_ ?_ (Nat.zero_le _) _ rfl ?_
 ·intro j u hj
  have hjm : j < m := by
   have := (List.getElem?_eq_some_iff.1 hj).1
   rw [List.length_map, hm] at this; exact this
  rw [List.getElem?_map] at hj
  have e : Addr.add ⟨g0, 0, none⟩ j = ⟨g0, j, none⟩ := by rcases j with _ | j <;> simp [Addr.add]
  rw [e, hy j hjm, ← hj, List.getD_eq_getElem?_getD]
  rw [List.getElem?_eq_getElem (by omega)]
  rfl
 ·intro u hu
  obtain ⟨y, _, rfl⟩ := List.mem_map.1 hu
  rfl
 ·unfold maxLen; omega
 ·have : (n + m) * bytes ≤ (n + m) * 8 := Nat.mul_le_mul_left _ hb
  omega
 ·intro g c' w' h1 h2 h3 h4
  refine h g c' w' (Row.of_owns h1 fun j hj => ?_) (Fr.of_grown h2) (h3.imp id fun e => by omega)
  by_cases e : j < n
  ·rw [List.getElem?_append_left (by simp; omega), if_pos e]
   simp [List.getElem?_range e]
  ·rw [List.getElem?_append_right (by simp; omega), if_neg e, List.length_map, List.length_range, List.getElem?_map, List.getD_eq_getElem?_getD, List.getElem?_eq_getElem (by omega)]
   rfl
theorem two_cells (w : World) (K : IntKind) (T : TypeId) (c0 c1 : Int) (a b : Nat) (h0 : c0 = a) (h1 : c1 = b) : ∀ j, j < 2 → (w.alloc (.cells #[.int K c0, .int K c1] T (0, 0))).cell? ⟨w.heap.size, j, none⟩ = some (.int K ([a, b].getD j 0 : Nat)) := by
 intro j hj
 subst h0; subst h1
 refine cell_of_heap (heap_alloc_new w _) ?_
 rcases j with _ | _ | j
 ·rfl
 ·rfl
 ·omega
theorem one_cell (w : World) (K : IntKind) (T : TypeId) (c0 : Int) (a : Nat) (h0 : c0 = a) : ∀ j, j < 1 → (w.alloc (.cells #[.int K c0] T (0, 0))).cell? ⟨w.heap.size, j, none⟩ = some (.int K ([a].getD j 0 : Nat)) := by
 intro j hj
 subst h0
 refine cell_of_heap (heap_alloc_new w _) ?_
 obtain rfl : j = 0 := by omega
 rfl
set_option maxHeartbeats 1000000 in
theorem big_Bits (p n : Nat) (s : Bool) (v : Value) (F : Nat → Nat) (w : World) (h : IntRd w p s v n F) :
  Calls Tryz.prog 57 #[.pointer (some ⟨p, 0, none⟩)] w fun e w' => e = .returned v ∧ w = w' := by
 have c1 := h.c1
 obtain ⟨A, c, rfl, h1, h2⟩ := h.rd.shape
 go_enter Tryz.func57, Tryz.ntmps57
 go_wp2
 go_ret
 exact ⟨rfl, rfl⟩
theorem half_step {F G : Nat → Nat} {k x : Nat} (h : Vb HB G 0 (2 * k) = Vb BB F 0 k) (hx : x = F k) :
  Vb HB (fun j => if j < 2 * k then G j else [x % 4294967296, x / 4294967296].getD (j - 2 * k) 0) 0 (2 * (k + 1)) = Vb BB F 0 (k + 1) := by
 rw [show 2 * (k + 1) = 2 * k + 1 + 1 by omega, V_succ, V_succ, V_succ]
 rw [V_congr (F := fun j => if j < 2 * k then G j else [x % 4294967296, x / 4294967296].getD (j - 2 * k) 0) (G := G) (o' := 0) (fun j hj => by simp only [Nat.zero_add]; rw [if_pos hj]), h]
 simp only [Nat.zero_add, Nat.lt_irrefl, if_false]
 rw [if_neg (by omega), Nat.sub_self, show 2 * k + 1 - 2 * k = 1 by omega, Nat.pow_succ, HB_sq]
 simp only [List.getD_cons_zero, List.getD_cons_succ]
 rw [← hx, Nat.mul_assoc, Nat.add_assoc, ← Nat.mul_add]
 congr 2
 rw [HB_eq]; omega
theorem div_step {G : Nat → Nat} {b i r x y m V C : Nat} (h : Vb b G 0 (i + 1) + b ^ (i + 1) * (r + C * Vb b G (i + 1) (m - (i + 1))) = V) (hx : x = G i) (hy : y = r * b + x) (hi : i < m) :
  Vb b (upd G i (y / C)) 0 i + b ^ i * (y % C + C * Vb b (upd G i (y / C)) i (m - i)) = V := by
 rw [V_congr (F := upd G i (y / C)) (G := G) (o' := 0) (n := i) (fun j hj => upd_other _ _ _ _ (by omega)), show m - i = 1 + (m - (i + 1)) by omega, V_add, V_one, upd_same,
  V_congr (F := upd G i (y / C)) (G := G) (o := i + 1) (o' := i + 1) (fun j hj => upd_other _ _ _ _ (by omega))]
 rw [V_succ, Nat.zero_add, ← hx, Nat.pow_succ, Nat.mul_assoc] at h
 generalize Vb b G (i + 1) (m - (i + 1)) = R at h ⊢
 have e : y % C + C * (y / C + b ^ 1 * R) = x + b * (r + C * R) := by
  have := Nat.mod_add_div y C
  rw [Nat.pow_one]
  grind
 rw [e, ← h]
 grind
theorem Row.store {K : IntKind} {T : TypeId} {w : World} {g n c : Nat} {F : Nat → Nat} (h : Row K T w (.slice (some ⟨g, 0, none⟩) n c) n F) (i x : Nat) : Row K T (w.setCell ⟨g, i, none⟩ (.int K (x : Nat))) (.slice (some ⟨g, 0, none⟩) n c) n (upd F i x) := by
 rcases h with ⟨e, _⟩ | ⟨g', c', cs, e, h1, h2, hc, hs, hr⟩
 ·cases e
 ·simp only [Value.slice.injEq, Option.some.injEq, Addr.mk.injEq] at e
  obtain ⟨⟨rfl, _⟩, _, rfl⟩ := e
  refine .inr ⟨g, c, cs.setIfInBounds i (.int K (x : Nat)), rfl, h1, h2, ?_, by simp [hs], fun j hj => ?_⟩
  ·simp [World.setCell, Array.getElem?_modify, hc]
  ·rw [Array.getElem?_setIfInBounds]
   by_cases e : i = j
   ·subst e; rw [if_pos rfl, if_pos (by omega), upd_same]
   ·rw [if_neg e, hr j hj, upd_other _ _ _ _ (fun x => e x.symm)]
theorem Row.cap {K : IntKind} {T : TypeId} {w : World} {A : Option Addr} {n c : Nat} {F : Nat → Nat} (h : Row K T w (.slice A n c) n F) : n ≤ c ∧ c ≤ 9223372036854775807 := by
 rcases h with ⟨e, rfl⟩ | ⟨g, c', cs, e, h1, h2, _⟩
 ·simp at e; omega
 ·simp only [Value.slice.injEq] at e
  obtain ⟨_, _, rfl⟩ := e
  exact ⟨h1, h2⟩
theorem Row.less {K : IntKind} {T : TypeId} {w : World} {g n c m : Nat} {F : Nat → Nat} (h : Row K T w (.slice (some ⟨g, 0, none⟩) n c) n F) (hm : m ≤ n) : Row K T w (.slice (some ⟨g, 0, none⟩) m c) m F := by
 rcases h with ⟨e, _⟩ | ⟨g', c', cs, e, h1, h2, hc, hs, hr⟩
 ·cases e
 ·cases e
  exact .inr ⟨g, c, cs, rfl, by omega, h2, hc, hs, fun j hj => hr j (by omega)⟩
def slLen (v : Value) : Nat := match v with | .slice _ n _ => n | _ => 0
theorem getD_app (L : List Nat) (x : Nat) (j : Nat) (hj : j < L.length + 1) : (if j < L.length then L.getD j 0 else [x].getD (j - L.length) 0) = (L ++ [x]).getD j 0 := by
 rw [List.getD_eq_getElem?_getD, List.getD_eq_getElem?_getD (l := L ++ [x])]
 by_cases h : j < L.length
 ·rw [if_pos h, List.getElem?_append_left h]
 ·rw [if_neg h, List.getElem?_append_right (by omega)]; simp [List.getD_eq_getElem?_getD]
theorem Row.ne_types {K K' : IntKind} {T T' : TypeId} {w : World} {v v' : Value} {n n' : Nat} {F F' : Nat → Nat} (h : Row K T w v n F) (h' : Row K' T' w v' n' F') (ht : T ≠ T') {k : Nat} (hk : v.ownBlock = some k) : v'.ownBlock ≠ some k := by
 intro hk'
 rcases h with ⟨rfl, _⟩ | ⟨g, c, cs, rfl, _, _, hc, _⟩
 ·simp [Value.ownBlock] at hk
 rcases h' with ⟨rfl, _⟩ | ⟨g', c', cs', rfl, _, _, hc', _⟩
 ·simp [Value.ownBlock] at hk'
 simp only [Value.ownBlock, Option.some.injEq] at hk hk'
 subst hk; subst hk'
 rw [hc] at hc'
 injection hc' with e
 injection e with e1 e2
 exact ht e2
theorem Row.shape' {K : IntKind} {T : TypeId} {w : World} {v : Value} {n : Nat} {F : Nat → Nat} (h : Row K T w v n F) : ∃ A c, v = .slice A n c := by
 rcases h with ⟨rfl, rfl⟩ | ⟨g, c, cs, rfl, _⟩
 ·exact ⟨_, _, rfl⟩
 ·exact ⟨_, _, rfl⟩
theorem Row.form {K : IntKind} {T : TypeId} {w : World} {v : Value} {n : Nat} {F : Nat → Nat} (h : Row K T w v n F) (hn : 0 < n) : ∃ g c, v = .slice (some ⟨g, 0, none⟩) n c := by
 rcases h with ⟨_, h0⟩ | ⟨g, c, cs, rfl, _⟩
 ·omega
 ·exact ⟨g, c, rfl⟩
set_option maxRecDepth 100000 in
set_option maxHeartbeats 4000000 in
theorem im_digits (p : Nat) (z : Int) (w : World) (h : RI w p z) (hs : Sm z) :
  Calls Tryz.prog 37 #[.pointer (some ⟨p, 0, none⟩)] w fun e w' => e = .returned (.string (tz z)) ∧ Fr NoS w w' := by
 have hRI := h
 obtain ⟨s, v, n, F, hr, hv⟩ := h
 have hn39 : n ≤ 39 := hr.len (m := 39) (by rw [hv]; exact hs)
 have BT := big_Bits p n s v F w hr
 obtain ⟨A, cv, ev, hcv1, hcv2⟩ := hr.rd.shape
 subst ev
 have HR := Lib.hid hr
 have HV := Lib.hid hv
 have hdl : Hid ((dg z.natAbs).length ≤ 760) := dg_length_le _ _ (Nat.lt_trans hs (by decide +kernel))
 clear hr hv
 go_enter Tryz.func37, Tryz.ntmps37
 go_wp2_with fail
 refine BT.mono ?_
 rintro en w1 ⟨rfl, rfl⟩
 go_wp2_with fail
 go_loopw [3, 15] (fun v i wr => ∃ (k : Nat) (G : Nat → Nat), k ≤ n ∧ i = .int .i64 k ∧ Row .u64 T64 wr v (2 * k) G ∧ Hid (Vb HB G 0 (2 * k) = Vb BB F 0 k) ∧ Hid (∀ j, j < 2 * k → G j < HB) ∧ Fr NoS w wr ∧ Hid (∀ k, v.ownBlock = some k → w.heap.size ≤ k))
  (fun _ i _ => n - (intOf i).toNat)
 case atStart => exact ⟨0, fun _ => 0, Nat.zero_le _, rfl, Row.nil _ _ _ _, rfl, fun j hj => by omega, Fr.refl _ _, fun k hk => by simp [Value.ownBlock] at hk⟩
 case round =>
  obtain ⟨k, G, hk, rfl, hR, hG, hGl, hfr, hown⟩ := hrel
  rcases Nat.lt_or_ge k n with hlt | hge
  ·have d1 : decide (k < n) = true := decide_eq_true hlt
   have d1' : decide ((k : Int) < (n : Int)) = true := decide_eq_true (by omega)
   obtain ⟨x, hx, hxl, hcell⟩ : ∃ x : Nat, Hid (x = F k) ∧ x < 18446744073709551616 ∧ ∀ g o, A = some ⟨g, o, none⟩ → wr.cell? ⟨g, o + k, none⟩ = some (.int .u64 x) := by
    refine ⟨F k, rfl, HR.out.rd.word hlt, ?_⟩
    rintro g o rfl
    exact ((HR.out.rd.words).fr hfr (fun x => x)).cell k hlt
   obtain ⟨g, o, rfl⟩ : ∃ g o, A = some ⟨g, o, none⟩ := by
    rcases HR.out.rd with ⟨e, h0⟩ | ⟨g, o, c, cs, e, _⟩
    ·omega
    ·cases e; exact ⟨g, o, rfl⟩
   have hc := hcell g o rfl
   clear hcell
   have a1 := MulW.maskN x hxl
   have hRa : ∀ o, Row .u64 T64 (wr.alloc o) u3 (2 * k) G := fun o => hR.fr ((Fr.refl NoS wr).alloc o) (fun _ _ x => x)
   go_wp2_with (at_builtin; (refine wpList_pushs (K := .u64) (T := T64) rfl (.tmp 19) (.tmp 24) 91 rfl Tryz.underlying91 info64 rfl (by omega) u3 (2 * k) [x % 4294967296, x / 4294967296] rfl (hRa _) wr.heap.size 2 2 rfl rfl (by omega) (by omega) (two_cells wr _ _ _ _ _ _ (by omega) (by omega)) (by omega) ?_; intro g' c' w' hR' hf' hat'))
   have hsz := hfr.size
   go_roundw
   case rel =>
    refine ⟨k + 1, _, by omega, by go_num, hR', half_step hG.out hx.out, fun j hj => ?_, (hfr.trans' ((Fr.refl NoS wr).alloc _)).trans hf' (fun i hi e => ?_), fun i hi => ?_⟩
    ·show (if j < 2 * k then G j else [x % 4294967296, x / 4294967296].getD (j - 2 * k) 0) < HB
     split
     ·exact hGl.out j ‹_›
     ·rw [HB_eq]
      rcases (show j - 2 * k = 0 ∨ j - 2 * k = 1 by omega) with e | e <;> rw [e] <;> simp <;> omega
    ·have := hown.out i e; omega
    ·simp only [Value.ownBlock, Option.some.injEq] at hi
     subst hi
     rcases hat' with e | e
     ·exact hown.out _ e
     ·rw [World.size_alloc] at e; omega
   case measure => simp [intOf]; omega
  ·obtain rfl : k = n := by omega
   have d1 : decide (k < k) = false := by simp
   obtain ⟨V0, hV0⟩ : ∃ V0 : Nat, Hid (Vb HB G 0 (2 * k) = V0) := ⟨_, rfl⟩
   have hV0z : Hid (V0 = z.natAbs) := by show _ = _; rw [← hV0.out, hG.out, ← HV.out, sgn_natAbs]
   obtain ⟨m0, hm0⟩ : ∃ m : Nat, m = 2 * k := ⟨_, rfl⟩
   rw [← hm0] at hR hV0 hGl
   have hm78 : m0 ≤ 78 := by omega
   have hm0V : Hid (m0 = 0 ∨ 0 < V0) := by
    rcases Nat.eq_zero_or_pos m0 with h | h
    ·exact .inl h
    ·refine .inr ?_
     have h1 := HR.out.top.pos.2 (show 0 < k by omega)
     have h2 := hV0.out
     rw [hm0, hG.out] at h2
     omega
   clear hm0 hG
   go_wp2_with fail
   go_loopg [3, 6] V0 (fun V vl vb wr => ∃ (m : Nat) (G : Nat → Nat) (L : List Nat), m ≤ 78 ∧ Row .u64 T64 wr vl m G ∧ Hid (∀ j, j < m → G j < HB) ∧ Hid (Vb HB G 0 m = V) ∧ Hid (m = 0 ∨ 0 < V) ∧ Row .u8 T8 wr vb L.length (fun j => L.getD j 0) ∧ Hid (dg z.natAbs = L ++ dg V) ∧ Fr NoS w wr ∧ Hid (∀ k, vl.ownBlock = some k → w.heap.size ≤ k) ∧ Hid (∀ k, vb.ownBlock = some k → w.heap.size ≤ k))
   case atStart => exact ⟨m0, G, [], hm78, hR, hGl, hV0, hm0V, Row.nil _ _ _ _, by rw [← hV0z.out]; rfl, hfr, hown, fun k hk => by simp [Value.ownBlock] at hk⟩
   case round =>
    clear hR hGl hV0 hm0V hfr hown hV0z
    obtain ⟨m, G, L, hm, hR, hGl, hV, hmV, hB, hL, hfr, hol, hob⟩ := hrel
    rcases Nat.eq_zero_or_pos m with h0 | h0
    ·have d1 : decide (0 < m) = false := decide_eq_false (by omega)
     have d1' : decide ((0 : Int) < (m : Int)) = false := decide_eq_false (by omega)
     obtain rfl : m = 0 := h0
     obtain ⟨A3, c3, rfl⟩ := hR.shape'
     have hgk : gk = 0 := by rw [← hV.out]; rfl
     have hLz : Hid (L = dg z.natAbs) := by show _ = _; rw [hL.out, hgk, dg_zero, List.append_nil]
     have hLl : L.length ≤ 760 := by rw [hLz.out]; exact hdl.out
     by_cases hz : z = 0
     ·have e0 : L = [] := by rw [hLz.out, hz]; exact dg_zero
      subst e0
      obtain ⟨A6, c6, rfl⟩ := hB.shape'
      have d2 : (((([] : List Nat).length : Nat) : Int) == 0) = true := by simp
      have d3 : (((0 : Nat) : Int) == 0) = true := by simp
      go_wp2
      go_ret
      exact ⟨congrArg (fun s => Ending.returned (.string s)) (show (⟨#[48]⟩ : ByteArray) = tz 0 from rfl), hfr⟩
     ·have hLp : 0 < L.length := by
       rw [hLz.out, dg_pos (by omega)]; simp
      obtain ⟨gv, cv', rfl⟩ := hB.form hLp
      have hgv := hob.out gv rfl
      have d2 : (((L.length : Nat) : Int) == 0) = false := by rw [beq_eq_false_iff_ne]; omega
      have SG := z_Sign p z wr (hRI.fr hfr)
      obtain ⟨N, hNL⟩ : ∃ N, Hid (N = L.length) := ⟨_, Lib.hid rfl⟩
      rw [← hNL.out] at hB d2 hLp hLl ⊢
      clear hL hV hmV hgk hR hGl hol d1 d1'
      rcases Int.lt_or_gt_of_ne hz with hneg | hpos
      ·rw [Int.sign_eq_neg_one_of_neg hneg] at SG
       have hlz : Hid (lz z = L ++ [45]) := by show _ = _; rw [lz, if_neg hz, if_pos hneg, hLz.out]
       have hRa : ∀ o, Row .u8 T8 (wr.alloc o) (.slice (some ⟨gv, 0, none⟩) N cv') N (fun j => L.getD j 0) := fun o => hB.fr ((Fr.refl NoS wr).alloc o) (fun _ _ x => x)
       go_wp2_with fail
       refine SG.mono ?_
       rintro en w1 ⟨rfl, rfl⟩
       go_wp2_with (at_builtin; (refine wpList_pushs (K := .u8) (T := T8) rfl (.tmp 96) (.tmp 97) 65 rfl Tryz.underlying65 info8' rfl (by omega) (.slice (some ⟨gv, 0, none⟩) N cv') N [45] rfl (hRa _) wr.heap.size 1 1 rfl rfl (by omega) (by omega) (one_cell wr _ _ _ _ rfl) (by omega) ?_; intro gw cw ww hR' hf' hat'))
       have hfv : Fr NoS w ww := (hfr.trans' ((Fr.refl NoS wr).alloc _)).trans hf' (fun k hk e => by
        simp only [Value.ownBlock, Option.some.injEq] at e; omega)
       have hgw : w.heap.size ≤ gw := by
        rcases hat' with e | e
        ·simp only [Value.ownBlock, Option.some.injEq] at e; omega
        ·rw [World.size_alloc] at e; have := hfr.size; omega
       have hRv : Row .u8 T8 ww (.slice (some ⟨gw, 0, none⟩) (N + 1) cw) (N + 1) (fun j => (lz z).getD j 0) := by
        refine hR'.congr fun j hj => ?_
        rw [hlz.out]
        have := getD_app L 45 j (by have := hNL.out; omega)
        rw [← hNL.out] at this
        exact this
       clear hB hRa hR' hf' hat' SG hgv
       obtain ⟨gv, hgvv⟩ : ∃ g, g = gw := ⟨_, rfl⟩
       subst hgvv
       obtain ⟨cv', hcvv⟩ : ∃ c, c = cw := ⟨_, rfl⟩
       subst hcvv
       have hgv := hgw
       obtain ⟨N', hNN⟩ : ∃ N', Hid (N' = N + 1) := ⟨_, Lib.hid rfl⟩
       have hNi : (N : Int) + 1 = (N' : Int) := by have := hNN.out; omega
       rw [← hNN.out] at hRv ⊢
       have hN : Hid (N' = (lz z).length) := (by show _ = _; rw [hNN.out, hlz.out, List.length_append, hNL.out]; rfl)
       go_wp2_with fail
       go_loopw [10, 11] (fun x y wr => ∃ (a b : Nat) (G : Nat → Nat), x = .int .i64 a ∧ y = .int .i64 b ∧ a + b + 1 = N' ∧ Row .u8 T8 wr (.slice (some ⟨gv, 0, none⟩) N' cv') N' G ∧ Fr NoS w wr ∧ Hid (∀ j, j < N' → G j = if j < a ∨ b < j then (lz z).getD (N' - 1 - j) 0 else (lz z).getD j 0))
        (fun x _ _ => N' - (intOf x).toNat)
       case atStart => exact ⟨0, N' - 1, _, rfl, by go_num, by omega, hRv, hfv, fun j hj => by rw [if_neg (by omega)]⟩
       case round =>
        clear hRv hfv
        obtain ⟨a, b, G, rfl, rfl, hab, hR, hfr, hG⟩ := hrel
        rcases Nat.lt_or_ge a b with hl | hl
        ·have d1 : decide (a < b) = true := decide_eq_true hl
         have ca := hR.cell (j := a) (by omega)
         have cb := hR.cell (j := b) (by omega)
         rw [Nat.zero_add] at ca cb
         have fa := hR.free a
         have fb := hR.free b
         obtain ⟨p1, hp1⟩ : ∃ p, Hid (p = G a) := ⟨_, Lib.hid rfl⟩
         obtain ⟨q1, hq1⟩ : ∃ q, Hid (q = G b) := ⟨_, Lib.hid rfl⟩
         rw [← hp1.out] at ca
         rw [← hq1.out] at cb
         have hne1 : a ≠ b := by omega
         have hne2 : b ≠ a := by omega
         have hall : a < N' := by omega
         have hbl : b < N' := by omega
         go_wp2
         go_region
         go_wp2
         go_roundw
         case rel =>
          have h1 := (hR.store a q1).store b p1
          have h2 := (hfr.setCell ⟨gv, a, none⟩ (.int .u8 q1) (.inl hgv)).setCell ⟨gv, b, none⟩ (.int .u8 p1) (.inl hgv)
          refine ⟨a + 1, b - 1, _, by go_num, by go_num, by omega, h1.of_eq fun _ _ => rfl, h2.drew, fun j hj => ?_⟩
          have ga := hG.out a hall
          have gb := hG.out b hbl
          rw [if_neg (by omega)] at ga gb
          have e1 : N' - 1 - b = a := by omega
          have e2 : N' - 1 - a = b := by omega
          by_cases eb : j = b
          ·subst eb
           rw [upd_same, if_pos (by omega), e1, hp1.out, ga]
          ·rw [upd_other _ _ _ _ eb]
           by_cases ea : j = a
           ·subst ea
            rw [upd_same, if_pos (by omega), e2, hq1.out, gb]
           ·rw [upd_other _ _ _ _ ea, hG.out j hj]
            by_cases hc : j < a ∨ b < j
            ·rw [if_pos hc, if_pos (by omega)]
            ·rw [if_neg hc, if_neg (by omega)]
         case measure => simp [intOf]; omega
        ·have d1 : decide (a < b) = false := decide_eq_false (by omega)
         have cvt := run_convert_bytes_arg (P := Tryz.prog) wr 65 T8 Tryz.underlying65 Tryz.underlying5 gv 0 N' cv' ((List.range N').map fun j => (G j : Int)) (by simp) (fun i hi => by
          rw [hR.cell hi]; simp [List.getD, List.getElem?_range hi]) 9 Tryz.underlying9
         have hfin : Hid (strOfNums ((List.range N').map fun j => (G j : Int)) = tz z) := by
          show _ = _
          unfold tz
          congr 1
          apply List.ext_getElem
          ·simp only [List.length_map, List.length_range, List.length_reverse]; exact hN.out
          ·intro j h1 h2
           simp only [List.length_map, List.length_range] at h1
           simp only [List.getElem_map, List.getElem_range, List.getElem_reverse]
           rw [hG.out j h1]
           have hjl : (lz z).length - 1 - j < (lz z).length := by have := hN.out; omega
           have e : (if j < a ∨ b < j then (lz z).getD (N' - 1 - j) 0 else (lz z).getD j 0) = (lz z)[(lz z).length - 1 - j] := by
            rw [show (lz z)[(lz z).length - 1 - j] = (lz z).getD ((lz z).length - 1 - j) 0 by rw [List.getD_eq_getElem?_getD, List.getElem?_eq_getElem hjl]; rfl]
            split
            ·rw [hN.out]
            ·congr 1
             have := hN.out; omega
           rw [e]
           rfl
         go_wp2
         go_ret
         exact ⟨by rw [hfin.out]; rfl, hfr⟩
      ·rw [Int.sign_eq_one_of_pos hpos] at SG
       have hlz : Hid (lz z = L) := by show _ = _; rw [lz, if_neg hz, if_neg (by omega), hLz.out, List.append_nil]
       have hRv : Row .u8 T8 wr (.slice (some ⟨gv, 0, none⟩) N cv') N (fun j => (lz z).getD j 0) := by rw [hlz.out]; exact hB
       have hfv := hfr
       go_wp2_with fail
       refine SG.mono ?_
       rintro en w1 ⟨rfl, rfl⟩
       have hN : Hid (N = (lz z).length) := (by show _ = _; rw [hlz.out]; exact hNL.out)
       go_wp2_with fail
       go_loopw [10, 11] (fun x y wr => ∃ (a b : Nat) (G : Nat → Nat), x = .int .i64 a ∧ y = .int .i64 b ∧ a + b + 1 = N ∧ Row .u8 T8 wr (.slice (some ⟨gv, 0, none⟩) N cv') N G ∧ Fr NoS w wr ∧ Hid (∀ j, j < N → G j = if j < a ∨ b < j then (lz z).getD (N - 1 - j) 0 else (lz z).getD j 0))
        (fun x _ _ => N - (intOf x).toNat)
       case atStart => exact ⟨0, N - 1, _, rfl, by go_num, by omega, hRv, hfv, fun j hj => by rw [if_neg (by omega)]⟩
       case round =>
        clear hRv hfv
        obtain ⟨a, b, G, rfl, rfl, hab, hR, hfr, hG⟩ := hrel
        rcases Nat.lt_or_ge a b with hl | hl
        ·have d1 : decide (a < b) = true := decide_eq_true hl
         have ca := hR.cell (j := a) (by omega)
         have cb := hR.cell (j := b) (by omega)
         rw [Nat.zero_add] at ca cb
         have fa := hR.free a
         have fb := hR.free b
         obtain ⟨p1, hp1⟩ : ∃ p, Hid (p = G a) := ⟨_, Lib.hid rfl⟩
         obtain ⟨q1, hq1⟩ : ∃ q, Hid (q = G b) := ⟨_, Lib.hid rfl⟩
         rw [← hp1.out] at ca
         rw [← hq1.out] at cb
         have hne1 : a ≠ b := by omega
         have hne2 : b ≠ a := by omega
         have hall : a < N := by omega
         have hbl : b < N := by omega
         go_wp2
         go_region
         go_wp2
         go_roundw
         case rel =>
          have h1 := (hR.store a q1).store b p1
          have h2 := (hfr.setCell ⟨gv, a, none⟩ (.int .u8 q1) (.inl hgv)).setCell ⟨gv, b, none⟩ (.int .u8 p1) (.inl hgv)
          refine ⟨a + 1, b - 1, _, by go_num, by go_num, by omega, h1.of_eq fun _ _ => rfl, h2.drew, fun j hj => ?_⟩
          have ga := hG.out a hall
          have gb := hG.out b hbl
          rw [if_neg (by omega)] at ga gb
          have e1 : N - 1 - b = a := by omega
          have e2 : N - 1 - a = b := by omega
          by_cases eb : j = b
          ·subst eb
           rw [upd_same, if_pos (by omega), e1, hp1.out, ga]
          ·rw [upd_other _ _ _ _ eb]
           by_cases ea : j = a
           ·subst ea
            rw [upd_same, if_pos (by omega), e2, hq1.out, gb]
           ·rw [upd_other _ _ _ _ ea, hG.out j hj]
            by_cases hc : j < a ∨ b < j
            ·rw [if_pos hc, if_pos (by omega)]
            ·rw [if_neg hc, if_neg (by omega)]
         case measure => simp [intOf]; omega
        ·have d1 : decide (a < b) = false := decide_eq_false (by omega)
         have cvt := run_convert_bytes_arg (P := Tryz.prog) wr 65 T8 Tryz.underlying65 Tryz.underlying5 gv 0 N cv' ((List.range N).map fun j => (G j : Int)) (by simp) (fun i hi => by
          rw [hR.cell hi]; simp [List.getD, List.getElem?_range hi]) 9 Tryz.underlying9
         have hfin : Hid (strOfNums ((List.range N).map fun j => (G j : Int)) = tz z) := by
          show _ = _
          unfold tz
          congr 1
          apply List.ext_getElem
          ·simp only [List.length_map, List.length_range, List.length_reverse]; exact hN.out
          ·intro j h1 h2
           simp only [List.length_map, List.length_range] at h1
           simp only [List.getElem_map, List.getElem_range, List.getElem_reverse]
           rw [hG.out j h1]
           have hjl : (lz z).length - 1 - j < (lz z).length := by have := hN.out; omega
           have e : (if j < a ∨ b < j then (lz z).getD (N - 1 - j) 0 else (lz z).getD j 0) = (lz z)[(lz z).length - 1 - j] := by
            rw [show (lz z)[(lz z).length - 1 - j] = (lz z).getD ((lz z).length - 1 - j) 0 by rw [List.getD_eq_getElem?_getD, List.getElem?_eq_getElem hjl]; rfl]
            split
            ·rw [hN.out]
            ·congr 1
             have := hN.out; omega
           rw [e]
           rfl
         go_wp2
         go_ret
         exact ⟨by rw [hfin.out]; rfl, hfr⟩
    ·have d1 : decide (0 < m) = true := decide_eq_true h0
     obtain ⟨gl, cl, rfl⟩ := hR.form h0
     have hgl : w.heap.size ≤ gl := hol.out gl rfl
     have hne : Hid (∀ k, u6.ownBlock = some k → k ≠ gl) := fun k hk e => hB.ne_types hR (by decide) hk (by rw [e]; rfl)
     have w1m : IntKind.i64.wrap ((m : Int) - 1) = (m : Int) - 1 := IntWalk.i64_in _ (by omega)
     go_wp2_with fail
     go_loopw [7, 8] (fun vn vk wr => ∃ (i r : Nat) (G' : Nat → Nat), i ≤ m ∧ vk = .int .i64 ((i : Int) - 1) ∧ vn = .int .u64 r ∧ r < 1000000000 ∧ Row .u64 T64 wr (.slice (some ⟨gl, 0, none⟩) m cl) m G' ∧ Hid (∀ j, j < m → G' j < HB) ∧ Hid (Vb HB G' 0 i + HB ^ i * (r + 1000000000 * Vb HB G' i (m - i)) = gk) ∧ Row .u8 T8 wr u6 L.length (fun j => L.getD j 0) ∧ Fr NoS w wr)
      (fun _ vk _ => (intOf vk + 1).toNat)
     case atStart => exact ⟨m, 0, G, Nat.le_refl _, rfl, rfl, by omega, hR, hGl, by rw [Nat.sub_self, V_zero]; simpa using hV, hB, hfr⟩
     case round =>
      clear hR hGl hV hB hfr
      obtain ⟨i, r, G', hi, rfl, rfl, hr, hR, hGl, hV, hB, hfr⟩ := hrel
      rcases Nat.eq_zero_or_pos i with hi0 | hi0
      ·subst hi0
       have e1 : decide ((0 : Int) ≤ ((0 : Nat) : Int) - 1) = false := by simp
       have e1' : decide (1 ≤ ((0 : Nat) : Int)) = false := by simp
       obtain ⟨V', hV'⟩ : ∃ V', Hid (Vb HB G' 0 m = V') := ⟨_, Lib.hid rfl⟩
       have hdiv : Hid (r + 1000000000 * V' = gk) := by
        have h1 := hV.out
        rw [V_zero, Nat.pow_zero, Nat.one_mul, Nat.zero_add, Nat.sub_zero, hV'.out] at h1
        exact h1
       have hcap := hR.cap
       clear hV
       go_wp2_with fail
       go_loop [3] (fun v => ∃ mm : Nat, mm ≤ m ∧ v = .slice (some ⟨gl, 0, none⟩) mm cl ∧ Hid (Vb HB G' 0 mm = V')) (fun v => slLen v)
       case atStart => exact ⟨m, Nat.le_refl _, rfl, hV'⟩
       case round =>
        obtain ⟨mm, hmm, rfl, hVm⟩ := hrel
        have hcc : (mm : Int) ≤ cl := by omega
        by_cases htr : 0 < mm ∧ G' (mm - 1) = 0
        ·obtain ⟨q, rfl⟩ : ∃ q, mm = q + 1 := ⟨mm - 1, by omega⟩
         have hq0 : G' q = 0 := htr.2
         have cq := hR.cell (j := q) (by omega)
         rw [Nat.zero_add, hq0] at cq
         have hVq : Hid (Vb HB G' 0 q = V') := by have := hVm.out; rw [V_succ, Nat.zero_add, hq0, Nat.mul_zero, Nat.add_zero] at this; exact this
         have hqm : q + 1 ≤ m := hmm
         clear htr hq0
         go_wp2
         go_round
         case rel => exact ⟨q, by omega, by simp, hVq⟩
         case measure => simp [slLen]
        ·have htop : Hid (mm = 0 ∨ 0 < V') := by
          rcases Nat.eq_zero_or_pos mm with h | h
          ·exact .inl h
          ·refine .inr ?_
           obtain ⟨q, rfl⟩ : ∃ q, mm = q + 1 := ⟨mm - 1, by omega⟩
           have h2 : 0 < G' q := by
            rcases Nat.eq_zero_or_pos (G' q) with h3 | h3
            ·exact absurd ⟨h, h3⟩ htr
            ·exact h3
           have h3 := hVm.out
           rw [V_succ, Nat.zero_add] at h3
           have : 0 < HB ^ q * G' q := Nat.mul_pos (Nat.pow_pos (by decide)) h2
           omega
         have HT := Lib.hid htr
         clear htr
         have mid : True := trivial
         rcases Nat.eq_zero_or_pos mm with h | h
         ·subst h
          have t1 : decide (0 < ((0 : Nat) : Int)) = false := by simp
          have hRm : Row .u64 T64 wr (.slice (some ⟨gl, 0, none⟩) 0 cl) 0 G' := hR.less (by omega)
          have hL0 : Hid (dg z.natAbs = L ++ rst 9 r V') := by
           show _ = _
           rw [rst_start 9 r V' (by omega), show (10 : Nat) ^ 9 = 1000000000 from rfl, hdiv.out]
           exact hL.out
          go_wp2_with fail
          go_loopw [6, 7, 9] (fun vb vn vi wr => ∃ (i r : Nat) (L' : List Nat), i ≤ 9 ∧ vi = .int .i64 i ∧ vn = .int .u64 r ∧ Hid (r < 10 ^ (9 - i)) ∧ r < 1000000000 ∧ Row .u8 T8 wr vb L'.length (fun j => L'.getD j 0) ∧ Hid (dg z.natAbs = L' ++ rst (9 - i) r V') ∧ Row .u64 T64 wr (.slice (some ⟨gl, 0, none⟩) 0 cl) 0 G' ∧ Fr NoS w wr ∧ Hid (∀ k, vb.ownBlock = some k → w.heap.size ≤ k))
           (fun _ _ vi _ => 9 - (intOf vi).toNat)
          case atStart => exact ⟨0, r, L, by omega, rfl, rfl, hr, hr, hB, hL0, hRm, hfr, hob⟩
          case round =>
           clear hRm hL0 hB hfr hob hr hL hR hne
           have hdiv := hdiv
           obtain ⟨i, r, L', hi, rfl, rfl, hrp, hr, hB, hL, hRl, hfr, hob⟩ := hrel
           have hLl : L'.length ≤ 1000 := by
            have h1 := congrArg List.length hL.out
            rw [List.length_append] at h1
            have h2 := hdl.out
            omega
           rcases Nat.lt_or_ge i 9 with hi9 | hi9
           ·have d1 : decide (i < 9) = true := decide_eq_true hi9
            have d2 : decide ((i : Int) < 9) = true := decide_eq_true (by omega)
            rcases Nat.eq_zero_or_pos r with hr0 | hr0
            ·have d3 : ((r : Int) != 0) = false := (by rw [hr0]; rfl)
             have d4 : decide (0 < ((0 : Nat) : Int)) = false := by simp
             have hVz : rst (9 - i) r V' = rst (9 - i) 0 0 := by rw [hr0, show V' = 0 from hVm.out.symm]
             have HVz := Lib.hid hVz
             clear hVz
             go_wp2
             go_roundg V'
             case measure => have := hdiv.out; have := hmV.out; omega
             case rel =>
              refine ⟨0, G', L', by omega, hRl, fun j hj => hGl.out j (by omega), hVm, .inl rfl, hB, ?_, hfr, fun k hk => by simp only [Value.ownBlock, Option.some.injEq] at hk; omega, hob⟩
              show dg z.natAbs = _
              rw [hL.out, HVz.out, rst_none, show V' = 0 from hVm.out.symm]
            ·have d3 : ((r : Int) != 0) = true := bne_iff_ne.2 (by omega)
             have hRa : ∀ o, Row .u8 T8 (wr.alloc o) u6 L'.length (fun j => L'.getD j 0) := fun o => hB.fr ((Fr.refl NoS wr).alloc o) (fun _ _ x => x)
             go_wp2_with (at_builtin; (refine wpList_pushs (K := .u8) (T := T8) rfl (.tmp 81) (.tmp 86) 65 rfl Tryz.underlying65 info8' rfl (by omega) u6 L'.length [48 + r % 10] rfl (hRa _) wr.heap.size 1 1 rfl rfl (by omega) (by omega) (one_cell wr _ _ _ _ (by omega)) (by omega) ?_; intro g' c' w' hR' hf' hat'))
             have hsz := hfr.size
             go_roundw
             case rel =>
              refine ⟨i + 1, r / 10, L' ++ [48 + r % 10], by omega, by go_num, int_eq (by omega), ?_, by omega, ?_, ?_, ?_, (hfr.trans' ((Fr.refl NoS wr).alloc _)).trans hf' (fun k hk e => ?_), fun k hk => ?_⟩
              ·show r / 10 < 10 ^ (9 - (i + 1))
               have := hrp.out
               rw [show 9 - i = 9 - (i + 1) + 1 by omega, Nat.pow_succ] at this
               omega
              ·have e : (L' ++ [48 + r % 10]).length = L'.length + 1 := by rw [List.length_append]; rfl
               rw [e]
               exact hR'.congr fun j hj => getD_app L' _ j hj
              ·show dg z.natAbs = _
               rw [hL.out, show 9 - i = 9 - (i + 1) + 1 by omega, rst_step _ _ _ (by exact .inl (by omega)), List.append_assoc]
               rfl
              ·refine (hRl.fr ((Fr.refl NoS wr).alloc _) (fun _ _ x => x)).fr hf' (fun k hk e => ?_)
               exact hB.ne_types hRl (by decide) e hk
              ·have := hob.out k e; omega
              ·simp only [Value.ownBlock, Option.some.injEq] at hk
               subst hk
               rcases hat' with e | e
               ·exact hob.out _ e
               ·rw [World.size_alloc] at e; omega
             case measure => simp [intOf]; omega
           ·obtain rfl : i = 9 := by omega
            have d1 : decide (9 < 9) = false := by simp
            go_wp2
            go_roundg V'
            case measure => have := hdiv.out; have := hmV.out; omega
            case rel =>
             refine ⟨0, G', L', by omega, hRl, fun j hj => hGl.out j (by omega), hVm, .inl rfl, hB, ?_, hfr, fun k hk => by simp only [Value.ownBlock, Option.some.injEq] at hk; omega, hob⟩
             show dg z.natAbs = _
             rw [hL.out, show r = 0 by have := hrp.out; rw [Nat.sub_self] at this; omega, Nat.sub_self, rst_end]
         ·obtain ⟨q, rfl⟩ : ∃ q, mm = q + 1 := ⟨mm - 1, by omega⟩
          have cq := hR.cell (j := q) (by omega)
          rw [Nat.zero_add] at cq
          have hqne : ((G' q : Int) == 0) = false := by
           simp only [beq_eq_false_iff_ne, ne_eq]
           intro e
           exact HT.out ⟨h, by simpa using e⟩
          have hqm : q + 1 ≤ m := hmm
          have hRm : Row .u64 T64 wr (.slice (some ⟨gl, 0, none⟩) (q + 1) cl) (q + 1) G' := hR.less (by omega)
          have hL0 : Hid (dg z.natAbs = L ++ rst 9 r V') := by
           show _ = _
           rw [rst_start 9 r V' (by omega), show (10 : Nat) ^ 9 = 1000000000 from rfl, hdiv.out]
           exact hL.out
          go_wp2_with fail
          go_loopw [6, 7, 9] (fun vb vn vi wr => ∃ (i r : Nat) (L' : List Nat), i ≤ 9 ∧ vi = .int .i64 i ∧ vn = .int .u64 r ∧ Hid (r < 10 ^ (9 - i)) ∧ r < 1000000000 ∧ Row .u8 T8 wr vb L'.length (fun j => L'.getD j 0) ∧ Hid (dg z.natAbs = L' ++ rst (9 - i) r V') ∧ Row .u64 T64 wr (.slice (some ⟨gl, 0, none⟩) (q + 1) cl) (q + 1) G' ∧ Fr NoS w wr ∧ Hid (∀ k, vb.ownBlock = some k → w.heap.size ≤ k))
           (fun _ _ vi _ => 9 - (intOf vi).toNat)
          case atStart => exact ⟨0, r, L, by omega, rfl, rfl, hr, hr, hB, hL0, hRm, hfr, hob⟩
          case round =>
           clear hRm hL0 hB hfr hob hr hL hR hne
           have hdiv := hdiv
           obtain ⟨i, r, L', hi, rfl, rfl, hrp, hr, hB, hL, hRl, hfr, hob⟩ := hrel
           have hLl : L'.length ≤ 1000 := by
            have h1 := congrArg List.length hL.out
            rw [List.length_append] at h1
            have h2 := hdl.out
            omega
           rcases Nat.lt_or_ge i 9 with hi9 | hi9
           ·have d1 : decide (i < 9) = true := decide_eq_true hi9
            have d2 : decide ((i : Int) < 9) = true := decide_eq_true (by omega)
            rcases Nat.eq_zero_or_pos r with hr0 | hr0
            ·have d3 : ((r : Int) != 0) = false := (by rw [hr0]; rfl)
             have d4 : decide (0 < ((q + 1 : Nat) : Int)) = true := decide_eq_true (by omega)
             have hRa : ∀ o, Row .u8 T8 (wr.alloc o) u6 L'.length (fun j => L'.getD j 0) := fun o => hB.fr ((Fr.refl NoS wr).alloc o) (fun _ _ x => x)
             go_wp2_with (at_builtin; (refine wpList_pushs (K := .u8) (T := T8) rfl (.tmp 81) (.tmp 86) 65 rfl Tryz.underlying65 info8' rfl (by omega) u6 L'.length [48 + r % 10] rfl (hRa _) wr.heap.size 1 1 rfl rfl (by omega) (by omega) (one_cell wr _ _ _ _ (by omega)) (by omega) ?_; intro g' c' w' hR' hf' hat'))
             have hsz := hfr.size
             go_roundw
             case rel =>
              refine ⟨i + 1, r / 10, L' ++ [48 + r % 10], by omega, by go_num, int_eq (by omega), ?_, by omega, ?_, ?_, ?_, (hfr.trans' ((Fr.refl NoS wr).alloc _)).trans hf' (fun k hk e => ?_), fun k hk => ?_⟩
              ·show r / 10 < 10 ^ (9 - (i + 1))
               have := hrp.out
               rw [show 9 - i = 9 - (i + 1) + 1 by omega, Nat.pow_succ] at this
               omega
              ·have e : (L' ++ [48 + r % 10]).length = L'.length + 1 := by rw [List.length_append]; rfl
               rw [e]
               exact hR'.congr fun j hj => getD_app L' _ j hj
              ·show dg z.natAbs = _
               rw [hL.out, show 9 - i = 9 - (i + 1) + 1 by omega, rst_step _ _ _ (by exact .inr (by have := htop.out; omega)), List.append_assoc]
               rfl
              ·refine (hRl.fr ((Fr.refl NoS wr).alloc _) (fun _ _ x => x)).fr hf' (fun k hk e => ?_)
               exact hB.ne_types hRl (by decide) e hk
              ·have := hob.out k e; omega
              ·simp only [Value.ownBlock, Option.some.injEq] at hk
               subst hk
               rcases hat' with e | e
               ·exact hob.out _ e
               ·rw [World.size_alloc] at e; omega
             case measure => simp [intOf]; omega
            ·have d3 : ((r : Int) != 0) = true := bne_iff_ne.2 (by omega)
             have hRa : ∀ o, Row .u8 T8 (wr.alloc o) u6 L'.length (fun j => L'.getD j 0) := fun o => hB.fr ((Fr.refl NoS wr).alloc o) (fun _ _ x => x)
             go_wp2_with (at_builtin; (refine wpList_pushs (K := .u8) (T := T8) rfl (.tmp 81) (.tmp 86) 65 rfl Tryz.underlying65 info8' rfl (by omega) u6 L'.length [48 + r % 10] rfl (hRa _) wr.heap.size 1 1 rfl rfl (by omega) (by omega) (one_cell wr _ _ _ _ (by omega)) (by omega) ?_; intro g' c' w' hR' hf' hat'))
             have hsz := hfr.size
             go_roundw
             case rel =>
              refine ⟨i + 1, r / 10, L' ++ [48 + r % 10], by omega, by go_num, int_eq (by omega), ?_, by omega, ?_, ?_, ?_, (hfr.trans' ((Fr.refl NoS wr).alloc _)).trans hf' (fun k hk e => ?_), fun k hk => ?_⟩
              ·show r / 10 < 10 ^ (9 - (i + 1))
               have := hrp.out
               rw [show 9 - i = 9 - (i + 1) + 1 by omega, Nat.pow_succ] at this
               omega
              ·have e : (L' ++ [48 + r % 10]).length = L'.length + 1 := by rw [List.length_append]; rfl
               rw [e]
               exact hR'.congr fun j hj => getD_app L' _ j hj
              ·show dg z.natAbs = _
               rw [hL.out, show 9 - i = 9 - (i + 1) + 1 by omega, rst_step _ _ _ (by exact .inl (by omega)), List.append_assoc]
               rfl
              ·refine (hRl.fr ((Fr.refl NoS wr).alloc _) (fun _ _ x => x)).fr hf' (fun k hk e => ?_)
               exact hB.ne_types hRl (by decide) e hk
              ·have := hob.out k e; omega
              ·simp only [Value.ownBlock, Option.some.injEq] at hk
               subst hk
               rcases hat' with e | e
               ·exact hob.out _ e
               ·rw [World.size_alloc] at e; omega
             case measure => simp [intOf]; omega
           ·obtain rfl : i = 9 := by omega
            have d1 : decide (9 < 9) = false := by simp
            go_wp2
            go_roundg V'
            case measure => have := hdiv.out; have := hmV.out; omega
            case rel =>
             refine ⟨(q + 1), G', L', by omega, hRl, fun j hj => hGl.out j (by omega), hVm, htop, hB, ?_, hfr, fun k hk => by simp only [Value.ownBlock, Option.some.injEq] at hk; omega, hob⟩
             show dg z.natAbs = _
             rw [hL.out, show r = 0 by have := hrp.out; rw [Nat.sub_self] at this; omega, Nat.sub_self, rst_end]
      ·obtain ⟨i, rfl⟩ : ∃ i', i = i' + 1 := ⟨i - 1, by omega⟩
       have e0 : ((i + 1 : Nat) : Int) - 1 = (i : Int) := by omega
       rw [e0]
       have e1 : decide ((0 : Int) ≤ (i : Int)) = true := by simp
       have cx := hR.cell (j := i) (by omega)
       rw [Nat.zero_add] at cx
       have fx := hR.free i
       obtain ⟨x, hx⟩ : ∃ x, Hid (x = G' i) := ⟨_, Lib.hid rfl⟩
       have hxl : x < 4294967296 := by rw [hx.out]; exact hGl.out i (by omega)
       rw [← hx.out] at cx
       have him : i < m := by omega
       obtain ⟨y, hy⟩ : ∃ y, Hid (y = r * HB + x) := ⟨_, Lib.hid rfl⟩
       have hyl : y < 4294967296000000000 := by have := hy.out; rw [HB_eq] at this; omega
       have orx : bits .or .u64 ((r : Int) * 4294967296) (x : Int) = (y : Int) := by
        rw [bits_join .u64 64 (by decide) wraps_u64 32 ((r : Int) * 4294967296) x (by omega) (by omega) (by omega) (by omega) (by omega) (by omega), hy.out, HB_eq]
        omega
       go_wp2
       go_roundw
       case rel =>
        refine ⟨i, y % 1000000000, upd G' i (y / 1000000000), by omega, rfl, int_eq (by omega), by omega, ?_, fun j hj => ?_, div_step hV.out hx.out hy.out him, ?_, hfr.setCell _ _ (.inl hgl)⟩
        ·have := hR.store i (y / 1000000000)
         rwa [show ((y / 1000000000 : Nat) : Int) = (y : Int) / 1000000000 by omega] at this
        ·rw [HB_eq]
         unfold upd; split
         ·omega
         ·have := hGl.out j hj; rwa [HB_eq] at this
        ·exact hB.fr (Fr.set wr gl i _) hne.out
       case measure => simp [intOf]
end Go.Proofs.YtilmldfbmmcchaaGreatDoor
namespace Go.Proofs.YtilmldfbmmcchaaGreatDoor
open Go.RowKit Go.Proofs.YtilmldfbmmcchaaGreatDoorW.PrintWords
structure DText (t : ByteArray) (D n : Nat) : Prop where
 size : t.size = D
 byte : ∀ i, i < D → bt t i = ((48 + n / 10 ^ (D - 1 - i) % 10 : Nat) : Int)
 lt : n < 10 ^ D
 first : n ≠ 0 → bt t 0 ≠ 48
 one : n = 0 → D = 1
 pos : 0 < D
theorem ext_one (s : ByteArray) (i : Nat) (hi : i + 1 < s.size) : bt (s.extract 1 s.size) i = bt s ((i + 1 : Nat) : Int) := by
 have h1 : (i : Int).toNat < (s.extract 1 s.size).size := by simp; omega
 have h2 : ((i + 1 : Nat) : Int).toNat < s.size := by simpa using hi
 rw [bt, dif_pos h1, bt, dif_pos h2, ByteArray.getElem_extract]
 congr 3
 simp; omega
theorem dtext_pos (z : Int) (h : 0 ≤ z) : DText (tz z) (lz z).length z.natAbs := by
 by_cases h0 : z = 0
 ·subst h0
  refine ⟨tz_size 0, fun i hi => ?_, by decide, fun h => absurd rfl h, fun _ => rfl, by decide⟩
  obtain rfl : i = 0 := by
   have : (lz 0).length = 1 := rfl
   omega
  rw [bt_tz 0 0 hi]; rfl
 ·have e : lz z = dg z.natAbs := by rw [lz, if_neg h0, if_neg (by omega), List.append_nil]
  have hne : z.natAbs ≠ 0 := by omega
  have hp : 0 < (dg z.natAbs).length := by rw [dg_pos hne]; simp
  have hb : ∀ i, i < (lz z).length → bt (tz z) i = ((48 + z.natAbs / 10 ^ ((lz z).length - 1 - i) % 10 : Nat) : Int) := by
   intro i hi
   rw [bt_tz z i hi, e]
   rw [e] at hi
   rw [dg_getD _ _ (by omega)]
  refine ⟨tz_size z, hb, by rw [e]; exact dg_lt _, fun _ => ?_, fun h => absurd h hne, by rw [e]; exact hp⟩
  have h1 := hb 0 (by rw [e]; exact hp)
  have h2 := dg_le _ hne
  have h3 := dg_lt z.natAbs
  rw [show ((0 : Nat) : Int) = 0 from rfl] at h1
  rw [h1, e, Nat.sub_zero]
  obtain ⟨k, hk⟩ : ∃ k, (dg z.natAbs).length = k + 1 := ⟨(dg z.natAbs).length - 1, by omega⟩
  rw [hk, Nat.add_sub_cancel] at h2 ⊢
  rw [hk, Nat.pow_succ] at h3
  have h4 : z.natAbs / 10 ^ k < 10 := (Nat.div_lt_iff_lt_mul (Nat.pow_pos (by omega))).2 (by rw [Nat.mul_comm]; exact h3)
  have h5 : 0 < z.natAbs / 10 ^ k := Nat.div_pos h2 (Nat.pow_pos (by omega))
  omega
theorem dtext_neg (z : Int) (h : z < 0) : bt (tz z) 0 = 45 ∧ 1 < (tz z).size ∧ DText ((tz z).extract 1 (tz z).size) (dg z.natAbs).length z.natAbs := by
 have e : lz z = dg z.natAbs ++ [45] := by rw [lz, if_neg (by omega), if_pos h]
 have hne : z.natAbs ≠ 0 := by omega
 have hp : 0 < (dg z.natAbs).length := by rw [dg_pos hne]; simp
 have hl : (lz z).length = (dg z.natAbs).length + 1 := by rw [e]; simp
 have hs := tz_size z
 have b0 : bt (tz z) 0 = 45 := by
  have := bt_tz z 0 (by omega)
  rw [show ((0 : Nat) : Int) = 0 from rfl] at this
  rw [this, hl, e]
  simp [List.getD_eq_getElem?_getD]
 have hb : ∀ i, i < (dg z.natAbs).length → bt ((tz z).extract 1 (tz z).size) i = ((48 + z.natAbs / 10 ^ ((dg z.natAbs).length - 1 - i) % 10 : Nat) : Int) := by
  intro i hi
  rw [ext_one _ _ (by omega), bt_tz z (i + 1) (by omega), hl, e, show (dg z.natAbs).length + 1 - 1 - (i + 1) = (dg z.natAbs).length - 1 - i by omega]
  rw [List.getD_eq_getElem?_getD, List.getElem?_append_left (by omega), ← List.getD_eq_getElem?_getD, dg_getD _ _ (by omega)]
 refine ⟨b0, by omega, by simp; omega, hb, dg_lt _, fun _ => ?_, fun h => absurd h hne, hp⟩
 have h1 := hb 0 hp
 have h2 := dg_le _ hne
 have h3 := dg_lt z.natAbs
 rw [show ((0 : Nat) : Int) = 0 from rfl] at h1
 rw [h1, Nat.sub_zero]
 obtain ⟨k, hk⟩ : ∃ k, (dg z.natAbs).length = k + 1 := ⟨(dg z.natAbs).length - 1, by omega⟩
 rw [hk, Nat.add_sub_cancel] at h2 ⊢
 rw [hk, Nat.pow_succ] at h3
 have h4 : z.natAbs / 10 ^ k < 10 := (Nat.div_lt_iff_lt_mul (Nat.pow_pos (by omega))).2 (by rw [Nat.mul_comm]; exact h3)
 have h5 : 0 < z.natAbs / 10 ^ k := Nat.div_pos h2 (Nat.pow_pos (by omega))
 omega
def hd (n D i : Nat) : Nat := n / 10 ^ (D - i)
theorem hd_zero {n D : Nat} (h : n < 10 ^ D) : hd n D 0 = 0 := Nat.div_eq_of_lt h
theorem hd_all (n D : Nat) : hd n D D = n := by unfold hd; simp
theorem hd_step {n D i : Nat} (hi : i < D) : hd n D (i + 1) = hd n D i * 10 + n / 10 ^ (D - 1 - i) % 10 := by
 unfold hd
 rw [show D - (i + 1) = D - 1 - i by omega, show D - i = D - 1 - i + 1 by omega, Nat.pow_succ, ← Nat.div_div_eq_div_mul]
 omega
theorem neq_self (p : Nat) (w : World) : (binOp .neq 46 (.pointer (some ⟨p, 0, none⟩)) (.pointer (some ⟨p, 0, none⟩))).run Tryz.prog w = .ok (.bool false) w := by
 have h : ∀ d : Nat, (Op.equalIn (d + 1) 46 (.pointer (some ⟨p, 0, none⟩)) (.pointer (some ⟨p, 0, none⟩))).run Tryz.prog w = .ok true w := fun d => by
  simp [Op.equalIn, run_underlying Tryz.underlying46, run_sameAddr_same]
 simp only [binOp]
 simp [Op.equal, Op.maxDepth, h 9999]
set_option maxHeartbeats 1000000 in
theorem z_SetSelf (p : Nat) (w : World) :
  Calls Tryz.prog 66 #[.pointer (some ⟨p, 0, none⟩), .pointer (some ⟨p, 0, none⟩)] w fun e w' => e = .returned (.pointer (some ⟨p, 0, none⟩)) ∧ w = w' := by
 have hN := neq_self p w
 go_enter Tryz.func66, Tryz.ntmps66
 go_wp2
 go_ret
 exact ⟨rfl, rfl⟩
set_option maxHeartbeats 2000000 in
theorem z_NegSelf (p : Nat) (z : Int) (w : World) (h : RI w p z) :
  Calls Tryz.prog 55 #[.pointer (some ⟨p, 0, none⟩), .pointer (some ⟨p, 0, none⟩)] w fun e w' => e = .returned (.pointer (some ⟨p, 0, none⟩)) ∧ RI w' p (-z) ∧ Fr (· = p) w w' := by
 obtain ⟨s, v, n, F, hr, rfl⟩ := h
 have S := z_SetSelf p w
 have c0 := hr.c0
 have c1 := hr.c1
 have f0 := hr.fz 0
 have hpos := hr.top.pos
 obtain ⟨A, c, rfl, h1, h2⟩ := hr.rd.shape
 have key : ∀ b : Bool, (b = true → 0 < n) → RI (w.setCell ⟨p, 0, none⟩ (.bool b)) p (sgn b (Vb BB F 0 n)) ∧ Fr (· = p) w (w.setCell ⟨p, 0, none⟩ (.bool b)) := by
  intro b hb
  have f := Fr.set w p 0 (.bool b)
  exact ⟨⟨b, _, n, F, ⟨int_set0 hr.blk b, hr.rd.fr f (fun k hk e => hr.rd.ne_int hr.blk (by rw [hk, e])), hr.top, hb⟩, rfl⟩, f⟩
 by_cases h0 : n = 0
 ·subst h0
  have hs : s = false := by
   cases s
   ·rfl
   ·exact absurd (hr.sign rfl) (by omega)
  subst hs
  have hb : decide ((0 : Int) < ((0 : Nat) : Int)) = false := by simp
  have K := Lib.hid (key false (fun e => by cases e))
  clear key hr
  go_enter Tryz.func55, Tryz.ntmps55
  go_wp2_with fail
  refine S.mono ?_
  rintro e w1 ⟨rfl, rfl⟩
  go_wp2
  go_ret
  refine ⟨rfl, ?_⟩
  have := K.out
  simpa [sgn, Vb] using this
 ·have hb : decide ((0 : Int) < (n : Int)) = true := decide_eq_true (by omega)
  have hbn : 0 < n := by omega
  have K := Lib.hid (key (!s) (fun _ => hbn))
  have HE := Lib.hid (show sgn (!s) (Vb BB F 0 n) = -(sgn s (Vb BB F 0 n)) by cases s <;> simp [sgn])
  clear key hr hpos h0
  go_enter Tryz.func55, Tryz.ntmps55
  go_wp2_with fail
  refine S.mono ?_
  rintro e w1 ⟨rfl, rfl⟩
  go_wp2
  go_ret
  refine ⟨rfl, ?_⟩
  have := K.out
  rwa [HE.out] at this
set_option maxHeartbeats 2000000 in
theorem big_SetBits (p n : Nat) (v : Value) (F : Nat → Nat) (w : World) (hz : Zr w p) (h : RdW w v n F) :
  Calls Tryz.prog 54 #[.pointer (some ⟨p, 0, none⟩), v] w fun e w' => e = .returned (.pointer (some ⟨p, 0, none⟩)) ∧ RI w' p (Vb BB F 0 n : Nat) ∧ Fr (· = p) w w' := by
 have N := nat_norm_rd v n F w h
 obtain ⟨A, c, rfl, _, _⟩ := h.shape
 have f0 : w.frozen? ⟨p, 0, none⟩ = false := by rw [Zr] at hz; simp [World.frozen?, hz]
 have f1 : w.frozen? ⟨p, 1, none⟩ = false := by rw [Zr] at hz; simp [World.frozen?, hz]
 have c0 : w.cell? ⟨p, 0, none⟩ = some (.bool false) := by rw [Zr] at hz; simp [World.cell?, hz]
 have c1 : w.cell? ⟨p, 1, none⟩ = some (.slice none 0 0) := by rw [Zr] at hz; simp [World.cell?, hz]
 go_enter Tryz.func54, Tryz.ntmps54
 go_wp2_with fail
 refine N.mono ?_
 rintro e w1 ⟨v', n', rfl, hr, hle, ht, hv, hob, rfl⟩
 obtain ⟨A', c', rfl, _, _⟩ := hr.shape
 have f : Fr (· = p) w ((w.setCell ⟨p, 1, none⟩ (.slice A' n' c')).setCell ⟨p, 0, none⟩ (.bool false)) := (Fr.set w p 1 _).trans' (Fr.set _ p 0 _)
 have fin : RI ((w.setCell ⟨p, 1, none⟩ (.slice A' n' c')).setCell ⟨p, 0, none⟩ (.bool false)) p (Vb BB F 0 n : Nat) := by
  refine ⟨false, .slice A' n' c', n', F, ⟨int_set0 (int_set hz _) false, hr.fr f (fun k hk e => hr.ne_int hz (by rw [hk, e])), ht, fun e => by cases e⟩, ?_⟩
  rw [hv]; rfl
 have FIN := Lib.hid (And.intro fin f)
 clear fin f hv hr hz h N hob
 go_wp2
 go_ret
 exact ⟨rfl, FIN.out⟩
end Go.Proofs.YtilmldfbmmcchaaGreatDoor
