/- The product of two natural numbers. Conditions: the slices lie in memory; the shorter one has fewer than 40 words; the threshold's variable holds 40. -/
import Derived.Test.YtkholmbfeghhpaaGreatDoorBasic
import Derived.LaidEqlPtr
namespace Go.Proofs.YtkholmbfeghhpaaGreatDoor
open Go.RowKit

/-- Two slices share memory only as wholes. -/
def Near (v vx : Value) : Prop := ∀ g o l c l' c', vx = .slice (some ⟨g, o, none⟩) l c → v = .slice (some ⟨g, 0, none⟩) l' c' → o = 0 ∧ c = c'

theorem eql_ptr (a b : Addr) (w : World) (ca cb : Array Value) (ta tb : TypeId) (ha : w.heap[a.block]? = some (.cells ca ta (0, 0))) (hb : w.heap[b.block]? = some (.cells cb tb (0, 0))) (T te : TypeId) (hT : Tryz.prog.underlying T = some (.pointer te)) (hte : (Tryz.prog.info? te).map (fun i => (i.size == 0)) = some false) :
    (binOp .eql T (.pointer (some a)) (.pointer (some b))).run Tryz.prog w = .ok (.bool (decide (a = b))) w := by
  obtain ⟨j, hj, hs⟩ := Option.map_eq_some_iff.1 hte
  by_cases e : a = b
  · subst e; rw [run_eql_ptr_same w a hT hj]; simp
  · rw [run_eql_ptr_other w hT hj (by simpa using hs) e ha hb]; simp [e]

set_option maxRecDepth 100000 in
set_option maxHeartbeats 2000000 in
theorem alias_two (g o n c g' n' c' : Nat) (w : World) (ca cb : Array Value) (ta tb : TypeId) (hga : w.heap[g']? = some (.cells ca ta (0, 0))) (hgb : w.heap[g]? = some (.cells cb tb (0, 0))) (hc : 0 < c) (hc' : 0 < c') (hcl : c ≤ 1000000000) (hcl' : c' ≤ 1000000000) (ho : g = g' → o = 0 ∧ c = c') :
    Calls Tryz.prog 159 #[.slice (some ⟨g', 0, none⟩) n' c', .slice (some ⟨g, o, none⟩) n c] w fun e w' =>
      ∃ q, e = .returned (.bool (decide (g = g'))) ∧ w' = w.drewN q := by
  have HO := Lib.hid ho
  clear ho
  have b1 : decide ((0 : Int) < (c' : Int)) = true := by simp; exact hc'
  have b2 : decide ((0 : Int) < (c : Int)) = true := by simp; exact hc
  have q1 : IntKind.i64.wrap ((c' : Int) - 1) = (c' : Int) - 1 := IntWalk.i64_in _ (by omega)
  have q2 : IntKind.i64.wrap ((c : Int) - 1) = (c : Int) - 1 := IntWalk.i64_in _ (by omega)
  have q3 : (0 : Int) ≤ (c' : Int) - 1 := by omega
  have q4 : (0 : Int) ≤ (c : Int) - 1 := by omega
  have q5 : (c' : Int) - 1 < c' := by omega
  have q6 : (c : Int) - 1 < c := by omega
  have q7 : ((c' : Int) - 1).toNat = c' - 1 := by omega
  have q8 : ((c : Int) - 1).toNat = c - 1 := by omega
  have hE : ∀ nq, (binOp .eql 226 (.pointer (some ⟨g', c' - 1, none⟩)) (.pointer (some ⟨g, o + (c - 1), none⟩))).run Tryz.prog (w.drewN nq) = .ok (.bool (decide ((⟨g', c' - 1, none⟩ : Addr) = ⟨g, o + (c - 1), none⟩))) (w.drewN nq) :=
    fun nq => eql_ptr _ _ _ ca cb ta tb hga hgb _ _ Tryz.underlying226 (by kernel_rfl)
  have hfin : decide ((⟨g', c' - 1, none⟩ : Addr) = ⟨g, o + (c - 1), none⟩) = decide (g = g') := by
    by_cases e : g = g'
    · obtain ⟨rfl, rfl⟩ := HO.out e
      subst e; simp
    · have : ¬ ((⟨g', c' - 1, none⟩ : Addr) = ⟨g, o + (c - 1), none⟩) := fun h => e (congrArg Addr.block h).symm
      simp only [this, e]
  rw [hfin] at hE
  clear hfin
  go_enter Tryz.func159, Tryz.ntmps159
  go_wp2
  go_quiet (fail)
  go_wp2
  go_ret
  exact ⟨_, rfl, rfl⟩

set_option maxRecDepth 100000 in
set_option maxHeartbeats 2000000 in
theorem alias_none (a : Option Addr) (n' : Nat) (vx : Value) (w : World) :
    Calls Tryz.prog 159 #[.slice a n' 0, vx] w fun e w' =>
      ∃ q, e = .returned (.bool false) ∧ w' = w.drewN q := by
  have b1 : decide ((0 : Int) < ((0 : Nat) : Int)) = false := by simp
  go_enter Tryz.func159, Tryz.ntmps159
  go_wp2
  go_quiet (fail)
  go_wp2
  go_ret
  exact ⟨_, rfl, rfl⟩

/-- Whether z may not be written while x is still to be read. -/
theorem alias_any (v vx : Value) (m n : Nat) (F X : Nat → Nat) (w : World) (h : OwnW w v m F) (hx : RdW w vx n X) (hn : 0 < n) (near : Near v vx) :
    Calls Tryz.prog 159 #[v, vx] w fun e w' =>
      ∃ b : Bool, e = .returned (.bool b) ∧ Fr NoS w w' ∧ (b = false → ∀ k, v.ownBlock = some k → vx.ownBlock ≠ some k) := by
  rcases hx with ⟨rfl, rfl⟩ | ⟨g, o, c, cs, rfl, h1, h2, h3, hc, hr⟩
  · omega
  rw [LL_eq] at h2
  rcases h with ⟨rfl, rfl⟩ | ⟨g', c', rfl, hmc, hb⟩
  · exact (alias_none none 0 _ w).mono fun e w' ⟨q, he, hw⟩ => ⟨false, he, hw ▸ (Fr.refl _ _).drewN q, fun _ k hk => by simp [Value.ownBlock] at hk⟩
  · have hnear := near g o n c m c' rfl
    have hroom := hb.room
    rw [LL_eq] at hroom
    obtain ⟨cs', hc', _⟩ := hb.row
    rcases Nat.eq_zero_or_pos c' with h0 | h0
    · subst h0
      refine (alias_none _ m _ w).mono fun e w' ⟨q, he, hw⟩ => ⟨false, he, hw ▸ (Fr.refl _ _).drewN q, fun _ k hk => ?_⟩
      simp only [Value.ownBlock, Option.some.injEq] at hk ⊢
      subst hk
      intro e
      injection e with e
      subst e
      have := hnear rfl
      omega
    · refine (alias_two g o n c g' m c' w cs' cs _ _ hc' hc (by omega) h0 h2 hroom (fun e => by subst e; exact hnear rfl)).mono fun e w' ⟨q, he, hw⟩ => ⟨_, he, hw ▸ (Fr.refl _ _).drewN q, fun hf k hk => ?_⟩
      simp only [Value.ownBlock, Option.some.injEq] at hk ⊢
      subst hk
      intro e
      injection e with e
      simp at hf
      exact hf e

theorem Own.near {K : IntKind} {T : TypeId} {w : World} {v vx : Value} {m n : Nat} {F X : Nat → Nat} (h : Own K T w v m F) (hx : Own K T w vx n X) : Near v vx := by
  intro g o l c l' c' e e'
  rcases hx with ⟨rfl, _⟩ | ⟨g1, c1, rfl, h1, hb1⟩
  · cases e
  rcases h with ⟨rfl, _⟩ | ⟨g2, c2, rfl, h2, hb2⟩
  · cases e'
  simp only [Value.slice.injEq, Option.some.injEq, Addr.mk.injEq] at e e'
  obtain ⟨⟨rfl, rfl, _⟩, _, rfl⟩ := e
  obtain ⟨⟨rfl, _⟩, _, rfl⟩ := e'
  exact ⟨rfl, (hb1.same hb2).1⟩
theorem Near.of_ne {v vx : Value} (h : ∀ k, v.ownBlock = some k → vx.ownBlock ≠ some k) : Near v vx := by
  intro g o l c l' c' e e'
  subst e; subst e'
  exact absurd rfl (h g rfl)
theorem Near.nil (vx : Value) : Near (.slice none 0 0) vx := by intro g o l c l' c' e e'; cases e'

set_option maxRecDepth 100000 in
set_option maxHeartbeats 2000000 in
theorem nat_mul_zero (v stk : Value) (Ax Ay : Option Addr) (l n cx cy : Nat) (F : Nat → Nat) (w : World) (h : OwnW w v l F) :
    Calls Tryz.prog 151 #[v, stk, .slice Ax n cx, .slice Ay 0 cy] w fun e w' => ∃ v' : Value, e = .returned v' ∧ MadeNat w w' v v' 0 F := by
  have hlt : decide ((n : Int) < ((0 : Nat) : Int)) = false := by simp
  have hm0 : (((0 : Nat) : Int) == 0) = true := by simp
  by_cases hn0 : n = 0
  · have hb0 : ((n : Int) == 0) = true := by simp; exact hn0
    clear hn0
    rcases h with ⟨rfl, rfl⟩ | ⟨g, c, rfl, hmc, hb⟩
    · go_enter_defers Tryz.func151, Tryz.ntmps151
      go_wp2
      exact bodyPostD_ret (results_tmp (t := 8) rfl _ _ _) rfl ⟨_, rfl, .inl ⟨rfl, rfl⟩, Fr.refl _ _, fun k hk => .inl hk⟩
    · go_enter_defers Tryz.func151, Tryz.ntmps151
      go_wp2
      exact bodyPostD_ret (results_tmp (t := 8) rfl _ _ _) rfl ⟨_, rfl, .inr ⟨g, c, rfl, Nat.zero_le _, hb⟩, Fr.refl _ _, fun k hk => .inl hk⟩
  · have hb0 : ((n : Int) == 0) = false := by simp; exact hn0
    clear hn0
    rcases h with ⟨rfl, rfl⟩ | ⟨g, c, rfl, hmc, hb⟩
    · go_enter_defers Tryz.func151, Tryz.ntmps151
      go_wp2
      exact bodyPostD_ret (results_tmp (t := 8) rfl _ _ _) rfl ⟨_, rfl, .inl ⟨rfl, rfl⟩, Fr.refl _ _, fun k hk => .inl hk⟩
    · go_enter_defers Tryz.func151, Tryz.ntmps151
      go_wp2
      exact bodyPostD_ret (results_tmp (t := 8) rfl _ _ _) rfl ⟨_, rfl, .inr ⟨g, c, rfl, Nat.zero_le _, hb⟩, Fr.refl _ _, fun k hk => .inl hk⟩

set_option maxRecDepth 100000 in
set_option maxHeartbeats 2000000 in
theorem nat_mul_one (v vx stk : Value) (gy oy l n cy : Nat) (F X Y : Nat → Nat) (w : World) (h : OwnW w v l F) (hx : RdW w vx n X) (wy : Words w gy oy 1 Y) (hn0 : 0 < n) (hn : n ≤ 900000000) (nx : Near v vx) :
    Calls Tryz.prog 151 #[v, stk, vx, .slice (some ⟨gy, oy, none⟩) 1 cy] w fun e w' =>
      ∃ (v' : Value) (n' : Nat) (G : Nat → Nat), e = .returned v' ∧ MadeNat w w' v v' n' G ∧ n' ≤ n + 1 ∧ Top G n' ∧ Vb BB G 0 n' = Vb BB X 0 n * Y 0 := by
  have hx0 := hx
  obtain ⟨Ax, cx, ex, hxc, hxc2⟩ := hx.shape
  subst ex
  have hlt : decide ((n : Int) < ((1 : Nat) : Int)) = false := by simp; omega
  have hy00 := wy.cell 0 (by omega)
  have hyw := wy.word 0 (by omega)
  obtain ⟨y0, hyy⟩ : ∃ y0, Hid (y0 = Y 0) := ⟨_, rfl⟩
  rw [← hyy.out] at hy00 hyw
  rw [Nat.add_zero] at hy00
  have hb1 : (((1 : Nat) : Int) == 1) = true := by simp
  have hm0 : (((1 : Nat) : Int) == 0) = false := by simp
  have hb0 : ((n : Int) == 0) = false := by simp; omega
  have NX := Lib.hid nx
  clear nx
  go_enter_defers Tryz.func151, Tryz.ntmps151
  go_wp2_with fail
  refine (nat_mulAddWW v _ l n y0 0 0 F X w h hx0 (by omega) (fun g o l' c e hg => ?_) hyw rfl BB_pos).mono ?_
  · rcases h with ⟨rfl, _⟩ | ⟨g1, c1, rfl, _, _⟩
    · simp [Value.ownBlock] at hg
    · simp [Value.ownBlock] at hg
      subst hg
      exact (NX.out g1 o l' c l c1 e rfl).1
  · rintro e w1 ⟨v', n', G, rfl, hm1, hn1, ht1, hv1⟩
    have HV := Lib.hid hv1
    clear hv1
    go_wp2
    exact bodyPostD_ret (results_tmp (t := 8) rfl _ _ _) rfl ⟨v', n', G, rfl, hm1, hn1, ht1, by rw [← hyy.out]; exact HV.out⟩

theorem mul_fin {w w1 w2 w3 : World} {v vz v4 : Value} {g2 n c2 n4 : Nat} {G2 G3 : Nat → Nat} (h1 : Fr NoS w w1) (hm2 : MadeNat w1 w2 vz (.slice (some ⟨g2, 0, none⟩) n c2) n G2) (hf2 : Fr NoS w1 w2) (hf3 : Fr (· = g2) w2 w3)
    (ho : OwnW w3 v4 n4 G3) (hb : v4.ownBlock = (Value.slice (some ⟨g2, 0, none⟩) n c2).ownBlock) (hz : vz.ownBlock = none ∨ vz = v) : MadeNat w w3 v v4 n4 G3 := by
  refine ⟨ho, ((h1.trans' hf2).mono (fun _ _ x => x.elim)).trans hf3 ?_, ?_⟩
  · rintro i hi rfl
    rcases hm2.at_ i rfl with e | e
    · rcases hz with hz | hz
      · rw [hz] at e; cases e
      · rw [← hz]; exact e
    · exact absurd (Nat.lt_of_lt_of_le hi h1.size) (by omega)
  · intro k hk
    rw [hb] at hk
    rcases hm2.at_ k hk with e | e
    · rcases hz with hz | hz
      · rw [hz] at e; cases e
      · rw [← hz]; exact .inl e
    · exact .inr (Nat.le_trans h1.size e)

end Go.Proofs.YtkholmbfeghhpaaGreatDoor
