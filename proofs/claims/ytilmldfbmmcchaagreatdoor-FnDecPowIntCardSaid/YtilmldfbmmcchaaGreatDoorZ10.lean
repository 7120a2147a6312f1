/- The product of two rows of words, by the school method. The product of two natural numbers. Whole numbers of any length in memory: a sign and a slice of words behind a pointer; the simple operations. The product of two natural numbers, joined. Whole numbers of any length: products. Whole numbers of any length: comparison. Whole numbers of any length: what lies in memory, said by the number alone. No conditions. Conditions: each theorem bears its own. -/
import Derived.BigRegion
import Derived.Deep.RegionWith
import Derived.LaidEqlPtr
import Derived.Test.YtilmldfbmmcchaaGreatDoorZ9
set_option linter.unusedVariables false
set_option linter.unusedSimpArgs false
namespace Go.Proofs.YtilmldfbmmcchaaGreatDoor
open Go.RowKit
theorem addMul_lt (x y c m : Nat) (hx : x < 18446744073709551616) (hy : y < 18446744073709551616) (hm : m < 18446744073709551616) (hc : c < 18446744073709551616) :
  (x + y * m + c) / 18446744073709551616 < 18446744073709551616 := by
 have hb : y * m ≤ 18446744073709551615 * 18446744073709551615 := Nat.mul_le_mul (by omega) (by omega)
 omega
theorem addMul_step {G F Y : Nat → Nat} {oz k cc xk yk m a : Nat} (h : Vb BB G oz k + BB ^ k * cc = Vb BB F oz k + Vb BB Y 0 k * m + a) (hx : xk = F (oz + k)) (hy : yk = Y k) :
  Vb BB (upd G (oz + k) ((xk + yk * m + cc) % 18446744073709551616)) oz (k + 1) + BB ^ (k + 1) * ((xk + yk * m + cc) / 18446744073709551616) = Vb BB F oz (k + 1) + Vb BB Y 0 (k + 1) * m + a := by
 rw [V_upd_succ, V_succ, V_succ, Nat.zero_add, ← hx, ← hy, Nat.pow_succ, Nat.add_mul, Nat.mul_assoc (BB ^ k) BB, Nat.add_assoc, ← Nat.mul_add]
 have e := split_word (xk + yk * m + cc)
 rw [BB_eq] at e ⊢
 rw [e, Nat.mul_add, Nat.mul_add, Nat.mul_assoc]
 rw [BB_eq] at h
 omega
set_option maxHeartbeats 2000000 in
theorem addMulVVWW_g (n gz oz lz cz cz' gy oy cy m a : Nat) (F Y : Nat → Nat) (w : World) (hz : BlkW w gz lz F) (hy : Words w gy oy n Y) (hzn : oz + n ≤ lz)
  (ha : gy ≠ gz) (hm : m < BB) (hr : a < BB) :
  Calls Tryz.prog 268 #[.slice (some ⟨gz, oz, none⟩) n cz, .slice (some ⟨gz, oz, none⟩) n cz', .slice (some ⟨gy, oy, none⟩) n cy, .int .u64 m, .int .u64 a] w fun e w' =>
   ∃ (c : Nat) (G : Nat → Nat), e = .returned (.int .u64 c) ∧ c < BB ∧ BlkW w' gz lz G ∧ (∀ j, j < oz ∨ oz + n ≤ j → G j = F j) ∧ Vb BB G oz n + BB ^ n * c = Vb BB F oz n + Vb BB Y 0 n * m + a ∧ Fr (· = gz) w w' := by
 have hroom := hz.room
 rw [LL_eq] at hroom
 rw [BB_eq] at hm hr
 go_enter Tryz.func268, Tryz.ntmps268
 go_wp2
 go_loopw [10, 32] (fun c i wr => ∃ (k cc : Nat) (G : Nat → Nat), k ≤ n ∧ i = .int .i64 k ∧ c = .int .u64 cc ∧ cc < 18446744073709551616 ∧ BlkW wr gz lz G ∧ Hid (∀ j, j < oz ∨ oz + k ≤ j → G j = F j) ∧ Hid (Vb BB G oz k + BB ^ k * cc = Vb BB F oz k + Vb BB Y 0 k * m + a) ∧ Fr (· = gz) w wr)
  (fun _ i _ => n - (intOf i).toNat)
 case atStart => exact ⟨0, a, F, Nat.zero_le _, rfl, rfl, hr, hz, fun _ _ => rfl, by simp [Vb, Hid], Fr.refl _ _⟩
 case round =>
  obtain ⟨k, cc, G, hk, rfl, rfl, hcc, hG, hold, hV, hfr⟩ := hrel
  by_cases hlt : k < n
  ·obtain ⟨xk, hxk, hxlt⟩ : ∃ xk : Nat, Hid (xk = F (oz + k)) ∧ xk < 18446744073709551616 := ⟨_, rfl, hz.word _ (by omega)⟩
   obtain ⟨yk, hyk, hylt⟩ : ∃ yk : Nat, Hid (yk = Y k) ∧ yk < 18446744073709551616 := ⟨_, rfl, hy.word _ (by omega)⟩
   have hzc : wr.cell? ⟨gz, oz + k, none⟩ = some (.int .u64 (xk : Nat)) := by rw [hG.cell (by omega), hold.out _ (by omega), ← hxk.out]
   have hyc : wr.cell? ⟨gy, oy + k, none⟩ = some (.int .u64 (yk : Nat)) := by rw [(hy.fr hfr ha).cell _ (by omega), ← hyk.out]
   have hzf := hG.free (oz + k)
   have hM := addMul_lt xk yk cc m hxlt hylt hm hcc
   have M := mulAddWWW_g yk m xk hylt hm hxlt
   obtain ⟨p, hp⟩ : ∃ p, p = yk * m + xk := ⟨_, rfl⟩
   rw [show xk + yk * m + cc = p + cc by omega] at hM
   rw [← hp] at M
   have HP := Lib.hid hp
   clear hp
   have HM := Lib.hid M
   clear M
   go_wp2
   go_quiet ((go_at_call 290; exact Calls.quiet_of_same ((HM.out _).mono fun _ _ h => ⟨h.1, h.2.symm⟩)))
   go_wp2_with (go_at_call 246; refine (bits_Add _ _ _ (by omega) (by omega) (by omega) (by omega) _).mono ?_; rintro e w' ⟨rfl, rfl⟩)
   go_roundw
   case rel =>
    refine ⟨k + 1, (p + cc) / 18446744073709551616, upd G (oz + k) ((p + cc) % 18446744073709551616), by omega, by go_num, int_eq (by omega), hM, ?_, fun j hj => by rw [upd_other _ _ _ _ (by omega)]; exact hold.out j (by omega), ?_, (hfr.drewN _).setCell _ _ (.inr rfl)⟩
    ·have := (hG.drewN nq).store (i := oz + k) (x := (p + cc) % 18446744073709551616) (Nat.mod_lt _ BB_pos)
     rw [show (((p + cc) % 18446744073709551616 : Nat) : Int) = ((p : Int) + cc) % 18446744073709551616 by omega] at this
     exact this
    ·have := addMul_step hV.out hxk.out hyk.out
     rw [show xk + yk * m + cc = p + cc by rw [HP.out]; omega] at this
     exact this
   case measure => simp [intOf]; omega
  ·go_wp2
   go_ret
   obtain rfl : k = n := by omega
   exact ⟨cc, G, rfl, hcc, hG, hold.out, hV.out, hfr⟩
theorem addMulVVWW (n gz oz lz cz cz' gy oy cy m a : Nat) (A : Int) (hA : A = a) (F Y : Nat → Nat) (w : World) (hz : BlkW w gz lz F) (hy : Words w gy oy n Y) (hzn : oz + n ≤ lz)
  (ha : gy ≠ gz) (hm : m < BB) (hr : a < BB) :
  Calls Tryz.prog 229 #[.slice (some ⟨gz, oz, none⟩) n cz, .slice (some ⟨gz, oz, none⟩) n cz', .slice (some ⟨gy, oy, none⟩) n cy, .int .u64 m, .int .u64 A] w fun e w' =>
   ∃ (c : Nat) (G : Nat → Nat), e = .returned (.int .u64 c) ∧ c < BB ∧ BlkW w' gz lz G ∧ (∀ j, j < oz ∨ oz + n ≤ j → G j = F j) ∧ Vb BB G oz n + BB ^ n * c = Vb BB F oz n + Vb BB Y 0 n * m + a ∧ Fr (· = gz) w w' := by
 subst hA
 go_enter Tryz.func229, Tryz.ntmps229
 go_wp2_with fail
 refine (addMulVVWW_g n gz oz lz cz cz' gy oy cy m a F Y w hz hy hzn ha hm hr).mono ?_
 rintro e w1 ⟨c, G, rfl, h⟩
 go_wp2
 go_ret
 exact ⟨c, G, rfl, h⟩
theorem basic_zero {G Y : Nat → Nat} {n i A : Nat} (h : Vb BB G 0 (n + i) = A * Vb BB Y 0 i) (hz : G (n + i) = 0) (hd : Y i = 0) : Vb BB G 0 (n + (i + 1)) = A * Vb BB Y 0 (i + 1) := by
 rw [← Nat.add_assoc, V_succ, V_succ, Nat.zero_add, Nat.zero_add, hz, hd, h]; rfl
theorem basic_step {G G' Y : Nat → Nat} {n i A d c : Nat} (h : Vb BB G 0 (n + i) = A * Vb BB Y 0 i) (hd : d = Y i) (hold : ∀ j, j < i ∨ i + n ≤ j → G' j = G j)
  (hs : Vb BB G' i n + BB ^ n * c = Vb BB G i n + A * d) : Vb BB (upd G' (n + i) c) 0 (n + (i + 1)) = A * Vb BB Y 0 (i + 1) := by
 have e1 := V_upd_succ BB G' 0 (n + i) c
 rw [Nat.zero_add] at e1
 rw [← Nat.add_assoc, e1, V_succ, Nat.zero_add, ← hd, Nat.add_comm n i, V_add, Nat.zero_add]
 rw [Nat.add_comm n i, V_add, Nat.zero_add] at h
 rw [V_congr (F := G') (G := G) (o' := 0) (n := i) (fun j hj => hold _ (by omega)), Nat.pow_add, Nat.mul_assoc, Nat.add_assoc, ← Nat.mul_add, hs, Nat.mul_add, ← Nat.add_assoc, h, Nat.mul_add]
 congr 1
 rw [Nat.mul_left_comm]
set_option maxRecDepth 100000 in
set_option maxHeartbeats 2000000 in
theorem basicMul (n m gz nz cz gx ox cx gy oy cy lz : Nat) (F X Y : Nat → Nat) (w : World) (hz : BlkW w gz lz F) (hx : Words w gx ox n X) (hy : Words w gy oy m Y) (hzn : n + m ≤ nz) (hnz : nz ≤ cz) (hcz : cz ≤ lz)
  (hxz : gx ≠ gz) (hyz : gy ≠ gz) (hm : m ≤ LL) :
  Calls Tryz.prog 178 #[.slice (some ⟨gz, 0, none⟩) nz cz, .slice (some ⟨gx, ox, none⟩) n cx, .slice (some ⟨gy, oy, none⟩) m cy] w fun e w' =>
   ∃ G : Nat → Nat, e = .returned (.tuple #[]) ∧ BlkW w' gz lz G ∧ Vb BB G 0 (n + m) = Vb BB X 0 n * Vb BB Y 0 m ∧ Fr (· = gz) w w' := by
 have hroom := hz.room
 rw [LL_eq] at hroom hm
 go_enter Tryz.func178, Tryz.ntmps178
 go_wp2_with (with_reducible refine clear_blk rfl _ _ rfl Tryz.underlying95 gz 0 (n + m) cz lz F ?hs hz (by omega) ?_)
 case hs => rfl
 intro w1 G1 hG1 hz1 _ hf1
 go_wp2
 go_loopw [17] (fun i wr => ∃ (k : Nat) (G : Nat → Nat), k ≤ m ∧ i = .int .i64 k ∧ BlkW wr gz lz G ∧ Hid (∀ j, n + k ≤ j → j < n + m → G j = 0) ∧ Hid (Vb BB G 0 (n + k) = Vb BB X 0 n * Vb BB Y 0 k) ∧ Fr (· = gz) w wr)
  (fun i _ => m - (intOf i).toNat)
 case atStart => exact ⟨0, G1, Nat.zero_le _, rfl, hG1, fun j _ h => hz1 j h, by show _ = _; rw [V_zero, Nat.mul_zero]; exact V_zeros (fun j hj => by rw [Nat.zero_add]; exact hz1 j (by omega)), hf1⟩
 case round =>
  obtain ⟨k, G, hk, rfl, hG, hz0, hV, hfr⟩ := hrel
  by_cases hlt : k < m
  ·obtain ⟨yk, hyk, hylt⟩ : ∃ yk : Nat, Hid (yk = Y k) ∧ yk < BB := ⟨_, rfl, hy.word _ (by omega)⟩
   have hyc : wr.cell? ⟨gy, oy + k, none⟩ = some (.int .u64 (yk : Nat)) := by rw [(hy.fr hfr hyz).cell _ (by omega), ← hyk.out]
   by_cases hd : yk = 0
   ·have hb : ((yk : Int) != 0) = false := by simp; exact hd
    have HD := Lib.hid hd
    clear hd
    go_wp2
    go_roundw
    case rel => exact ⟨k + 1, G, by omega, by go_num, hG, fun j h1 h2 => hz0.out j (by omega) h2, basic_zero hV.out (hz0.out _ (Nat.le_refl _) (by omega)) (by rw [← hyk.out, HD.out]), hfr⟩
    case measure => simp [intOf]; omega
   ·have hb : ((yk : Int) != 0) = true := by simp; exact hd
    clear hd
    go_wp2
    have hG' := hG.drew
    have hfr' := hfr.drew
    have hx' := hx.fr hfr' hxz
    have q1 : IntKind.i64.wrap ((k : Int) + n) = k + n := IntWalk.i64_in _ (by omega)
    have q2 : IntKind.i64.wrap ((n : Int) + k) = n + k := IntWalk.i64_in _ (by omega)
    have q3 : (0 : Int) ≤ k := by omega
    have q4 : (k : Int) ≤ k + n := by omega
    have q5 : (k : Int) + n ≤ cz := by omega
    have q6 : ((k : Int) + n).toNat = k + n := by omega
    have q7 : (0 : Int) ≤ (n : Int) + k := by omega
    have q8 : (n : Int) + k < nz := by omega
    have q9 : ((n : Int) + k).toNat = n + k := by omega
    have q10 : k + n - k = n := by omega
    go_region_with (go_at_call 229; (with_reducible refine (addMulVVWW n gz k lz (cz - k) (cz - k) gx ox cx yk 0 0 Int.natCast_zero.symm G X _ hG' hx' (by omega) hxz hylt BB_pos).mono ?_); rintro e w2 ⟨c, G2, rfl, hc2, hb2, hold2, hv2, hf2⟩; have HO2 := Lib.hid hold2; have HV2 := Lib.hid hv2; clear hold2 hv2; have hcell := hb2.cell (j := n + k) (by omega); have hfree := hb2.free (n + k))
    clear q1 q2 q4 q5 q6 q7 q8 q9 q10
    go_wp2
    go_roundw
    case rel =>
     refine ⟨k + 1, upd G2 (n + k) c, by omega, by go_num, hb2.store hc2, fun j h1 h2 => ?_, ?_, (hfr'.trans' hf2).setCell _ _ (.inr rfl)⟩
     ·rw [upd_other _ _ _ _ (by omega), HO2.out j (by omega)]; exact hz0.out j (by omega) h2
     ·exact basic_step hV.out hyk.out (fun j hj => HO2.out j (by omega)) (by have := HV2.out; rw [Nat.add_zero] at this; exact this)
    case measure => simp [intOf]; omega
  ·go_wp2
   go_end0
   obtain rfl : k = m := by omega
   exact ⟨G, rfl, hG, hV.out, hfr⟩
def Near (v vx : Value) : Prop := ∀ g o l c l' c', vx = .slice (some ⟨g, o, none⟩) l c → v = .slice (some ⟨g, 0, none⟩) l' c' → o = 0 ∧ c = c'
theorem eql_ptr (a b : Addr) (w : World) (ca cb : Array Value) (ta tb : TypeId) (ha : w.heap[a.block]? = some (.cells ca ta (0, 0))) (hb : w.heap[b.block]? = some (.cells cb tb (0, 0))) (T te : TypeId) (hT : Tryz.prog.underlying T = some (.pointer te)) (hte : (Tryz.prog.info? te).map (fun i => (i.size == 0)) = some false) :
  (binOp .eql T (.pointer (some a)) (.pointer (some b))).run Tryz.prog w = .ok (.bool (decide (a = b))) w := by
 obtain ⟨j, hj, hs⟩ := Option.map_eq_some_iff.1 hte
 by_cases e : a = b
 ·subst e; rw [run_eql_ptr_same w a hT hj]; simp
 ·rw [run_eql_ptr_other w hT hj (by simpa using hs) e ha hb]; simp [e]
set_option maxRecDepth 100000 in
set_option maxHeartbeats 2000000 in
theorem alias_two (g o n c g' n' c' : Nat) (w : World) (ca cb : Array Value) (ta tb : TypeId) (hga : w.heap[g']? = some (.cells ca ta (0, 0))) (hgb : w.heap[g]? = some (.cells cb tb (0, 0))) (hc : 0 < c) (hc' : 0 < c') (hcl : c ≤ 9223372036854775807) (hcl' : c' ≤ 1000000000) (ho : g = g' → o = 0 ∧ c = c') :
  Calls Tryz.prog 138 #[.slice (some ⟨g', 0, none⟩) n' c', .slice (some ⟨g, o, none⟩) n c] w fun e w' =>
   ∃ q, e = .returned (.bool (decide (g = g'))) ∧ w' = w.drewN q := by
 have HO := Lib.hid ho
 clear ho
 have b1 : decide ((0 : Int) < (c' : Int)) = true := by simp; exact hc'
 have b2 : decide ((0 : Int) < (c : Int)) = true := by simp; exact hc
 have q1 : IntKind.i64.wrap ((c' : Int) - 1) = (c' : Int) - 1 := IntWalk.i64_in _ (by omega)
 have q2 : IntKind.i64.wrap ((c : Int) - 1) = (c : Int) - 1 := IntWalk.i64_in _ (by omega)
 have q3 : (0 : Int) ≤ (c' : Int) - 1 := by omega
 have q4 : (0 : Int) ≤ (c : Int) - 1 := by omega
 have q5 : (c' : Int) - 1 < c' := by omega
 have q6 : (c : Int) - 1 < c := by omega
 have q7 : ((c' : Int) - 1).toNat = c' - 1 := by omega
 have q8 : ((c : Int) - 1).toNat = c - 1 := by omega
 have hE : ∀ nq, (binOp .eql 204 (.pointer (some ⟨g', c' - 1, none⟩)) (.pointer (some ⟨g, o + (c - 1), none⟩))).run Tryz.prog (w.drewN nq) = .ok (.bool (decide ((⟨g', c' - 1, none⟩ : Addr) = ⟨g, o + (c - 1), none⟩))) (w.drewN nq) :=
  fun nq => eql_ptr _ _ _ ca cb ta tb hga hgb _ _ Tryz.underlying204 (by kernel_rfl)
 have hfin : decide ((⟨g', c' - 1, none⟩ : Addr) = ⟨g, o + (c - 1), none⟩) = decide (g = g') := by
  by_cases e : g = g'
  ·obtain ⟨rfl, rfl⟩ := HO.out e
   subst e; simp
  ·have : ¬ ((⟨g', c' - 1, none⟩ : Addr) = ⟨g, o + (c - 1), none⟩) := fun h => e (congrArg Addr.block h).symm
   simp only [this, e]
 rw [hfin] at hE
 clear hfin
 go_enter Tryz.func138, Tryz.ntmps138
 go_wp2
 go_quiet (fail)
 go_wp2
 go_ret
 exact ⟨_, rfl, rfl⟩
set_option maxRecDepth 100000 in
set_option maxHeartbeats 2000000 in
theorem alias_none (a : Option Addr) (n' : Nat) (vx : Value) (w : World) :
  Calls Tryz.prog 138 #[.slice a n' 0, vx] w fun e w' =>
   ∃ q, e = .returned (.bool false) ∧ w' = w.drewN q := by
 have b1 : decide ((0 : Int) < ((0 : Nat) : Int)) = false := by simp
 go_enter Tryz.func138, Tryz.ntmps138
 go_wp2
 go_quiet (fail)
 go_wp2
 go_ret
 exact ⟨_, rfl, rfl⟩
theorem alias_any (v vx : Value) (m n : Nat) (F X : Nat → Nat) (w : World) (h : OwnW w v m F) (hx : RdW w vx n X) (hn : 0 < n) (near : Near v vx) :
  Calls Tryz.prog 138 #[v, vx] w fun e w' =>
   ∃ b : Bool, e = .returned (.bool b) ∧ Fr NoS w w' ∧ (b = false → ∀ k, v.ownBlock = some k → vx.ownBlock ≠ some k) := by
 rcases hx with ⟨rfl, rfl⟩ | ⟨g, o, c, cs, rfl, h1, h2, h3, hc, hr⟩
 ·omega
 rw [LL_eq] at h2
 rcases h with ⟨rfl, rfl⟩ | ⟨g', c', rfl, hmc, hb⟩
 ·exact (alias_none none 0 _ w).mono fun e w' ⟨q, he, hw⟩ => ⟨false, he, hw ▸ (Fr.refl _ _).drewN q, fun _ k hk => by simp [Value.ownBlock] at hk⟩
 ·have hnear := near g o n c m c' rfl
  have hroom := hb.room
  rw [LL_eq] at hroom
  obtain ⟨cs', hc', _⟩ := hb.row
  rcases Nat.eq_zero_or_pos c' with h0 | h0
  ·subst h0
   refine (alias_none _ m _ w).mono fun e w' ⟨q, he, hw⟩ => ⟨false, he, hw ▸ (Fr.refl _ _).drewN q, fun _ k hk => ?_⟩
   simp only [Value.ownBlock, Option.some.injEq] at hk ⊢
   subst hk
   intro e
   injection e with e
   subst e
   have := hnear rfl
   omega
  ·refine (alias_two g o n c g' m c' w cs' cs _ _ hc' hc (by omega) h0 h2.2 hroom (fun e => by subst e; exact hnear rfl)).mono fun e w' ⟨q, he, hw⟩ => ⟨_, he, hw ▸ (Fr.refl _ _).drewN q, fun hf k hk => ?_⟩
   simp only [Value.ownBlock, Option.some.injEq] at hk ⊢
   subst hk
   intro e
   injection e with e
   simp at hf
   exact hf e
theorem Near.of_ne {v vx : Value} (h : ∀ k, v.ownBlock = some k → vx.ownBlock ≠ some k) : Near v vx := by
 intro g o l c l' c' e e'
 subst e; subst e'
 exact absurd rfl (h g rfl)
theorem Near.nil (vx : Value) : Near (.slice none 0 0) vx := by intro g o l c l' c' e e'; cases e'
set_option maxRecDepth 100000 in
set_option maxHeartbeats 2000000 in
theorem nat_mul_zero (v stk : Value) (Ax Ay : Option Addr) (l n cx cy : Nat) (F : Nat → Nat) (w : World) (h : OwnW w v l F) :
  Calls Tryz.prog 135 #[v, stk, .slice Ax n cx, .slice Ay 0 cy] w fun e w' => ∃ v' : Value, e = .returned v' ∧ MadeNat w w' v v' 0 F := by
 have hlt : decide ((n : Int) < ((0 : Nat) : Int)) = false := by simp
 have hm0 : (((0 : Nat) : Int) == 0) = true := by simp
 by_cases hn0 : n = 0
 ·have hb0 : ((n : Int) == 0) = true := by simp; exact hn0
  clear hn0
  rcases h with ⟨rfl, rfl⟩ | ⟨g, c, rfl, hmc, hb⟩
  ·go_enter_defers Tryz.func135, Tryz.ntmps135
   go_wp2
   exact bodyPostD_ret (results_tmp (t := 8) rfl _ _ _) rfl ⟨_, rfl, .inl ⟨rfl, rfl⟩, Fr.refl _ _, fun k hk => .inl hk⟩
  ·go_enter_defers Tryz.func135, Tryz.ntmps135
   go_wp2
   exact bodyPostD_ret (results_tmp (t := 8) rfl _ _ _) rfl ⟨_, rfl, .inr ⟨g, c, rfl, Nat.zero_le _, hb⟩, Fr.refl _ _, fun k hk => .inl hk⟩
 ·have hb0 : ((n : Int) == 0) = false := by simp; exact hn0
  clear hn0
  rcases h with ⟨rfl, rfl⟩ | ⟨g, c, rfl, hmc, hb⟩
  ·go_enter_defers Tryz.func135, Tryz.ntmps135
   go_wp2
   exact bodyPostD_ret (results_tmp (t := 8) rfl _ _ _) rfl ⟨_, rfl, .inl ⟨rfl, rfl⟩, Fr.refl _ _, fun k hk => .inl hk⟩
  ·go_enter_defers Tryz.func135, Tryz.ntmps135
   go_wp2
   exact bodyPostD_ret (results_tmp (t := 8) rfl _ _ _) rfl ⟨_, rfl, .inr ⟨g, c, rfl, Nat.zero_le _, hb⟩, Fr.refl _ _, fun k hk => .inl hk⟩
set_option maxRecDepth 100000 in
set_option maxHeartbeats 2000000 in
theorem nat_mul_one (v vx stk : Value) (gy oy l n cy : Nat) (F X Y : Nat → Nat) (w : World) (h : OwnW w v l F) (hx : RdW w vx n X) (wy : Words w gy oy 1 Y) (hn0 : 0 < n) (hn : n ≤ 900000000) (nx : Near v vx) :
  Calls Tryz.prog 135 #[v, stk, vx, .slice (some ⟨gy, oy, none⟩) 1 cy] w fun e w' =>
   ∃ (v' : Value) (n' : Nat) (G : Nat → Nat), e = .returned v' ∧ MadeNat w w' v v' n' G ∧ n' ≤ n + 1 ∧ Top G n' ∧ Vb BB G 0 n' = Vb BB X 0 n * Y 0 := by
 have hx0 := hx
 obtain ⟨Ax, cx, ex, hxc, hxc2⟩ := hx.shape
 subst ex
 have hlt : decide ((n : Int) < ((1 : Nat) : Int)) = false := by simp; omega
 have hy00 := wy.cell 0 (by omega)
 have hyw := wy.word 0 (by omega)
 obtain ⟨y0, hyy⟩ : ∃ y0, Hid (y0 = Y 0) := ⟨_, rfl⟩
 rw [← hyy.out] at hy00 hyw
 rw [Nat.add_zero] at hy00
 have hb1 : (((1 : Nat) : Int) == 1) = true := by simp
 have hm0 : (((1 : Nat) : Int) == 0) = false := by simp
 have hb0 : ((n : Int) == 0) = false := by simp; omega
 have NX := Lib.hid nx
 clear nx
 go_enter_defers Tryz.func135, Tryz.ntmps135
 go_wp2_with fail
 refine (nat_mulAddWW v _ l n y0 0 0 F X w h hx0 (by omega) (fun g o l' c e hg => ?_) hyw rfl BB_pos).mono ?_
 ·rcases h with ⟨rfl, _⟩ | ⟨g1, c1, rfl, _, _⟩
  ·simp [Value.ownBlock] at hg
  ·simp [Value.ownBlock] at hg
   subst hg
   exact (NX.out g1 o l' c l c1 e rfl).1
 ·rintro e w1 ⟨v', n', G, rfl, hm1, hn1, ht1, hv1⟩
  have HV := Lib.hid hv1
  clear hv1
  go_wp2
  exact bodyPostD_ret (results_tmp (t := 8) rfl _ _ _) rfl ⟨v', n', G, rfl, hm1, hn1, ht1, by rw [← hyy.out]; exact HV.out⟩
theorem mul_fin {w w1 w2 w3 : World} {v vz v4 : Value} {g2 n c2 n4 : Nat} {G2 G3 : Nat → Nat} (h1 : Fr NoS w w1) (hm2 : MadeNat w1 w2 vz (.slice (some ⟨g2, 0, none⟩) n c2) n G2) (hf2 : Fr NoS w1 w2) (hf3 : Fr (· = g2) w2 w3)
  (ho : OwnW w3 v4 n4 G3) (hb : v4.ownBlock = (Value.slice (some ⟨g2, 0, none⟩) n c2).ownBlock) (hz : vz.ownBlock = none ∨ vz = v) : MadeNat w w3 v v4 n4 G3 := by
 refine ⟨ho, ((h1.trans' hf2).mono (fun _ _ x => x.elim)).trans hf3 ?_, ?_⟩
 ·rintro i hi rfl
  rcases hm2.at_ i rfl with e | e
  ·rcases hz with hz | hz
   ·rw [hz] at e; cases e
   ·rw [← hz]; exact e
  ·exact absurd (Nat.lt_of_lt_of_le hi h1.size) (by omega)
 ·intro k hk
  rw [hb] at hk
  rcases hm2.at_ k hk with e | e
  ·rcases hz with hz | hz
   ·rw [hz] at e; cases e
   ·rw [← hz]; exact .inl e
  ·exact .inr (Nat.le_trans h1.size e)
abbrev TI : TypeId := 97
structure IntRd (w : World) (p : Nat) (neg : Bool) (v : Value) (n : Nat) (F : Nat → Nat) : Prop where
 blk : w.heap[p]? = some (.cells #[.bool neg, v] TI (0, 0))
 rd : RdW w v n F
 top : Top F n
 sign : neg = true → 0 < n
structure IntOwn (w : World) (p : Nat) (neg : Bool) (v : Value) (n : Nat) (F : Nat → Nat) : Prop where
 blk : w.heap[p]? = some (.cells #[.bool neg, v] TI (0, 0))
 own : OwnW w v n F
 top : Top F n
 sign : neg = true → 0 < n
def sgn (neg : Bool) (m : Nat) : Int := if neg then -(m : Int) else m
theorem IntOwn.rd {w : World} {p : Nat} {neg : Bool} {v : Value} {n : Nat} {F : Nat → Nat} (h : IntOwn w p neg v n F) : IntRd w p neg v n F := ⟨h.blk, h.own.rd, h.top, h.sign⟩
section
variable {w w' : World} {p : Nat} {neg : Bool} {v : Value} {n : Nat} {F : Nat → Nat}
theorem IntRd.lt (h : IntRd w p neg v n F) : p < w.heap.size := (Array.getElem?_eq_some_iff.1 h.blk).1
theorem IntRd.c0 (h : IntRd w p neg v n F) : w.cell? ⟨p, 0, none⟩ = some (.bool neg) := by simp [World.cell?, h.blk]
theorem IntRd.c1 (h : IntRd w p neg v n F) : w.cell? ⟨p, 1, none⟩ = some v := by simp [World.cell?, h.blk]
theorem IntRd.fz (h : IntRd w p neg v n F) (j : Nat) : w.frozen? ⟨p, j, none⟩ = false := by simp [World.frozen?, h.blk]
theorem IntRd.of_eq (h : IntRd w p neg v n F) (e : w'.heap[p]? = w.heap[p]?) (e' : ∀ k, v.ownBlock = some k → w'.heap[k]? = w.heap[k]?) : IntRd w' p neg v n F :=
 ⟨e.trans h.blk, h.rd.of_eq e', h.top, h.sign⟩
theorem IntRd.fr {S : Nat → Prop} (h : IntRd w p neg v n F) (f : Fr S w w') (hp : ¬ S p) (hv : ∀ k, v.ownBlock = some k → ¬ S k) : IntRd w' p neg v n F :=
 h.of_eq (f.block p h.lt hp) fun k hk => f.block k (h.rd.lt hk) (hv k hk)
theorem IntOwn.lt (h : IntOwn w p neg v n F) : p < w.heap.size := h.rd.lt
theorem IntOwn.of_eq (h : IntOwn w p neg v n F) (e : w'.heap[p]? = w.heap[p]?) (e' : ∀ k, v.ownBlock = some k → w'.heap[k]? = w.heap[k]?) : IntOwn w' p neg v n F :=
 ⟨e.trans h.blk, h.own.of_eq e', h.top, h.sign⟩
theorem IntOwn.fr {S : Nat → Prop} (h : IntOwn w p neg v n F) (f : Fr S w w') (hp : ¬ S p) (hv : ∀ k, v.ownBlock = some k → ¬ S k) : IntOwn w' p neg v n F :=
 h.of_eq (f.block p h.lt hp) fun k hk => f.block k (h.own.lt hk) (hv k hk)
theorem Rd.ne_int {vx : Value} {nx : Nat} {X : Nat → Nat} (hx : RdW w vx nx X) {c : Array Value} (hb : w.heap[p]? = some (.cells c TI (0, 0))) : vx.ownBlock ≠ some p := by
 rcases hx with ⟨rfl, _⟩ | ⟨g, o, c', cs, rfl, _, _, _, hc, _⟩
 ·simp [Value.ownBlock]
 ·intro e
  simp [Value.ownBlock] at e
  subst e
  rw [hb] at hc
  injection hc with hc
  injection hc with _ hc
  exact absurd hc (by decide)
theorem int_set (hb : w.heap[p]? = some (.cells #[.bool neg, v] TI (0, 0))) (v' : Value) : (w.setCell ⟨p, 1, none⟩ v').heap[p]? = some (.cells #[.bool neg, v'] TI (0, 0)) := by
 rw [heap_setCell_same w p 1 _ _ _ hb]; rfl
theorem int_set0 (hb : w.heap[p]? = some (.cells #[.bool neg, v] TI (0, 0))) (b : Bool) : (w.setCell ⟨p, 0, none⟩ (.bool b)).heap[p]? = some (.cells #[.bool b, v] TI (0, 0)) := by
 rw [heap_setCell_same w p 0 _ _ _ hb]; rfl
end
theorem low64_any (v : Value) (n : Nat) (F : Nat → Nat) (w : World) (h : RdW w v n F) :
  Calls Tryz.prog 97 #[v] w fun e w' => e = .returned (.int .u64 ((if n = 0 then 0 else F 0 : Nat) : Int)) ∧ w = w' := by
 obtain ⟨A, c, rfl, h1, h2⟩ := h.shape
 by_cases hn : n = 0
 ·subst hn
  have hb : (((0 : Nat) : Int) == 0) = true := by simp
  go_enter Tryz.func97, Tryz.ntmps97
  go_wp2
  go_ret
  exact ⟨rfl, rfl⟩
 ·rcases h with ⟨_, e⟩ | ⟨g, o, c', cs, e, h3, h4, h5, hc, hr⟩
  ·omega
  simp only [Value.slice.injEq, true_and] at e
  obtain ⟨rfl, rfl⟩ := e
  have hc0 := cell_of_heap hc (hr 0 (by omega)).1
  rw [Nat.add_zero] at hc0
  have hb : ((n : Int) == 0) = false := by simp; exact hn
  have hpos : 0 < n := by omega
  rw [if_neg hn]
  clear hn
  go_enter Tryz.func97, Tryz.ntmps97
  go_wp2
  go_ret
  exact ⟨rfl, rfl⟩
theorem int_Sign (p n : Nat) (neg : Bool) (v : Value) (F : Nat → Nat) (w : World) (h : IntRd w p neg v n F) :
  Calls Tryz.prog 58 #[.pointer (some ⟨p, 0, none⟩)] w fun e w' => e = .returned (.int .i64 (if n = 0 then 0 else if neg = true then -1 else 1)) ∧ w = w' := by
 have c1 := h.c1
 have c0 := h.c0
 obtain ⟨A, c, rfl, h1, h2⟩ := h.rd.shape
 by_cases hn : n = 0
 ·subst hn
  have hb : (((0 : Nat) : Int) == 0) = true := by simp
  go_enter Tryz.func58, Tryz.ntmps58
  go_wp2
  go_ret
  exact ⟨rfl, rfl⟩
 ·have hb : ((n : Int) == 0) = false := by simp; exact hn
  rw [if_neg hn]
  clear hn
  cases neg
  ·go_enter Tryz.func58, Tryz.ntmps58
   go_wp2
   go_ret
   exact ⟨rfl, rfl⟩
  ·go_enter Tryz.func58, Tryz.ntmps58
   go_wp2
   go_ret
   exact ⟨rfl, rfl⟩
set_option maxRecDepth 100000 in
set_option maxHeartbeats 4000000 in
theorem nat_mul_big (v stk : Value) (gx ox gy oy l n m cx cy : Nat) (F X Y : Nat → Nat) (w : World) (h : OwnW w v l F) (hx : RdW w (.slice (some ⟨gx, ox, none⟩) n cx) n X) (hy : RdW w (.slice (some ⟨gy, oy, none⟩) m cy) m Y) (hmn : m ≤ n) (hm1 : 2 ≤ m) (hm : m < 40) (hn : n ≤ 900000000)
  (nx : Near v (.slice (some ⟨gx, ox, none⟩) n cx)) (ny : Near v (.slice (some ⟨gy, oy, none⟩) m cy)) (hkar : w.cell? ⟨5, 0, none⟩ = some (.int .i64 40)) :
  Calls Tryz.prog 135 #[v, stk, .slice (some ⟨gx, ox, none⟩) n cx, .slice (some ⟨gy, oy, none⟩) m cy] w fun e w' =>
   ∃ (v' : Value) (n' : Nat) (G : Nat → Nat), e = .returned v' ∧ MadeNat w w' v v' n' G ∧ n' ≤ n + m ∧ Top G n' ∧ Vb BB G 0 n' = Vb BB X 0 n * Vb BB Y 0 m := by
 have hlt : decide ((n : Int) < (m : Int)) = false := by simp; exact hmn
 have hb1 : ((m : Int) == 1) = false := by simp; omega
 have hm0 : ((m : Int) == 0) = false := by simp; omega
 have hb0 : ((n : Int) == 0) = false := by simp; omega
 have b40 : decide ((m : Int) < 40) = true := by simp; omega
 have A1 := alias_any v _ l n F X w h hx (by omega) nx
 have wx := hx.words
 have wy := hy.words
 have hxl := hx.lt (k := gx) rfl
 have hyl := hy.lt (k := gy) rfl
 go_enter_defers Tryz.func135, Tryz.ntmps135
 go_wp2_with fail
 refine A1.mono ?_
 rintro e w1 ⟨b1, rfl, hfr1, hb1f⟩
 clear A1
 cases b1 with
 | true =>
  clear hb1f
  go_wp2_with fail
  refine (nat_make (.slice none 0 0) 0 (n + m) _ F _ (.inl ⟨rfl, rfl⟩) (by omega) (by omega)).mono ?_
  rintro e w2 ⟨v2, G2, rfl, hm2, hf2, ho2⟩
  rcases hm2.own with ⟨_, e0⟩ | ⟨g2, c2, rfl, hmc2, hbk2⟩
  ·omega
  have hsep : gx ≠ g2 ∧ gy ≠ g2 := by
   rcases hm2.at_ g2 rfl with e | e
   ·exact (by simp [Value.ownBlock] at e)
   ·have e : _ ≤ g2 := e
    have hs := hfr1.size
    exact ⟨by omega, by omega⟩
  have hroom2 := hbk2.room
  rw [LL_eq] at hroom2
  have hkar2 : w2.cell? ⟨5, 0, none⟩ = some (.int .i64 40) := by
   rw [(hfr1.trans' hf2).cell (World.block_lt_of_cell? w _ hkar) (fun x => x)]; exact hkar
  have wx2 : Words w2 gx ox n X := (wx.fr (S := NoS) hfr1 (fun x => x)).fr (S := NoS) hf2 (fun x => x)
  have wy2 : Words w2 gy oy m Y := (wy.fr (S := NoS) hfr1 (fun x => x)).fr (S := NoS) hf2 (fun x => x)
  go_wp2_with fail
  refine (basicMul n m g2 (n + m) c2 gx ox cx gy oy cy c2 G2 X Y w2 hbk2 wx2 wy2 (Nat.le_refl _) hmc2 (Nat.le_refl _) hsep.1 hsep.2 (by rw [LL_eq]; omega)).mono ?_
  rintro e w3 ⟨G3, rfl, hb3, hv3, hf3⟩
  have HV3 := Lib.hid hv3
  clear hv3
  go_wp2_with fail
  refine (nat_norm_own (.slice (some ⟨g2, 0, none⟩) (n + m) c2) (n + m) G3 _ (.inr ⟨g2, c2, rfl, hmc2, hb3⟩)).mono ?_
  rintro e w4 ⟨v4, n4, rfl, hown4, hn4, ht4, hv4, hob4, rfl⟩
  have HV4 := Lib.hid hv4
  clear hv4
  go_wp2
  refine bodyPostD_ret (results_tmp (t := 8) rfl _ _ _) rfl ⟨v4, n4, G3, rfl, mul_fin hfr1 hm2 hf2 hf3 hown4 hob4 (.inl rfl), hn4, ht4, by rw [HV4.out, HV3.out]⟩
 | false =>
  have HB1 := Lib.hid hb1f
  clear hb1f
  have h' : OwnW w1 v l F := h.fr hfr1 (fun _ _ x => x)
  have hy0' : RdW w1 (.slice (some ⟨gy, oy, none⟩) m cy) m Y := hy.fr hfr1 (fun _ _ x => x)
  go_wp2_with fail
  refine (alias_any v _ l m F Y _ h' hy0' (by omega) ny).mono ?_
  rintro e w11 ⟨b2, rfl, hfr2, hb2f⟩
  have h2' : OwnW w11 v l F := h'.fr hfr2 (fun _ _ x => x)
  replace hfr1 := hfr1.trans' hfr2
  clear hfr2 h' hy0'
  cases b2 with
  | true =>
   clear hb2f
   go_wp2_with fail
   refine (nat_make (.slice none 0 0) 0 (n + m) _ F _ (.inl ⟨rfl, rfl⟩) (by omega) (by omega)).mono ?_
   rintro e w2 ⟨v2, G2, rfl, hm2, hf2, ho2⟩
   rcases hm2.own with ⟨_, e0⟩ | ⟨g2, c2, rfl, hmc2, hbk2⟩
   ·omega
   have hsep : gx ≠ g2 ∧ gy ≠ g2 := by
    rcases hm2.at_ g2 rfl with e | e
    ·exact (by simp [Value.ownBlock] at e)
    ·have e : _ ≤ g2 := e
     have hs := hfr1.size
     exact ⟨by omega, by omega⟩
   have hroom2 := hbk2.room
   rw [LL_eq] at hroom2
   have hkar2 : w2.cell? ⟨5, 0, none⟩ = some (.int .i64 40) := by
    rw [(hfr1.trans' hf2).cell (World.block_lt_of_cell? w _ hkar) (fun x => x)]; exact hkar
   have wx2 : Words w2 gx ox n X := (wx.fr (S := NoS) hfr1 (fun x => x)).fr (S := NoS) hf2 (fun x => x)
   have wy2 : Words w2 gy oy m Y := (wy.fr (S := NoS) hfr1 (fun x => x)).fr (S := NoS) hf2 (fun x => x)
   go_wp2_with fail
   refine (basicMul n m g2 (n + m) c2 gx ox cx gy oy cy c2 G2 X Y w2 hbk2 wx2 wy2 (Nat.le_refl _) hmc2 (Nat.le_refl _) hsep.1 hsep.2 (by rw [LL_eq]; omega)).mono ?_
   rintro e w3 ⟨G3, rfl, hb3, hv3, hf3⟩
   have HV3 := Lib.hid hv3
   clear hv3
   go_wp2_with fail
   refine (nat_norm_own (.slice (some ⟨g2, 0, none⟩) (n + m) c2) (n + m) G3 _ (.inr ⟨g2, c2, rfl, hmc2, hb3⟩)).mono ?_
   rintro e w4 ⟨v4, n4, rfl, hown4, hn4, ht4, hv4, hob4, rfl⟩
   have HV4 := Lib.hid hv4
   clear hv4
   go_wp2
   refine bodyPostD_ret (results_tmp (t := 8) rfl _ _ _) rfl ⟨v4, n4, G3, rfl, mul_fin hfr1 hm2 hf2 hf3 hown4 hob4 (.inl rfl), hn4, ht4, by rw [HV4.out, HV3.out]⟩
  | false =>
   have HB2 := Lib.hid hb2f
   clear hb2f
   go_wp2_with fail
   refine (nat_make v l (n + m) _ F _ h2' (by omega) (by omega)).mono ?_
   rintro e w2 ⟨v2, G2, rfl, hm2, hf2, ho2⟩
   rcases hm2.own with ⟨_, e0⟩ | ⟨g2, c2, rfl, hmc2, hbk2⟩
   ·omega
   have hsep : gx ≠ g2 ∧ gy ≠ g2 := by
    rcases hm2.at_ g2 rfl with e | e
    ·exact ⟨fun x => HB1.out trivial g2 e (by rw [← x]; rfl), fun x => HB2.out trivial g2 e (by rw [← x]; rfl)⟩
    ·have e : _ ≤ g2 := e
     have hs := hfr1.size
     exact ⟨by omega, by omega⟩
   have hroom2 := hbk2.room
   rw [LL_eq] at hroom2
   have hkar2 : w2.cell? ⟨5, 0, none⟩ = some (.int .i64 40) := by
    rw [(hfr1.trans' hf2).cell (World.block_lt_of_cell? w _ hkar) (fun x => x)]; exact hkar
   have wx2 : Words w2 gx ox n X := (wx.fr (S := NoS) hfr1 (fun x => x)).fr (S := NoS) hf2 (fun x => x)
   have wy2 : Words w2 gy oy m Y := (wy.fr (S := NoS) hfr1 (fun x => x)).fr (S := NoS) hf2 (fun x => x)
   go_wp2_with fail
   refine (basicMul n m g2 (n + m) c2 gx ox cx gy oy cy c2 G2 X Y w2 hbk2 wx2 wy2 (Nat.le_refl _) hmc2 (Nat.le_refl _) hsep.1 hsep.2 (by rw [LL_eq]; omega)).mono ?_
   rintro e w3 ⟨G3, rfl, hb3, hv3, hf3⟩
   have HV3 := Lib.hid hv3
   clear hv3
   go_wp2_with fail
   refine (nat_norm_own (.slice (some ⟨g2, 0, none⟩) (n + m) c2) (n + m) G3 _ (.inr ⟨g2, c2, rfl, hmc2, hb3⟩)).mono ?_
   rintro e w4 ⟨v4, n4, rfl, hown4, hn4, ht4, hv4, hob4, rfl⟩
   have HV4 := Lib.hid hv4
   clear hv4
   go_wp2
   refine bodyPostD_ret (results_tmp (t := 8) rfl _ _ _) rfl ⟨v4, n4, G3, rfl, mul_fin hfr1 hm2 hf2 hf3 hown4 hob4 (.inr rfl), hn4, ht4, by rw [HV4.out, HV3.out]⟩
theorem nat_mul_le (v vx vy stk : Value) (l n m : Nat) (F X Y : Nat → Nat) (w : World) (h : OwnW w v l F) (hx : RdW w vx n X) (hy : RdW w vy m Y) (hmn : m ≤ n) (hm : m < 40) (hn : n ≤ 900000000)
  (nx : Near v vx) (ny : Near v vy) (hkar : w.cell? ⟨5, 0, none⟩ = some (.int .i64 40)) :
  Calls Tryz.prog 135 #[v, stk, vx, vy] w fun e w' =>
   ∃ (v' : Value) (n' : Nat) (G : Nat → Nat), e = .returned v' ∧ MadeNat w w' v v' n' G ∧ n' ≤ n + m ∧ Top G n' ∧ Vb BB G 0 n' = Vb BB X 0 n * Vb BB Y 0 m := by
 obtain ⟨Ax, cx, ex, hxc, hxc2⟩ := hx.shape
 obtain ⟨Ay, cy, ey, hyc, hyc2⟩ := hy.shape
 by_cases h0 : m = 0
 ·subst h0; subst ex; subst ey
  refine (nat_mul_zero v stk Ax Ay l n cx cy F w h).mono ?_
  rintro e w' ⟨v', he, hm'⟩
  exact ⟨v', 0, F, he, hm', Nat.zero_le _, .inl rfl, by simp [Vb]⟩
 ·rcases hy with ⟨_, e⟩ | ⟨gy, oy, cy', csy, ey', hy1, hy2, hy3, hyc', hyr⟩
  ·omega
  rcases hx with ⟨_, e⟩ | ⟨gx, ox, cx', csx, ex', hx1, hx2, hx3, hxc', hxr⟩
  ·omega
  have hx0 : RdW w vx n X := .inr ⟨gx, ox, cx', csx, ex', hx1, hx2, hx3, hxc', hxr⟩
  have hy0 : RdW w vy m Y := .inr ⟨gy, oy, cy', csy, ey', hy1, hy2, hy3, hyc', hyr⟩
  subst ex'; subst ey'
  by_cases h1 : m = 1
  ·subst h1
   refine (nat_mul_one v _ stk gy oy l n cy' F X Y w h hx0 hy0.words (by omega) hn nx).mono ?_
   rintro e w' ⟨v', n', G, he, h2, h3, h4, h5⟩
   exact ⟨v', n', G, he, h2, h3, h4, by rw [V_one]; exact h5⟩
  ·exact nat_mul_big v stk gx ox gy oy l n m cx' cy' F X Y w h hx0 hy0 hmn (by omega) hm hn nx ny hkar
set_option maxRecDepth 100000 in
theorem nat_mul (v vx vy stk : Value) (l n m : Nat) (F X Y : Nat → Nat) (w : World) (h : OwnW w v l F) (hx : RdW w vx n X) (hy : RdW w vy m Y) (hmn : m < 40 ∧ n ≤ 900000000 ∨ n < 40 ∧ m ≤ 900000000)
  (nx : Near v vx) (ny : Near v vy) (hkar : w.cell? ⟨5, 0, none⟩ = some (.int .i64 40)) :
  Calls Tryz.prog 135 #[v, stk, vx, vy] w fun e w' =>
   ∃ (v' : Value) (n' : Nat) (G : Nat → Nat), e = .returned v' ∧ MadeNat w w' v v' n' G ∧ n' ≤ n + m ∧ Top G n' ∧ Vb BB G 0 n' = Vb BB X 0 n * Vb BB Y 0 m := by
 by_cases hle : m ≤ n
 ·exact nat_mul_le v vx vy stk l n m F X Y w h hx hy hle (by omega) (by omega) nx ny hkar
 ·have HM := nat_mul_le v vy vx stk l m n F Y X w h hy hx (by omega) (by omega) (by omega) ny nx hkar
  obtain ⟨Ax, cx, ex, hxc, hxc2⟩ := hx.shape
  obtain ⟨Ay, cy, ey, hyc, hyc2⟩ := hy.shape
  have hlt : decide ((n : Int) < (m : Int)) = true := by simp; omega
  subst ex; subst ey
  have hnm : n < m := by omega
  clear hx hy nx ny hkar h hmn hle
  go_enter_defers Tryz.func135, Tryz.ntmps135
  go_wp2_with fail
  refine HM.mono ?_
  rintro e w' ⟨v', n', G, rfl, h2, h3, h4, h5⟩
  have HV := Lib.hid h5
  clear h5 HM
  go_wp2
  exact bodyPostD_ret (results_tmp (t := 8) rfl _ _ _) rfl ⟨v', n', G, rfl, h2, by omega, h4, by rw [Nat.mul_comm]; exact HV.out⟩
theorem sgn_mul (nx ny : Bool) (a b : Nat) : sgn (nx != ny) (a * b) = sgn nx a * sgn ny b := by
 cases nx <;> cases ny <;> simp [sgn, Int.natCast_mul, Int.neg_mul, Int.mul_neg]
theorem sgn_zero (s : Bool) : sgn s 0 = 0 := by cases s <;> rfl
set_option maxRecDepth 100000 in
set_option maxHeartbeats 4000000 in
theorem int_mul (pz px py l n m : Nat) (neg nx ny : Bool) (v vx vy : Value) (F X Y : Nat → Nat) (w : World) (hb : w.heap[pz]? = some (.cells #[.bool neg, v] TI (0, 0))) (h : OwnW w v l F)
  (hx : IntRd w px nx vx n X) (hy : IntRd w py ny vy m Y) (hmn : m < 40 ∧ n ≤ 900000000 ∨ n < 40 ∧ m ≤ 900000000) (hne : px ≠ py) (ax : Near v vx) (ay : Near v vy)
  (hkar : w.cell? ⟨5, 0, none⟩ = some (.int .i64 40)) :
  Calls Tryz.prog 96 #[.pointer (some ⟨pz, 0, none⟩), .pointer none, .pointer (some ⟨px, 0, none⟩), .pointer (some ⟨py, 0, none⟩)] w fun e w' =>
   ∃ (v' : Value) (n' : Nat) (G : Nat → Nat) (s : Bool), e = .returned (.tuple #[]) ∧ IntOwn w' pz s v' n' G ∧ n' ≤ n + m ∧ sgn s (Vb BB G 0 n') = sgn nx (Vb BB X 0 n) * sgn ny (Vb BB Y 0 m) ∧ Vb BB G 0 n' = Vb BB X 0 n * Vb BB Y 0 m ∧ Fr (fun k => k = pz ∨ v.ownBlock = some k) w w' ∧ (∀ k, v'.ownBlock = some k → v.ownBlock = some k ∨ w.heap.size ≤ k) := by
 have hE : ∀ u : World, u.heap[px]? = w.heap[px]? → u.heap[py]? = w.heap[py]? → (binOp .eql 46 (.pointer (some ⟨px, 0, none⟩)) (.pointer (some ⟨py, 0, none⟩))).run Tryz.prog u = .ok (.bool false) u := by
  intro u e1 e2
  rw [eql_ptr _ _ u _ _ _ _ (e1.trans hx.blk) (e2.trans hy.blk) _ _ Tryz.underlying46 (by kernel_rfl)]
  rw [decide_eq_false (fun e => hne (congrArg Addr.block e))]
 have hE0 := hE w rfl rfl
 have M := fun u (h1 : OwnW u v l F) (h2 : RdW u vx n X) (h3 : RdW u vy m Y) => nat_mul v vx vy (.pointer none) l n m F X Y u h1 h2 h3 hmn ax ay
 have z1 : w.cell? ⟨pz, 1, none⟩ = some v := by simp [World.cell?, hb]
 have x1 := hx.c1
 have y1 := hy.c1
 have hkar1 : w.drew.cell? ⟨5, 0, none⟩ = some (.int .i64 40) := hkar
 go_enter Tryz.func96, Tryz.ntmps96
 go_wp2_with fail
 go_region_with (go_at_call 135; go_loud ((with_reducible refine (M _ (h.fr ((Fr.refl NoS w).drew) (fun _ _ x => x)) (hx.rd.fr ((Fr.refl NoS w).drew) (fun _ _ x => x)) (hy.rd.fr ((Fr.refl NoS w).drew) (fun _ _ x => x)) hkar1).mono ?_); rintro e w1 ⟨v', n', G, rfl, hm1, hn1, ht1, hv1⟩; have HM := Lib.hid hm1; have HV := Lib.hid hv1; have HT := Lib.hid ht1; have hb1 : w1.heap[pz]? = some (.cells #[.bool neg, v] TI (0, 0)) := (hm1.fr.block pz (zLt hb) (h.rd.ne_int hb)).trans hb; have d1 : w1.cell? ⟨pz, 1, none⟩ = some v := (by simp [World.cell?, hb1]); have f1 : w1.frozen? ⟨pz, 1, none⟩ = false := (by simp [World.frozen?, hb1]); obtain ⟨A', c', rfl, hc1, hc2⟩ := hm1.own.rd.shape; clear hm1 hv1 ht1))
 all_goals
  have hfr1 : Fr (fun k => v.ownBlock = some k) w w1 := ((Fr.refl _ w).drew).trans' HM.out.fr
  have hpz := (zLt hb)
  have hnx1 : w1.cell? ⟨px, 0, none⟩ = some (.bool nx) := (hfr1.cell (p := ⟨px, 0, none⟩) hx.lt (h.rd.ne_int hx.blk)).trans hx.c0
  have hny1 : w1.cell? ⟨py, 0, none⟩ = some (.bool ny) := (hfr1.cell (p := ⟨py, 0, none⟩) hy.lt (h.rd.ne_int hy.blk)).trans hy.c0
  have hfr2 : Fr (· = pz) w1 (w1.setCell ⟨pz, 1, none⟩ (.slice A' n' c')) := Fr.set _ _ _ _
  have hb2 := int_set hb1 (.slice A' n' c')
  have hown2 : OwnW (w1.setCell ⟨pz, 1, none⟩ (.slice A' n' c')) (.slice A' n' c') n' G := HM.out.own.fr hfr2 (fun k hk e => HM.out.own.rd.ne_int hb1 (by rw [hk, e]))
  have hx2 : (w1.setCell ⟨pz, 1, none⟩ (.slice A' n' c')).cell? ⟨px, 0, none⟩ = some (.bool nx) := by
   rw [World.cell?_setCell_other _ _ _ _ (by intro e; injection e with _ e _; omega)]; exact hnx1
  have hy2 : (w1.setCell ⟨pz, 1, none⟩ (.slice A' n' c')).cell? ⟨py, 0, none⟩ = some (.bool ny) := by
   rw [World.cell?_setCell_other _ _ _ _ (by intro e; injection e with _ e _; omega)]; exact hny1
  have hat := HM.out.at_
  generalize w1.setCell ⟨pz, 1, none⟩ (.slice A' n' c') = u at *
  have z1u : u.cell? ⟨pz, 1, none⟩ = some (.slice A' n' c') := by simp [World.cell?, hb2]
  have z0u : u.cell? ⟨pz, 0, none⟩ = some (.bool neg) := by simp [World.cell?, hb2]
  have f0u : u.frozen? ⟨pz, 0, none⟩ = false := by simp [World.frozen?, hb2]
  have hne' : (Value.slice A' n' c').ownBlock ≠ some pz := hown2.rd.ne_int hb2
  have F2 : Fr (fun k => k = pz ∨ v.ownBlock = some k) w u := (hfr1.mono fun k _ e => .inr e).trans hfr2 (fun k _ e => .inl e)
  clear hnx1 hny1 hb1 d1 f1 HM hb hE hE0 M z1 x1 y1 hkar hkar1 hfr1 hfr2
  rcases Nat.eq_zero_or_pos n' with h0 | h0
  ·subst h0
   have hg : decide ((0 : Int) < ((0 : Nat) : Int)) = false := by simp
   go_wp2
   go_region
   go_wp2
   go_end0
   have F3 : Fr (· = pz) u.drew (u.drew.setCell ⟨pz, 0, none⟩ (.bool false)) := Fr.set _ _ _ _
   refine ⟨_, 0, G, false, rfl, ⟨int_set0 hb2 _, hown2.fr ((Fr.refl (· = pz) u).drew.trans' F3) (fun k hk e => hne' (by rw [hk, e])), .inl rfl, fun e => by cases e⟩, Nat.zero_le _, ?_, HV.out, (F2.drew).trans F3 (fun k _ e => .inl e), hat⟩
   rw [← sgn_mul, ← HV.out]
   simp [Vb, sgn_zero]
  ·have hg : decide ((0 : Int) < (n' : Int)) = true := by simp; exact h0
   go_wp2
   go_region
   go_wp2
   go_end0
   have F3 : Fr (· = pz) u.drew (u.drew.setCell ⟨pz, 0, none⟩ (.bool (nx != ny))) := Fr.set _ _ _ _
   refine ⟨_, n', G, (nx != ny), rfl, ⟨int_set0 hb2 _, hown2.fr ((Fr.refl (· = pz) u).drew.trans' F3) (fun k hk e => hne' (by rw [hk, e])), HT.out, fun _ => h0⟩, hn1, ?_, HV.out, (F2.drew).trans F3 (fun k _ e => .inl e), hat⟩
   rw [← sgn_mul, ← HV.out]
theorem int_Mul (pz px py l n m : Nat) (neg nx ny : Bool) (v vx vy : Value) (F X Y : Nat → Nat) (w : World) (hb : w.heap[pz]? = some (.cells #[.bool neg, v] TI (0, 0))) (h : OwnW w v l F)
  (hx : IntRd w px nx vx n X) (hy : IntRd w py ny vy m Y) (hmn : m < 40 ∧ n ≤ 900000000 ∨ n < 40 ∧ m ≤ 900000000) (hne : px ≠ py) (ax : Near v vx) (ay : Near v vy)
  (hkar : w.cell? ⟨5, 0, none⟩ = some (.int .i64 40)) :
  Calls Tryz.prog 74 #[.pointer (some ⟨pz, 0, none⟩), .pointer (some ⟨px, 0, none⟩), .pointer (some ⟨py, 0, none⟩)] w fun e w' =>
   ∃ (v' : Value) (n' : Nat) (G : Nat → Nat) (s : Bool), e = .returned (.pointer (some ⟨pz, 0, none⟩)) ∧ IntOwn w' pz s v' n' G ∧ n' ≤ n + m ∧ sgn s (Vb BB G 0 n') = sgn nx (Vb BB X 0 n) * sgn ny (Vb BB Y 0 m) ∧ Vb BB G 0 n' = Vb BB X 0 n * Vb BB Y 0 m ∧ Fr (fun k => k = pz ∨ v.ownBlock = some k) w w' ∧ (∀ k, v'.ownBlock = some k → v.ownBlock = some k ∨ w.heap.size ≤ k) := by
 have M := int_mul pz px py l n m neg nx ny v vx vy F X Y w hb h hx hy hmn hne ax ay hkar
 clear hb h hx hy ax ay hkar
 go_enter Tryz.func74, Tryz.ntmps74
 go_wp2_with fail
 refine M.mono ?_
 rintro e w1 ⟨v', n', G, s, rfl, hR⟩
 clear M
 have HR := Lib.hid hR
 clear hR
 go_wp2
 go_ret
 exact ⟨v', n', G, s, rfl, HR.out⟩
def cmpI (a b : Nat) : Int := if a < b then -1 else if a = b then 0 else 1
theorem V_top_lt {F G : Nat → Nat} {n m : Nat} (hF : ∀ j, j < n → F j < BB) (hG : Top G m) (h : n < m) : Vb BB F 0 n < Vb BB G 0 m := by
 rcases hG with hG | hG
 ·omega
 ·obtain ⟨k, rfl⟩ : ∃ k, m = k + 1 := ⟨m - 1, by omega⟩
  have h1 : Vb BB F 0 n < BB ^ n := V_lt (fun j hj => by rw [Nat.zero_add]; exact hF j hj)
  have h2 : BB ^ k ≤ Vb BB G 0 (k + 1) := V_top (by rw [Nat.zero_add]; simpa using hG)
  exact Nat.lt_of_lt_of_le (Nat.lt_of_lt_of_le h1 (Nat.pow_le_pow_right BB_pos (by omega))) h2
theorem V_lt_at {F G : Nat → Nat} {n k : Nat} (hF : ∀ j, j < n → F j < BB) (hk : k < n) (h : F k < G k) (he : ∀ j, k < j → j < n → F j = G j) : Vb BB F 0 n < Vb BB G 0 n := by
 obtain ⟨d, rfl⟩ : ∃ d, n = k + 1 + d := ⟨n - (k + 1), by omega⟩
 rw [V_add (F := F), V_add (F := G), V_succ (F := F), V_succ (F := G), Nat.zero_add, Nat.zero_add]
 have h1 : Vb BB F (k + 1) d = Vb BB G (k + 1) d := V_congr (fun j hj => he _ (by omega) (by omega))
 have h2 : Vb BB F 0 k < BB ^ k := V_lt (fun j hj => by rw [Nat.zero_add]; exact hF j (by omega))
 have h3 : BB ^ k * (F k + 1) ≤ BB ^ k * G k := Nat.mul_le_mul_left _ h
 rw [Nat.mul_add, Nat.mul_one] at h3
 rw [h1]
 omega
theorem cmpI_lt {a b : Nat} (h : a < b) : cmpI a b = -1 := by rw [cmpI, if_pos h]
theorem cmpI_eq {a b : Nat} (h : a = b) : cmpI a b = 0 := by rw [cmpI, if_neg (by omega), if_pos h]
theorem cmpI_gt {a b : Nat} (h : b < a) : cmpI a b = 1 := by rw [cmpI, if_neg (by omega), if_neg (by omega)]
set_option maxRecDepth 100000 in
set_option maxHeartbeats 2000000 in
theorem nat_cmp_raw (gx ox cx gy oy cy n : Nat) (X Y : Nat → Nat) (w : World) (hn : n ≤ 1000000000) (h0 : 0 < n) (hx : Words w gx ox n X) (hy : Words w gy oy n Y) :
  Calls Tryz.prog 140 #[.slice (some ⟨gx, ox, none⟩) n cx, .slice (some ⟨gy, oy, none⟩) n cy] w fun e w' => e = .returned (.int .i64 (cmpI (Vb BB X 0 n) (Vb BB Y 0 n))) ∧ ∃ q, w' = w.drewN q := by
 have b0 : ((n : Int) == 0) = false := by simp; omega
 have b1 : ((n : Int) != (n : Int)) = false := by simp
 go_enter Tryz.func140, Tryz.ntmps140
 go_wp2
 go_loopw [7] (fun i wr => ∃ (k q : Nat), k < n ∧ i = .int .i64 k ∧ Hid (∀ j, k < j → j < n → X j = Y j) ∧ wr = w.drewN q)
  (fun i _ => (intOf i).toNat)
 case atStart => exact ⟨n - 1, 0, by omega, by go_num, fun j h1 h2 => by omega, rfl⟩
 case round =>
  obtain ⟨k, q, hk, rfl, hE, rfl⟩ := hrel
  obtain ⟨xk, hxk⟩ : ∃ xk : Nat, Hid (xk = X k) := ⟨_, rfl⟩
  obtain ⟨yk, hyk⟩ : ∃ yk : Nat, Hid (yk = Y k) := ⟨_, rfl⟩
  have hxc : w.cell? ⟨gx, ox + k, none⟩ = some (.int .u64 (xk : Nat)) := by rw [hx.cell _ hk, ← hxk.out]
  have hyc : w.cell? ⟨gy, oy + k, none⟩ = some (.int .u64 (yk : Nat)) := by rw [hy.cell _ hk, ← hyk.out]
  have hend : xk ≠ yk ∨ k = 0 → cmpI (Vb BB X 0 n) (Vb BB Y 0 n) = cmpI xk yk := by
   intro _
   have a1 := @V_lt_at X Y n k (fun j hj => hx.word j hj) hk
   have a2 := @V_lt_at Y X n k (fun j hj => hy.word j hj) hk
   rcases Nat.lt_trichotomy (X k) (Y k) with h | h | h
   ·rw [cmpI_lt (a1 h hE.out), cmpI_lt (by rw [hxk.out, hyk.out]; exact h)]
   ·rw [cmpI_eq (a := xk) (by rw [hxk.out, hyk.out]; exact h)]
    have : k = 0 := by have := hxk.out; have := hyk.out; omega
    subst this
    exact cmpI_eq (V_congr (fun j hj => by
     rw [Nat.zero_add]
     by_cases e : j = 0
     ·subst e; exact h
     ·exact hE.out j (by omega) hj))
   ·rw [cmpI_gt (a2 h (fun j h1 h2 => (hE.out j h1 h2).symm)), cmpI_gt (by rw [hxk.out, hyk.out]; exact h)]
  by_cases hk0 : k = 0
  ·subst hk0
   rw [Nat.add_zero] at hxc hyc
   have HE := Lib.hid (hend (.inr rfl))
   clear hend
   have hg : decide ((0 : Int) < ((0 : Nat) : Int)) = false := by simp
   rcases Nat.lt_trichotomy xk yk with h | h | h
   ·have d1 : decide (xk < yk) = true := decide_eq_true h
    have HR := Lib.hid (HE.out.trans (cmpI_lt h))
    clear h HE
    go_wp2
    go_quiet (fail)
    go_wp2
    go_quiet (fail)
    go_wp2
    go_ret
    exact ⟨ret1 HR.out.symm, _, by simp only [World.drewN_drewN]; rfl⟩
   ·have d1 : decide (xk < yk) = false := decide_eq_false (by omega)
    have d2 : decide (yk < xk) = false := decide_eq_false (by omega)
    have HR := Lib.hid (HE.out.trans (cmpI_eq h))
    clear h HE
    go_wp2
    go_quiet (fail)
    go_wp2
    go_quiet (fail)
    go_wp2
    go_quiet (fail)
    go_wp2
    go_ret
    exact ⟨ret1 HR.out.symm, _, by simp only [World.drewN_drewN]; rfl⟩
   ·have d1 : decide (xk < yk) = false := decide_eq_false (by omega)
    have d2 : decide (yk < xk) = true := decide_eq_true h
    have HR := Lib.hid (HE.out.trans (cmpI_gt h))
    clear h HE
    go_wp2
    go_quiet (fail)
    go_wp2
    go_quiet (fail)
    go_wp2
    go_quiet (fail)
    go_wp2
    go_ret
    exact ⟨ret1 HR.out.symm, _, by simp only [World.drewN_drewN]; rfl⟩
  ·have hk1 : 0 < k := by omega
   have hg : decide (0 < k) = true := decide_eq_true hk1
   rcases Nat.lt_trichotomy xk yk with h | h | h
   ·have d0 : ((xk : Int) == yk) = false := by simp; omega
    have d1 : decide (xk < yk) = true := decide_eq_true h
    have HR := Lib.hid ((hend (.inl (by omega))).trans (cmpI_lt h))
    clear h hend
    go_wp2
    go_quiet (fail)
    go_wp2
    go_quiet (fail)
    go_wp2
    go_ret
    exact ⟨ret1 HR.out.symm, _, by simp only [World.drewN_drewN]; rfl⟩
   ·subst h
    have d0 : ((xk : Int) == xk) = true := by simp
    clear hend
    go_wp2
    go_quiet (fail)
    go_wp2
    go_roundw
    case rel =>
     refine ⟨k - 1, _, by omega, by go_num, fun j h1 h2 => ?_, rfl⟩
     by_cases e : j = k
     ·subst e; rw [← hxk.out, hyk.out]
     ·exact hE.out j (by omega) h2
    case measure => simp [intOf]; omega
   ·have d0 : ((xk : Int) == yk) = false := by simp; omega
    have d1 : decide (xk < yk) = false := decide_eq_false (by omega)
    have d2 : decide (yk < xk) = true := decide_eq_true h
    have HR := Lib.hid ((hend (.inl (by omega))).trans (cmpI_gt h))
    clear h hend
    go_wp2
    go_quiet (fail)
    go_wp2
    go_quiet (fail)
    go_wp2
    go_quiet (fail)
    go_wp2
    go_ret
    exact ⟨ret1 HR.out.symm, _, by simp only [World.drewN_drewN]; rfl⟩
set_option maxRecDepth 100000 in
theorem nat_cmp (vx vy : Value) (n m : Nat) (X Y : Nat → Nat) (w : World) (hx : RdW w vx n X) (hy : RdW w vy m Y) (tx : Top X n) (ty : Top Y m) :
  Calls Tryz.prog 140 #[vx, vy] w fun e w' => e = .returned (.int .i64 (cmpI (Vb BB X 0 n) (Vb BB Y 0 m))) ∧ ∃ q, w' = w.drewN q := by
 rcases Nat.lt_trichotomy n m with h | h | h
 ·have HR := Lib.hid (cmpI_lt (V_top_lt (fun j hj => hx.word hj) ty h))
  obtain ⟨Ax, cx, rfl, h1, h2⟩ := hx.shape
  obtain ⟨Ay, cy, rfl, h3, h4⟩ := hy.shape
  have b1 : ((n : Int) != (m : Int)) = true := by simp; omega
  have b2 : decide (n < m) = true := decide_eq_true h
  clear hx hy tx ty
  go_enter Tryz.func140, Tryz.ntmps140
  go_wp2
  go_ret
  exact ⟨ret1 HR.out.symm, 0, rfl⟩
 ·subst h
  by_cases h0 : n = 0
  ·subst h0
   obtain ⟨Ax, cx, rfl, h1, h2⟩ := hx.shape
   obtain ⟨Ay, cy, rfl, h3, h4⟩ := hy.shape
   have b1 : (((0 : Nat) : Int) != ((0 : Nat) : Int)) = false := by simp
   have b2 : decide (0 < 0) = false := by simp
   clear hx hy tx ty
   go_enter Tryz.func140, Tryz.ntmps140
   go_wp2
   go_ret
   exact ⟨ret1 (cmpI_eq rfl).symm, 0, rfl⟩
  ·have hl := hx.le
   rw [LL_eq] at hl
   rcases hx with ⟨_, e⟩ | ⟨gx, ox, cx', csx, ex', hx1, hx2, hx3, hxc', hxr⟩
   ·exact absurd e h0
   rcases hy with ⟨_, e⟩ | ⟨gy, oy, cy', csy, ey', hy1, hy2, hy3, hyc', hyr⟩
   ·exact absurd e h0
   have hx0 : RdW w vx n X := .inr ⟨gx, ox, cx', csx, ex', hx1, hx2, hx3, hxc', hxr⟩
   have hy0 : RdW w vy n Y := .inr ⟨gy, oy, cy', csy, ey', hy1, hy2, hy3, hyc', hyr⟩
   subst ex'; subst ey'
   exact nat_cmp_raw gx ox cx' gy oy cy' n X Y w hl (by omega) hx0.words hy0.words
 ·have HR := Lib.hid (cmpI_gt (V_top_lt (fun j hj => hy.word hj) tx h))
  obtain ⟨Ax, cx, rfl, h1, h2⟩ := hx.shape
  obtain ⟨Ay, cy, rfl, h3, h4⟩ := hy.shape
  have b1 : ((n : Int) != (m : Int)) = true := by simp; omega
  have b2 : decide (n < m) = false := decide_eq_false (by omega)
  have b3 : decide (m < n) = true := decide_eq_true h
  clear hx hy tx ty
  go_enter Tryz.func140, Tryz.ntmps140
  go_wp2
  go_ret
  exact ⟨ret1 HR.out.symm, 0, rfl⟩
theorem quiet_of2 {P : Program} {f : FuncId} {args : Array Value} {w : World} {a n : Nat} {v : Value}
  (h : Calls P f args (w.drewN (a + n)) fun e w' => e = .returned v ∧ ∃ m, w' = (w.drewN (a + n)).drewN m) : Calls P f args (w.drewN (a + n)) fun e w'' => e = .returned v ∧ ∃ m, w'' = w.drewN (a + m) :=
 h.mono fun _ _ ⟨he, m, hm⟩ => ⟨he, n + m, by rw [hm, World.drewN_drewN, Nat.add_assoc]⟩
def RI (w : World) (p : Nat) (z : Int) : Prop := ∃ (s : Bool) (v : Value) (n : Nat) (F : Nat → Nat), IntRd w p s v n F ∧ sgn s (Vb BB F 0 n) = z
def Zr (w : World) (p : Nat) : Prop := w.heap[p]? = some (.cells #[.bool false, .slice none 0 0] TI (0, 0))
structure Put (w w' : World) (p : Nat) (z : Int) : Prop where
 was : ∃ c, w.heap[p]? = some (.cells c TI (0, 0))
 fr : Fr (· = p) w w'
 own : ∃ (s : Bool) (v : Value) (n : Nat) (G : Nat → Nat), IntOwn w' p s v n G ∧ sgn s (Vb BB G 0 n) = z ∧ ∀ k, v.ownBlock = some k → w.heap.size ≤ k
structure NewZ (w w' : World) (p : Nat) (z : Int) : Prop where
 fr : Fr NoS w w'
 old : w.heap.size ≤ p
 own : ∃ (s : Bool) (v : Value) (n : Nat) (G : Nat → Nat), IntOwn w' p s v n G ∧ sgn s (Vb BB G 0 n) = z ∧ ∀ k, v.ownBlock = some k → w.heap.size ≤ k
def Sm (z : Int) : Prop := z.natAbs < BB ^ 39
theorem sgn_eq_zero {s : Bool} {n : Nat} : sgn s n = 0 ↔ n = 0 := by
 cases s <;> simp [sgn]
theorem sgn_natAbs (s : Bool) (n : Nat) : (sgn s n).natAbs = n := by
 cases s <;> simp [sgn]
theorem sgn_tdiv (sx sy : Bool) (a b : Nat) : (sgn sx a).tdiv (sgn sy b) = sgn (sx != sy) (a / b) := by
 cases sx <;> cases sy <;> simp [sgn, Int.neg_tdiv, Int.tdiv_neg]
theorem sgn_tmod (sx sy : Bool) (a b : Nat) : (sgn sx a).tmod (sgn sy b) = sgn sx (a % b) := by
 cases sx <;> cases sy <;> simp [sgn, Int.neg_tmod, Int.tmod_neg] <;> exact (Int.ofNat_tmod a b).symm.trans (by simp)
theorem BB_one : 1 ≤ BB := BB_pos
theorem words_le {F : Nat → Nat} {n m : Nat} (ht : Top F n) (h : Vb BB F 0 n < BB ^ m) : n ≤ m := by
 refine Nat.le_of_not_lt fun hn => ?_
 obtain ⟨k, rfl⟩ : ∃ k, n = k + 1 := ⟨n - 1, by omega⟩
 rcases ht with ht | ht
 ·omega
 ·have h1 : BB ^ k ≤ Vb BB F 0 (k + 1) := V_top (b := BB) (F := F) (o := 0) (n := k) (by simpa using ht)
  have h2 : BB ^ m ≤ BB ^ k := Nat.pow_le_pow_right BB_one (by omega)
  omega
theorem IntRd.len {w : World} {p n m : Nat} {s : Bool} {v : Value} {F : Nat → Nat} (h : IntRd w p s v n F) (hm : (sgn s (Vb BB F 0 n)).natAbs < BB ^ m) : n ≤ m :=
 words_le h.top (by rwa [sgn_natAbs] at hm)
theorem Top.pos {F : Nat → Nat} {n : Nat} (ht : Top F n) : 0 < Vb BB F 0 n ↔ 0 < n := by
 constructor
 ·intro h
  rcases Nat.eq_zero_or_pos n with e | e
  ·subst e; simp [Vb] at h
  ·exact e
 ·intro h
  obtain ⟨k, rfl⟩ : ∃ k, n = k + 1 := ⟨n - 1, by omega⟩
  rcases ht with ht | ht
  ·omega
  ·have h1 : BB ^ k ≤ Vb BB F 0 (k + 1) := V_top (b := BB) (F := F) (o := 0) (n := k) (by simpa using ht)
   have : 0 < BB ^ k := Nat.pow_pos BB_pos
   omega
theorem RI.fr {w w' : World} {p : Nat} {z : Int} (h : RI w p z) (f : Fr NoS w w') : RI w' p z := by
 obtain ⟨s, v, n, F, h1, h2⟩ := h
 exact ⟨s, v, n, F, h1.fr f (fun x => x) (fun _ _ x => x), h2⟩
theorem RI.lt {w : World} {p : Nat} {z : Int} (h : RI w p z) : p < w.heap.size := by
 obtain ⟨s, v, n, F, h1, h2⟩ := h
 exact h1.lt
theorem NewZ.rd {w w' : World} {p : Nat} {z : Int} (h : NewZ w w' p z) : RI w' p z := by
 obtain ⟨s, v, n, F, h1, h2, _⟩ := h.own
 exact ⟨s, v, n, F, h1.rd, h2⟩
theorem Put.rd {w w' : World} {p : Nat} {z : Int} (h : Put w w' p z) : RI w' p z := by
 obtain ⟨s, v, n, F, h1, h2, _⟩ := h.own
 exact ⟨s, v, n, F, h1.rd, h2⟩
theorem NewZ.after {w w1 w2 : World} {p : Nat} {z : Int} (h : NewZ w w1 p z) (f : Fr NoS w1 w2) : NewZ w w2 p z := by
 obtain ⟨s, v, n, G, ho, hv, hk⟩ := h.own
 exact ⟨h.fr.trans' f, h.old, s, v, n, G, ho.fr f (fun x => x) (fun _ _ x => x), hv, hk⟩
theorem NewZ.before {w0 w w1 : World} {p : Nat} {z : Int} (h : NewZ w w1 p z) (f : Fr NoS w0 w) : NewZ w0 w1 p z := by
 obtain ⟨s, v, n, G, ho, hv, hk⟩ := h.own
 have := f.size
 exact ⟨f.trans' h.fr, Nat.le_trans this h.old, s, v, n, G, ho, hv, fun k h => Nat.le_trans this (hk k h)⟩
theorem Put.new {w0 w w' : World} {p : Nat} {z : Int} (h : Put w w' p z) (f : Fr NoS w0 w) (hp : w0.heap.size ≤ p) : NewZ w0 w' p z := by
 obtain ⟨s, v, n, G, ho, hv, hk⟩ := h.own
 exact ⟨f.trans h.fr (fun i hi e => by omega), hp, s, v, n, G, ho, hv, fun k hk' => Nat.le_trans f.size (hk k hk')⟩
theorem NewZ.beside {w w1 w2 : World} {p g : Nat} {z : Int} {c : Array Value} {t : TypeId} (h : NewZ w w1 p z) (f : Fr (· = g) w1 w2) (hg : w1.heap[g]? = some (.cells c t (0, 0))) (ht : t ≠ TW) (hold : w.heap.size ≤ g) (hpg : p ≠ g) : NewZ w w2 p z := by
 obtain ⟨s, v, n, G, ho, hv, hk⟩ := h.own
 refine ⟨h.fr.trans f (fun i hi e => by omega), h.old, s, v, n, G, ho.fr f hpg (fun k hk e => ?_), hv, hk⟩
 subst e
 rcases ho.own with ⟨rfl, _⟩ | ⟨b, c', rfl, _, hb⟩
 ·cases hk
 ·simp only [Value.ownBlock, Option.some.injEq] at hk
  subst hk
  obtain ⟨cs, hc, _⟩ := hb.row
  rw [hc] at hg
  injection hg with hg
  injection hg with _ hg
  exact ht hg.symm
theorem Zr.own {w : World} {p : Nat} (h : Zr w p) : IntOwn w p false (.slice none 0 0) 0 (fun _ => 0) := ⟨h, .inl ⟨rfl, rfl⟩, .inl rfl, fun e => by cases e⟩
theorem Zr.lt {w : World} {p : Nat} (h : Zr w p) : p < w.heap.size := (zLt h)
theorem Zr.fr {w w' : World} {p : Nat} {S : Nat → Prop} (h : Zr w p) (f : Fr S w w') (hp : ¬ S p) : Zr w' p := (f.block p h.lt hp).trans h
theorem Zr.made (w : World) : Zr (w.alloc (.cells #[.bool false, .slice none 0 0] TI (0, 0))) w.heap.size := heap_alloc_new w _
theorem RI.put {w w' : World} {p q : Nat} {z y : Int} (h : RI w p z) (hP : Put w w' q y) (hne : p ≠ q) : RI w' p z := by
 obtain ⟨s, v, n, F, h1, h2⟩ := h
 obtain ⟨c, hc⟩ := hP.was
 exact ⟨s, v, n, F, h1.fr hP.fr hne (fun j hj e => h1.rd.ne_int hc (by rw [hj, e])), h2⟩
theorem RI.ints {w w' : World} {p : Nat} {z : Int} {S : Nat → Prop} (h : RI w p z) (f : Fr S w w') (hp : ¬ S p) (hS : ∀ k, S k → ∃ c, w.heap[k]? = some (.cells c TI (0, 0))) : RI w' p z := by
 obtain ⟨s, v, n, F, h1, h2⟩ := h
 refine ⟨s, v, n, F, h1.fr f hp (fun j hj e => ?_), h2⟩
 obtain ⟨c, hc⟩ := hS j e
 exact h1.rd.ne_int hc hj
end Go.Proofs.YtilmldfbmmcchaaGreatDoor
