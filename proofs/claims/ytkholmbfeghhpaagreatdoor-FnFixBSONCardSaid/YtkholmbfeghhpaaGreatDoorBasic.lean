/- The product of two rows of words, by the school method. Conditions: the rows lie in memory; the product's row is another block. -/
import Derived.Test.YtkholmbfeghhpaaGreatDoorClear
import Derived.Test.YtkholmbfeghhpaaGreatDoorMulAdd
import Derived.Deep.RegionWith
import Derived.BigRegion
namespace Go.Proofs.YtkholmbfeghhpaaGreatDoor
open Go.RowKit

theorem addMul_lt (x y c m : Nat) (hx : x < 18446744073709551616) (hy : y < 18446744073709551616) (hm : m < 18446744073709551616) (hc : c < 18446744073709551616) :
    (x + y * m + c) / 18446744073709551616 < 18446744073709551616 := by
  have hb : y * m ≤ 18446744073709551615 * 18446744073709551615 := Nat.mul_le_mul (by omega) (by omega)
  omega
theorem addMul_step {G F Y : Nat → Nat} {oz k cc xk yk m a : Nat} (h : Vb BB G oz k + BB ^ k * cc = Vb BB F oz k + Vb BB Y 0 k * m + a) (hx : xk = F (oz + k)) (hy : yk = Y k) :
    Vb BB (upd G (oz + k) ((xk + yk * m + cc) % 18446744073709551616)) oz (k + 1) + BB ^ (k + 1) * ((xk + yk * m + cc) / 18446744073709551616) = Vb BB F oz (k + 1) + Vb BB Y 0 (k + 1) * m + a := by
  rw [V_upd_succ, V_succ, V_succ, Nat.zero_add, ← hx, ← hy, Nat.pow_succ, Nat.add_mul, Nat.mul_assoc (BB ^ k) BB, Nat.add_assoc, ← Nat.mul_add]
  have e := split_word (xk + yk * m + cc)
  rw [BB_eq] at e ⊢
  rw [e, Nat.mul_add, Nat.mul_add, Nat.mul_assoc]
  rw [BB_eq] at h
  omega

set_option maxHeartbeats 2000000 in
/-- z = z + y * m + a, over n words of z; y lies in another block. -/
theorem addMulVVWW_g (n gz oz lz cz cz' gy oy cy m a : Nat) (F Y : Nat → Nat) (w : World) (hz : BlkW w gz lz F) (hy : Words w gy oy n Y) (hzn : oz + n ≤ lz)
    (ha : gy ≠ gz) (hm : m < BB) (hr : a < BB) :
    Calls Tryz.prog 235 #[.slice (some ⟨gz, oz, none⟩) n cz, .slice (some ⟨gz, oz, none⟩) n cz', .slice (some ⟨gy, oy, none⟩) n cy, .int .u64 m, .int .u64 a] w fun e w' =>
      ∃ (c : Nat) (G : Nat → Nat), e = .returned (.int .u64 c) ∧ c < BB ∧ BlkW w' gz lz G ∧ (∀ j, j < oz ∨ oz + n ≤ j → G j = F j) ∧ Vb BB G oz n + BB ^ n * c = Vb BB F oz n + Vb BB Y 0 n * m + a ∧ Fr (· = gz) w w' := by
  have hroom := hz.room
  rw [LL_eq] at hroom
  rw [BB_eq] at hm hr
  go_enter Tryz.func235, Tryz.ntmps235
  go_wp2
  go_loopw [10, 32] (fun c i wr => ∃ (k cc : Nat) (G : Nat → Nat), k ≤ n ∧ i = .int .i64 k ∧ c = .int .u64 cc ∧ cc < 18446744073709551616 ∧ BlkW wr gz lz G ∧ Hid (∀ j, j < oz ∨ oz + k ≤ j → G j = F j) ∧ Hid (Vb BB G oz k + BB ^ k * cc = Vb BB F oz k + Vb BB Y 0 k * m + a) ∧ Fr (· = gz) w wr)
    (fun _ i _ => n - (intOf i).toNat)
  case atStart => exact ⟨0, a, F, Nat.zero_le _, rfl, rfl, hr, hz, fun _ _ => rfl, by simp [Vb, Hid], Fr.refl _ _⟩
  case round =>
    obtain ⟨k, cc, G, hk, rfl, rfl, hcc, hG, hold, hV, hfr⟩ := hrel
    by_cases hlt : k < n
    · obtain ⟨xk, hxk, hxlt⟩ : ∃ xk : Nat, Hid (xk = F (oz + k)) ∧ xk < 18446744073709551616 := ⟨_, rfl, hz.word _ (by omega)⟩
      obtain ⟨yk, hyk, hylt⟩ : ∃ yk : Nat, Hid (yk = Y k) ∧ yk < 18446744073709551616 := ⟨_, rfl, hy.word _ (by omega)⟩
      have hzc : wr.cell? ⟨gz, oz + k, none⟩ = some (.int .u64 (xk : Nat)) := by rw [hG.cell (by omega), hold.out _ (by omega), ← hxk.out]
      have hyc : wr.cell? ⟨gy, oy + k, none⟩ = some (.int .u64 (yk : Nat)) := by rw [(hy.fr hfr ha).cell _ (by omega), ← hyk.out]
      have hzf := hG.free (oz + k)
      have hM := addMul_lt xk yk cc m hxlt hylt hm hcc
      have M := mulAddWWW_g yk m xk hylt hm hxlt
      obtain ⟨p, hp⟩ : ∃ p, p = yk * m + xk := ⟨_, rfl⟩
      rw [show xk + yk * m + cc = p + cc by omega] at hM
      rw [← hp] at M
      have HP := Lib.hid hp
      clear hp
      have HM := Lib.hid M
      clear M
      go_wp2
      go_quiet ((go_at_call 251; exact Calls.quiet_of_same ((HM.out _).mono fun _ _ h => ⟨h.1, h.2.symm⟩)))
      go_wp2_with (go_at_call 231; refine (bits_Add _ _ _ (by omega) (by omega) (by omega) (by omega) _).mono ?_; rintro e w' ⟨rfl, rfl⟩)
      go_roundw
      case rel =>
        refine ⟨k + 1, (p + cc) / 18446744073709551616, upd G (oz + k) ((p + cc) % 18446744073709551616), by omega, by go_num, int_eq (by omega), hM, ?_, fun j hj => by rw [upd_other _ _ _ _ (by omega)]; exact hold.out j (by omega), ?_, (hfr.drewN _).setCell _ _ (.inr rfl)⟩
        · have := (hG.drewN nq).store (i := oz + k) (x := (p + cc) % 18446744073709551616) (Nat.mod_lt _ BB_pos)
          rw [show (((p + cc) % 18446744073709551616 : Nat) : Int) = ((p : Int) + cc) % 18446744073709551616 by omega] at this
          exact this
        · have := addMul_step hV.out hxk.out hyk.out
          rw [show xk + yk * m + cc = p + cc by rw [HP.out]; omega] at this
          exact this
      case measure => simp [intOf]; omega
    · go_wp2
      go_ret
      obtain rfl : k = n := by omega
      exact ⟨cc, G, rfl, hcc, hG, hold.out, hV.out, hfr⟩

theorem addMulVVWW (n gz oz lz cz cz' gy oy cy m a : Nat) (A : Int) (hA : A = a) (F Y : Nat → Nat) (w : World) (hz : BlkW w gz lz F) (hy : Words w gy oy n Y) (hzn : oz + n ≤ lz)
    (ha : gy ≠ gz) (hm : m < BB) (hr : a < BB) :
    Calls Tryz.prog 201 #[.slice (some ⟨gz, oz, none⟩) n cz, .slice (some ⟨gz, oz, none⟩) n cz', .slice (some ⟨gy, oy, none⟩) n cy, .int .u64 m, .int .u64 A] w fun e w' =>
      ∃ (c : Nat) (G : Nat → Nat), e = .returned (.int .u64 c) ∧ c < BB ∧ BlkW w' gz lz G ∧ (∀ j, j < oz ∨ oz + n ≤ j → G j = F j) ∧ Vb BB G oz n + BB ^ n * c = Vb BB F oz n + Vb BB Y 0 n * m + a ∧ Fr (· = gz) w w' := by
  subst hA
  go_enter Tryz.func201, Tryz.ntmps201
  go_wp2_with fail
  refine (addMulVVWW_g n gz oz lz cz cz' gy oy cy m a F Y w hz hy hzn ha hm hr).mono ?_
  rintro e w1 ⟨c, G, rfl, h⟩
  go_wp2
  go_ret
  exact ⟨c, G, rfl, h⟩

theorem basic_zero {G Y : Nat → Nat} {n i A : Nat} (h : Vb BB G 0 (n + i) = A * Vb BB Y 0 i) (hz : G (n + i) = 0) (hd : Y i = 0) : Vb BB G 0 (n + (i + 1)) = A * Vb BB Y 0 (i + 1) := by
  rw [← Nat.add_assoc, V_succ, V_succ, Nat.zero_add, Nat.zero_add, hz, hd, h]; rfl
theorem basic_step {G G' Y : Nat → Nat} {n i A d c : Nat} (h : Vb BB G 0 (n + i) = A * Vb BB Y 0 i) (hd : d = Y i) (hold : ∀ j, j < i ∨ i + n ≤ j → G' j = G j)
    (hs : Vb BB G' i n + BB ^ n * c = Vb BB G i n + A * d) : Vb BB (upd G' (n + i) c) 0 (n + (i + 1)) = A * Vb BB Y 0 (i + 1) := by
  have e1 := V_upd_succ BB G' 0 (n + i) c
  rw [Nat.zero_add] at e1
  rw [← Nat.add_assoc, e1, V_succ, Nat.zero_add, ← hd, Nat.add_comm n i, V_add, Nat.zero_add]
  rw [Nat.add_comm n i, V_add, Nat.zero_add] at h
  rw [V_congr (F := G') (G := G) (o' := 0) (n := i) (fun j hj => hold _ (by omega)), Nat.pow_add, Nat.mul_assoc, Nat.add_assoc, ← Nat.mul_add, hs, Nat.mul_add, ← Nat.add_assoc, h, Nat.mul_add]
  congr 1
  rw [Nat.mul_left_comm]

set_option maxRecDepth 100000 in
set_option maxHeartbeats 2000000 in
theorem basicMul (n m gz nz cz gx ox cx gy oy cy lz : Nat) (F X Y : Nat → Nat) (w : World) (hz : BlkW w gz lz F) (hx : Words w gx ox n X) (hy : Words w gy oy m Y) (hzn : n + m ≤ nz) (hnz : nz ≤ cz) (hcz : cz ≤ lz)
    (hxz : gx ≠ gz) (hyz : gy ≠ gz) (hm : m ≤ LL) :
    Calls Tryz.prog 171 #[.slice (some ⟨gz, 0, none⟩) nz cz, .slice (some ⟨gx, ox, none⟩) n cx, .slice (some ⟨gy, oy, none⟩) m cy] w fun e w' =>
      ∃ G : Nat → Nat, e = .returned (.tuple #[]) ∧ BlkW w' gz lz G ∧ Vb BB G 0 (n + m) = Vb BB X 0 n * Vb BB Y 0 m ∧ Fr (· = gz) w w' := by
  have hroom := hz.room
  rw [LL_eq] at hroom hm
  go_enter Tryz.func171, Tryz.ntmps171
  go_wp2_with (with_reducible refine clear_blk rfl _ _ rfl Tryz.underlying90 gz 0 (n + m) cz lz F ?hs hz (by omega) ?_)
  case hs => rfl
  intro w1 G1 hG1 hz1 _ hf1
  go_wp2
  go_loopw [17] (fun i wr => ∃ (k : Nat) (G : Nat → Nat), k ≤ m ∧ i = .int .i64 k ∧ BlkW wr gz lz G ∧ Hid (∀ j, n + k ≤ j → j < n + m → G j = 0) ∧ Hid (Vb BB G 0 (n + k) = Vb BB X 0 n * Vb BB Y 0 k) ∧ Fr (· = gz) w wr)
    (fun i _ => m - (intOf i).toNat)
  case atStart => exact ⟨0, G1, Nat.zero_le _, rfl, hG1, fun j _ h => hz1 j h, by show _ = _; rw [V_zero, Nat.mul_zero]; exact V_zeros (fun j hj => by rw [Nat.zero_add]; exact hz1 j (by omega)), hf1⟩
  case round =>
    obtain ⟨k, G, hk, rfl, hG, hz0, hV, hfr⟩ := hrel
    by_cases hlt : k < m
    · obtain ⟨yk, hyk, hylt⟩ : ∃ yk : Nat, Hid (yk = Y k) ∧ yk < BB := ⟨_, rfl, hy.word _ (by omega)⟩
      have hyc : wr.cell? ⟨gy, oy + k, none⟩ = some (.int .u64 (yk : Nat)) := by rw [(hy.fr hfr hyz).cell _ (by omega), ← hyk.out]
      by_cases hd : yk = 0
      · have hb : ((yk : Int) != 0) = false := by simp; exact hd
        have HD := Lib.hid hd
        clear hd
        go_wp2
        go_roundw
        case rel => exact ⟨k + 1, G, by omega, by go_num, hG, fun j h1 h2 => hz0.out j (by omega) h2, basic_zero hV.out (hz0.out _ (Nat.le_refl _) (by omega)) (by rw [← hyk.out, HD.out]), hfr⟩
        case measure => simp [intOf]; omega
      · have hb : ((yk : Int) != 0) = true := by simp; exact hd
        clear hd
        go_wp2
        have hG' := hG.drew
        have hfr' := hfr.drew
        have hx' := hx.fr hfr' hxz
        have q1 : IntKind.i64.wrap ((k : Int) + n) = k + n := IntWalk.i64_in _ (by omega)
        have q2 : IntKind.i64.wrap ((n : Int) + k) = n + k := IntWalk.i64_in _ (by omega)
        have q3 : (0 : Int) ≤ k := by omega
        have q4 : (k : Int) ≤ k + n := by omega
        have q5 : (k : Int) + n ≤ cz := by omega
        have q6 : ((k : Int) + n).toNat = k + n := by omega
        have q7 : (0 : Int) ≤ (n : Int) + k := by omega
        have q8 : (n : Int) + k < nz := by omega
        have q9 : ((n : Int) + k).toNat = n + k := by omega
        have q10 : k + n - k = n := by omega
        go_region_with (go_at_call 201; (with_reducible refine (addMulVVWW n gz k lz (cz - k) (cz - k) gx ox cx yk 0 0 Int.natCast_zero.symm G X _ hG' hx' (by omega) hxz hylt BB_pos).mono ?_); rintro e w2 ⟨c, G2, rfl, hc2, hb2, hold2, hv2, hf2⟩; have HO2 := Lib.hid hold2; have HV2 := Lib.hid hv2; clear hold2 hv2; have hcell := hb2.cell (j := n + k) (by omega); have hfree := hb2.free (n + k))
        clear q1 q2 q4 q5 q6 q7 q8 q9 q10
        go_wp2
        go_roundw
        case rel =>
          refine ⟨k + 1, upd G2 (n + k) c, by omega, by go_num, hb2.store hc2, fun j h1 h2 => ?_, ?_, (hfr'.trans' hf2).setCell _ _ (.inr rfl)⟩
          · rw [upd_other _ _ _ _ (by omega), HO2.out j (by omega)]; exact hz0.out j (by omega) h2
          · exact basic_step hV.out hyk.out (fun j hj => HO2.out j (by omega)) (by have := HV2.out; rw [Nat.add_zero] at this; exact this)
        case measure => simp [intOf]; omega
    · go_wp2
      go_end0
      obtain rfl : k = m := by omega
      exact ⟨G, rfl, hG, hV.out, hfr⟩
end Go.Proofs.YtkholmbfeghhpaaGreatDoor
