/- A natural number from fifteen bytes, the greatest first. Conditions: the bytes lie in memory, apart from the words that are written. -/
import Derived.Test.YtkholmbfeghhpaaGreatDoorBytes
namespace Go.Proofs.YtkholmbfeghhpaaGreatDoor
open Go.RowKit

set_option maxRecDepth 10000 in
theorem or_byte (D b p : Nat) (hb : b < 256) (hp : p ≤ 6) (hD : D < 256 ^ p) : bits .or .u64 (D : Int) (IntKind.u64.wrap ((b : Int) * 2 ^ (8 * p))) = ((b * 256 ^ p + D : Nat) : Int) := by
  have e : (2 : Nat) ^ (8 * p) = 256 ^ p := by rw [Nat.pow_mul, show (2 : Nat) ^ 8 = 256 from rfl]
  have h1 : b * 256 ^ p < 256 ^ (p + 1) := by rw [Nat.pow_succ, Nat.mul_comm]; exact Nat.mul_lt_mul_of_pos_left hb (Nat.pow_pos (by omega))
  have h2 : 256 ^ (p + 1) ≤ 256 ^ 7 := Nat.pow_le_pow_right (by omega) (by omega)
  have h3 : 256 ^ p ≤ 256 ^ 7 := Nat.pow_le_pow_right (by omega) (by omega)
  have ec : ((2 : Int) ^ (8 * p)) = ((256 ^ p : Nat) : Int) := by rw [← e]; norm_cast
  rw [ec]
  rw [show (256 : Nat) ^ 7 = 72057594037927936 from rfl] at h2 h3
  have hw : IntKind.u64.wrap ((b : Int) * ((256 ^ p : Nat) : Int)) = ((b * 256 ^ p : Nat) : Int) := by
    rw [← Int.natCast_mul]
    exact u64_wrap_id _ (by omega) (by omega)
  rw [hw, bits_join_low .u64 64 (by decide) wraps_u64 (8 * p) D ((b * 256 ^ p : Nat) : Int) (by omega) (by rw [ec]; omega) (by omega) (by omega) (by rw [ec, ← Int.natCast_emod, Nat.mul_mod_left]; rfl) (by omega)]
  omega

set_option maxRecDepth 100000 in
set_option maxHeartbeats 4000000 in
theorem nat_setBytes (v : Value) (l g o c : Nat) (F B : Nat → Nat) (w : World) (h : OwnW w v l F) (hb : Byts w g o 15 B) (hc : 15 ≤ c) (hcl : c ≤ 1000000000) (hne : v.ownBlock ≠ some g) :
    Calls Tryz.prog 58 #[v, .slice (some ⟨g, o, none⟩) 15 c] w fun e w' =>
      ∃ (v' : Value) (n : Nat) (G : Nat → Nat), e = .returned v' ∧ MadeNat w w' v v' n G ∧ n ≤ 2 ∧ Top G n ∧ Vb BB G 0 n = be B 0 15 := by
  have hg : g < w.heap.size := World.block_lt_of_cell? w _ (hb.cell 0 (by omega))
  go_enter Tryz.func58, Tryz.ntmps58
  go_wp2_with fail
  refine (nat_make v l 2 2 F _ h rfl (by omega)).mono ?_
  rintro e w1 ⟨v1, G1, rfl, hm1, hf1, ho1⟩
  rcases hm1.own with ⟨_, e0⟩ | ⟨g1, c1, rfl, hmc1, hbk1⟩
  · omega
  have hsep : g ≠ g1 := by
    rcases hm1.at_ g1 rfl with e | e
    · rintro rfl; exact hne e
    · omega
  have hb1 := hb.fr (S := NoS) hf1 (fun x => x)
  have hroom := hbk1.room
  rw [LL_eq] at hroom
  go_wp2
  go_loopw [5, 6] (fun i k wr => (i = .int .i64 15 ∧ k = .int .i64 0 ∧ wr = w1) ∨ ∃ (G : Nat → Nat), i = .int .i64 7 ∧ k = .int .i64 1 ∧ BlkW wr g1 c1 G ∧ Hid (G 0 = be B 7 8) ∧ Fr (· = g1) w1 wr)
    (fun i _ _ => (intOf i).toNat)
  case atStart => exact .inl ⟨rfl, rfl, rfl⟩
  case round =>
    rcases hrel with ⟨rfl, rfl, rfl⟩ | ⟨G, rfl, rfl, hG, hV, hfr⟩
    · have E := fun u : World => fun hu => bigEndianWord g (o + 7) 8 (c - 7) (fun j => B (7 + j)) u (by omega) (by omega) hu
      have hlt := be_lt (B := fun j => B (7 + j)) (o := 0) (n := 8) (fun j hj => hb.lt _ (by omega))
      go_wp2_with fail
      refine (E _ (hb1.sub 7 8 (by omega))).mono ?_
      rintro e w2 ⟨rfl, q, rfl⟩
      have hcell : (wr.drewN q).cell? ⟨g1, 0, none⟩ = some (.int .u64 (G1 0 : Nat)) := hbk1.cell (by omega)
      have hfree : (wr.drewN q).frozen? ⟨g1, 0, none⟩ = false := hbk1.free 0
      go_wp2
      go_roundw
      case rel =>
        refine .inr ⟨upd G1 0 (be (fun j => B (7 + j)) 0 8), by go_num, by go_num, (hbk1.drewN q).store hlt, ?_, ((Fr.refl _ _).drewN q).trans' (Fr.set _ _ _ _)⟩
        show _ = _
        rw [upd_same]
        simp only [be, Nat.zero_add, Nat.add_zero]
      case measure => simp [intOf]
    · have hb2 := hb1.fr hfr (fun e => hsep e)
      go_wp2
      go_loop [5, 7, 8] (fun i d s => ∃ (p m D : Nat), m + p = 7 ∧ i = .int .i64 m ∧ d = .int .u64 D ∧ s = .int .u64 (8 * p : Nat) ∧ D < 256 ^ p ∧ Hid (D = be B m p))
        (fun i _ _ => (intOf i).toNat)
      case atStart => exact ⟨0, 7, 0, rfl, by go_num, by go_num, by go_num, by omega, rfl⟩
      case round =>
        obtain ⟨p, m, D, hmp, rfl, rfl, rfl, hD, hbe⟩ := hrel
        rcases Nat.eq_zero_or_pos m with h0 | h0
        · obtain rfl := h0
          obtain rfl : p = 7 := by omega
          have hD' : D < BB := Nat.lt_trans hD (by decide)
          have hcell : wr.cell? ⟨g1, 1, none⟩ = some (.int .u64 (G 1 : Nat)) := hG.cell (by omega)
          have hfree : wr.frozen? ⟨g1, 1, none⟩ = false := hG.free 1
          have hst := hG.store (i := 1) hD'
          go_wp2_with fail
          refine (nat_norm_own (.slice (some ⟨g1, 0, none⟩) 2 c1) 2 _ _ (.inr ⟨g1, c1, rfl, hmc1, hst⟩)).mono ?_
          rintro e w4 ⟨v4, n4, rfl, hown4, hn4, ht4, hv4, hob4, rfl⟩
          have HV4 := Lib.hid hv4
          clear hv4
          go_wp2
          go_ret
          refine ⟨v4, n4, _, rfl, ⟨hown4, ?_, ?_⟩, hn4, ht4, ?_⟩
          · refine hm1.fr.trans (hfr.trans' (Fr.set _ _ _ _)) ?_
            rintro i hi rfl
            rcases hm1.at_ i rfl with e | e
            · exact e
            · omega
          · intro k hk
            rw [hob4] at hk
            exact hm1.at_ k hk
          · rw [HV4.out]
            simp only [Vb, Nat.zero_add, Nat.pow_zero, Nat.pow_one, Nat.one_mul, upd_same, upd_other G 1 D 0 (by omega)]
            rw [hV.out, hbe.out, be_add B 0 7 8, show (256 : Nat) ^ 8 = BB from rfl]
            simp only [Nat.zero_add]
            rw [Nat.mul_comm, Nat.add_comm]
        · have hcell := hb2.cell (m - 1) (by omega)
          have hl := hb2.lt (m - 1) (by omega)
          have hor := or_byte D (B (m - 1)) p hl (by omega) hD
          go_wp2
          go_round
          case rel =>
            refine ⟨p + 1, m - 1, B (m - 1) * 256 ^ p + D, by omega, by go_num, by simp, by go_num, ?_, ?_⟩
            · rw [Nat.pow_succ]
              have : B (m - 1) * 256 ^ p + 256 ^ p ≤ 256 ^ p * 256 := by
                rw [← Nat.succ_mul, Nat.mul_comm]
                exact Nat.mul_le_mul_left _ (by omega)
              omega
            · show _ = _
              rw [Nat.add_comm p 1, be_add B (m - 1) 1 p, hbe.out, show m - 1 + 1 = m by omega]
              simp [be]
          case measure => simp [intOf]; omega
end Go.Proofs.YtkholmbfeghhpaaGreatDoor
