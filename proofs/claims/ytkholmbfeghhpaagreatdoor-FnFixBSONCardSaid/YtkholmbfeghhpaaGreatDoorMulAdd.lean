/- Natural numbers as slices of words: a product by a word and a sum with a word. Conditions: the slices lie in memory; where they share it they begin at one place. -/
import Derived.Test.YtkholmbfeghhpaaGreatDoorNorm
namespace Go.Proofs.YtkholmbfeghhpaaGreatDoor
open Go.RowKit

theorem MadeNat.next {w w1 w2 : World} {v v1 v2 : Value} {n n2 : Nat} {G G2 : Nat → Nat} (h : MadeNat w w1 v v1 n G) (k : MadeNat w1 w2 v1 v2 n2 G2) : MadeNat w w2 v v2 n2 G2 :=
  ⟨k.own, h.fr.trans k.fr fun i hi hs => by
    rcases h.at_ i hs with e | e
    · exact e
    · omega,
   fun i hi => by
    rcases k.at_ i hi with e | e
    · exact h.at_ i e
    · exact .inr (Nat.le_trans h.fr.size e)⟩

theorem nat_setUint64 (v : Value) (m x : Nat) (F : Nat → Nat) (w : World) (h : OwnW w v m F) (hx : x < BB) :
    Calls Tryz.prog 114 #[v, .int .u64 x] w fun e w' =>
      ∃ (v' : Value) (n : Nat) (G : Nat → Nat), e = .returned v' ∧ MadeNat w w' v v' n G ∧ n ≤ 1 ∧ Top G n ∧ Vb BB G 0 n = x := by
  have hx' := hx
  rw [BB_eq] at hx'
  have hb : ((x : Int) == (x : Int)) = true := by simp
  go_enter Tryz.func114, Tryz.ntmps114
  go_wp2_with fail
  refine (nat_setWord v m x F w h hx).mono ?_
  rintro e w1 ⟨v', n, G, rfl, hh⟩
  go_wp2
  go_ret
  exact ⟨v', n, G, rfl, hh⟩

set_option maxHeartbeats 1000000 in
theorem nat_mulAddWW (v vx : Value) (m n y r : Nat) (R : Int) (F X : Nat → Nat) (w : World) (h : OwnW w v m F) (hx : RdW w vx n X) (hn : n ≤ 999998000)
    (ha : ∀ g o l c, vx = .slice (some ⟨g, o, none⟩) l c → v.ownBlock = some g → o = 0) (hy : y < BB) (hR : R = r) (hr : r < BB) :
    Calls Tryz.prog 174 #[v, vx, .int .u64 y, .int .u64 R] w fun e w' =>
      ∃ (v' : Value) (n' : Nat) (G : Nat → Nat), e = .returned v' ∧ MadeNat w w' v v' n' G ∧ n' ≤ n + 1 ∧ Top G n' ∧ Vb BB G 0 n' = Vb BB X 0 n * y + r := by
  subst hR
  by_cases h0 : n = 0 ∨ y = 0
  · have hval : Vb BB X 0 n * y + r = r := by
      rcases h0 with rfl | rfl
      · simp [Vb]
      · simp
    have HV := Lib.hid hval
    clear hval
    have fin : ∀ (e : Ending) w', (∃ (v' : Value) (n : Nat) (G : Nat → Nat), e = .returned v' ∧ MadeNat w w' v v' n G ∧ n ≤ 1 ∧ Top G n ∧ Vb BB G 0 n = r) →
        ∃ (v' : Value) (n' : Nat) (G : Nat → Nat), e = .returned v' ∧ MadeNat w w' v v' n' G ∧ n' ≤ n + 1 ∧ Top G n' ∧ Vb BB G 0 n' = Vb BB X 0 n * y + r := by
      rintro e w' ⟨v', n', G, he, h1, h2, h3, h4⟩
      exact ⟨v', n', G, he, h1, by omega, h3, by rw [HV.out]; exact h4⟩
    have FIN := Lib.hid fin
    clear fin
    rcases hx with ⟨rfl, rfl⟩ | ⟨g, o, c, cs, rfl, h1, h2, h3, hc, hrd⟩
    · go_enter Tryz.func174, Tryz.ntmps174
      go_wp2_with fail
      refine (nat_setWord v m r F w h hr).mono ?_
      rintro e w1 ⟨v', n, G, rfl, hh⟩
      go_wp2
      go_ret
      exact FIN.out _ _ ⟨v', n, G, rfl, hh⟩
    · rw [LL_eq] at h2
      by_cases hn0 : n = 0
      · subst hn0
        have hb : (((0 : Nat) : Int) == 0) = true := by simp
        go_enter Tryz.func174, Tryz.ntmps174
        go_wp2_with fail
        refine (nat_setWord v m r F w h hr).mono ?_
        rintro e w1 ⟨v', n, G, rfl, hh⟩
        go_wp2
        go_ret
        exact FIN.out _ _ ⟨v', n, G, rfl, hh⟩
      · obtain rfl : y = 0 := by omega
        have hb : ((n : Int) == 0) = false := by simp; exact hn0
        have hb2 : (((0 : Nat) : Int) == 0) = true := by simp
        clear hn0 h0
        go_enter Tryz.func174, Tryz.ntmps174
        go_wp2_with fail
        refine (nat_setWord v m r F w h hr).mono ?_
        rintro e w1 ⟨v', n, G, rfl, hh⟩
        go_wp2
        go_ret
        exact FIN.out _ _ ⟨v', n, G, rfl, hh⟩
  · have hx0 := hx
    rcases hx with ⟨rfl, rfl⟩ | ⟨g, o, c, cs, rfl, h1, h2, h3, hc, hrd⟩
    · omega
    have hw := hx0.words
    have hb : ((n : Int) == 0) = false := by simp; omega
    have hb2 : ((y : Int) == 0) = false := by simp; omega
    have hpos : 0 < n := by omega
    have hgl := hx0.lt (k := g) rfl
    have ha' := fun e => ha g o n c rfl e
    clear ha
    have HA := Lib.hid ha'
    clear ha'
    rw [LL_eq] at h2
    go_enter Tryz.func174, Tryz.ntmps174
    go_wp2_with fail
    refine (nat_make v m (n + 1) _ F _ h (by omega) (by omega)).mono ?_
    rintro e w1 ⟨v', G, rfl, hm, hf, ho⟩
    rcases hm.own with ⟨_, e0⟩ | ⟨g', c', rfl, hmc, hbk⟩
    · omega
    have hroom := hbk.room
    rw [LL_eq] at hroom
    have hw1 : Words w1 g o n X := hw.fr hf (fun x => x)
    have hal : g = g' → o = 0 := by
      rintro rfl
      rcases hm.at_ g rfl with e | e
      · exact HA.out e
      · omega
    go_wp2_with fail
    refine (mulAddVWW n g' 0 c' _ g o _ y r G X w1 hbk hw1 (by omega) hal hy hr).mono ?_
    rintro e w2 ⟨cc, G2, rfl, hcc, hb2, hold, hV, hfr2⟩
    have HV := Lib.hid hV
    clear hV hold
    have hcell := hb2.cell (j := n) (by omega)
    have hfree := hb2.free n
    go_wp2_with fail
    refine (nat_norm_own (.slice (some ⟨g', 0, none⟩) (n + 1) c') (n + 1) (upd G2 n cc) _ (.inr ⟨g', c', rfl, by omega, hb2.store hcc⟩)).mono ?_
    rintro e w3 ⟨v3, n3, rfl, hown3, hn3, ht3, hv3, hob3, rfl⟩
    have HV3 := Lib.hid hv3
    clear hv3
    go_wp2
    go_ret
    refine ⟨v3, n3, upd G2 n cc, rfl, ?_, hn3, ht3, ?_⟩
    · refine hm.next ⟨hown3, (hfr2.setCell _ _ (.inr rfl)).mono fun i _ hi => by rw [hi]; rfl, fun k hk => .inl (hob3 ▸ hk)⟩
    · rw [HV3.out]
      have := V_upd_succ BB G2 0 n cc
      rw [Nat.zero_add] at this
      rw [this]
      exact HV.out
end Go.Proofs.YtkholmbfeghhpaaGreatDoor
