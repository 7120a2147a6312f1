/- Natural numbers as slices of words: without leading zeros. -/
import Derived.Test.YtkholmbfeghhpaaGreatDoorNat
namespace Go.Proofs.YtkholmbfeghhpaaGreatDoor
open Go.RowKit

set_option maxHeartbeats 1000000 in
theorem nat_norm_raw (g o n c : Nat) (F : Nat → Nat) (w : World) (hn : n ≤ c) (hc : c ≤ 1000000000) (hcell : ∀ j, j < n → w.cell? ⟨g, o + j, none⟩ = some (.int .u64 (F j : Nat))) :
    Calls Tryz.prog 80 #[.slice (some ⟨g, o, none⟩) n c] w fun e w' =>
      ∃ n' : Nat, e = .returned (.slice (some ⟨g, o, none⟩) n' c) ∧ n' ≤ n ∧ Top F n' ∧ (∀ j, n' ≤ j → j < n → F j = 0) ∧ w = w' := by
  have HC := Lib.hid hcell
  clear hcell
  go_enter Tryz.func80, Tryz.ntmps80
  go_wp2
  go_loop [3] (fun i => ∃ k : Nat, k ≤ n ∧ i = .int .i64 k ∧ Hid (∀ j, k ≤ j → j < n → F j = 0)) (fun i => (intOf i).toNat)
  case atStart => exact ⟨n, Nat.le_refl _, rfl, fun j h1 h2 => by omega⟩
  case round =>
    obtain ⟨k, hk, rfl, hz⟩ := hrel
    rcases Nat.eq_zero_or_pos k with h0 | h0
    · subst h0
      have hd : decide ((0 : Int) < ((0 : Nat) : Int)) = false := by simp
      go_wp2
      go_ret
      exact ⟨0, rfl, Nat.zero_le _, .inl rfl, hz.out, rfl⟩
    · obtain ⟨m, rfl⟩ : ∃ m, k = m + 1 := ⟨k - 1, by omega⟩
      have hcm : w.cell? ⟨g, o + m, none⟩ = some (.int .u64 (F m : Nat)) := by
          exact HC.out m (by omega)
      by_cases hF : F m = 0
      · rw [hF] at hcm
        go_wp2
        go_round
        case rel =>
          refine ⟨m, by omega, by go_num, fun j h1 h2 => ?_⟩
          by_cases e : j = m
          · subst e; exact hF
          · exact hz.out j (by omega) h2
        case measure => simp [intOf]
      · have hb : ((F m : Int) == 0) = false := by simp; exact hF
        go_wp2
        go_ret
        exact ⟨m + 1, rfl, hk, .inr (by simp; omega), hz.out, rfl⟩

theorem V_norm {F : Nat → Nat} {n n' : Nat} (hn : n' ≤ n) (hz : ∀ j, n' ≤ j → j < n → F j = 0) : Vb BB F 0 n' = Vb BB F 0 n := by
  induction n with
  | zero => rw [show n' = 0 from by omega]
  | succ n ih =>
    by_cases e : n' = n + 1
    · rw [e]
    · rw [V_succ, Nat.zero_add, hz n (by omega) (by omega), ih (by omega) (fun j h1 h2 => hz j h1 (by omega))]; rfl

theorem nat_norm_nil (w : World) : Calls Tryz.prog 80 #[.slice none 0 0] w fun e w' => e = .returned (.slice none 0 0) ∧ w = w' := by
  go_enter Tryz.func80, Tryz.ntmps80
  go_wp2
  go_loop [3] (fun i => i = .int .i64 0) (fun _ => 0)
  case atStart => rfl
  case round =>
    obtain rfl := hrel
    have hd : decide ((0 : Int) < ((0 : Nat) : Int)) = false := by simp
    go_wp2
    go_ret
    exact ⟨rfl, rfl⟩

/-- What is read loses its leading zeros. -/
theorem nat_norm_rd (v : Value) (n : Nat) (F : Nat → Nat) (w : World) (h : RdW w v n F) :
    Calls Tryz.prog 80 #[v] w fun e w' =>
      ∃ (v' : Value) (n' : Nat), e = .returned v' ∧ RdW w v' n' F ∧ n' ≤ n ∧ Top F n' ∧ Vb BB F 0 n' = Vb BB F 0 n ∧ v'.ownBlock = v.ownBlock ∧ w = w' := by
  rcases h with ⟨rfl, rfl⟩ | ⟨g, o, c, cs, rfl, h1, h2, h3, hc, hr⟩
  · exact (nat_norm_nil w).mono fun e w' ⟨he, hw⟩ => ⟨_, 0, he, .inl ⟨rfl, rfl⟩, Nat.le_refl _, .inl rfl, rfl, rfl, hw⟩
  · refine (nat_norm_raw g o n c F w h1 (by rw [LL_eq] at h2; exact h2) (fun j hj => cell_of_heap hc (hr j hj).1)).mono ?_
    rintro e w' ⟨n', he, hn, ht, hz, hw⟩
    exact ⟨_, n', he, .inr ⟨g, o, c, cs, rfl, by omega, h2, h3, hc, fun j hj => hr j (by omega)⟩, hn, ht, V_norm hn hz, rfl, hw⟩
/-- What is owned loses its leading zeros. -/
theorem nat_norm_own (v : Value) (n : Nat) (F : Nat → Nat) (w : World) (h : OwnW w v n F) :
    Calls Tryz.prog 80 #[v] w fun e w' =>
      ∃ (v' : Value) (n' : Nat), e = .returned v' ∧ OwnW w v' n' F ∧ n' ≤ n ∧ Top F n' ∧ Vb BB F 0 n' = Vb BB F 0 n ∧ v'.ownBlock = v.ownBlock ∧ w = w' := by
  rcases h with ⟨rfl, rfl⟩ | ⟨g, c, rfl, h1, hb⟩
  · exact (nat_norm_nil w).mono fun e w' ⟨he, hw⟩ => ⟨_, 0, he, .inl ⟨rfl, rfl⟩, Nat.le_refl _, .inl rfl, rfl, rfl, hw⟩
  · have hr := hb.room
    rw [LL_eq] at hr
    refine (nat_norm_raw g 0 n c F w h1 hr (fun j hj => by rw [Nat.zero_add]; exact hb.cell (by omega))).mono ?_
    rintro e w' ⟨n', he, hn, ht, hz, hw⟩
    exact ⟨_, n', he, .inr ⟨g, c, rfl, by omega, hb⟩, hn, ht, V_norm hn hz, rfl, hw⟩

/-! ### One word -/
set_option maxHeartbeats 1000000 in
theorem nat_setWord (v : Value) (m x : Nat) (F : Nat → Nat) (w : World) (h : OwnW w v m F) (hx : x < BB) :
    Calls Tryz.prog 149 #[v, .int .u64 x] w fun e w' =>
      ∃ (v' : Value) (n : Nat) (G : Nat → Nat), e = .returned v' ∧ MadeNat w w' v v' n G ∧ n ≤ 1 ∧ Top G n ∧ Vb BB G 0 n = x := by
  by_cases h0 : x = 0
  · subst h0
    have hb : (((0 : Nat) : Int) == 0) = true := by simp
    rcases h with ⟨rfl, rfl⟩ | ⟨g, c, rfl, hmc, hb⟩
    · go_enter Tryz.func149, Tryz.ntmps149
      go_wp2
      go_ret
      exact ⟨_, 0, F, rfl, ⟨.inl ⟨rfl, rfl⟩, Fr.refl _ _, fun k hk => .inl hk⟩, by omega, .inl rfl, rfl⟩
    · go_enter Tryz.func149, Tryz.ntmps149
      go_wp2
      go_ret
      exact ⟨_, 0, F, rfl, ⟨.inr ⟨g, c, rfl, by omega, hb⟩, Fr.refl _ _, fun k hk => .inl hk⟩, by omega, .inl rfl, rfl⟩
  · have hb : ((x : Int) == 0) = false := by simp; exact h0
    go_enter Tryz.func149, Tryz.ntmps149
    go_wp2_with fail
    refine (nat_make v m 1 1 F _ h rfl (by omega)).mono ?_
    rintro e w1 ⟨v', G, rfl, hm, hf, ho⟩
    rcases hm.own with ⟨_, h1⟩ | ⟨g, c, rfl, hmc, hbk⟩
    · omega
    have hcell := hbk.cell (j := 0) (by omega)
    have hfree := hbk.free 0
    go_wp2
    go_ret
    refine ⟨_, 1, upd G 0 x, rfl, ⟨.inr ⟨g, c, rfl, hmc, hbk.store hx⟩, hm.fr.setCell _ _ ?_, hm.at_⟩, by omega, .inr (by rw [upd_same]; omega), by rw [V_one, upd_same]⟩
    rcases hm.at_ g rfl with e | e
    · exact .inr e
    · exact .inl e
end Go.Proofs.YtkholmbfeghhpaaGreatDoor
