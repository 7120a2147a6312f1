/- Natural numbers as slices of words: new rows, leading zeros, one word, a product by a word. Conditions: the slices lie in memory, a slice that is written begins at the head of a block of its own. -/
import Derived.Test.YtkholmbfeghhpaaGreatDoorVec
import Derived.Deep.OwnRows
import Derived.Laws.CopyOwn
import Derived.Lib.SliceRun
namespace Go.Proofs.YtkholmbfeghhpaaGreatDoor
open Go.RowKit

theorem infoW : (Tryz.prog.info? TW).map (fun i => (i.zero, i.size, i.bytes)) = some (some (.int .u64 0), 1, 8) := by kernel_rfl
theorem madeW (n : Nat) : madeCells #[Value.int .u64 0] n = Array.replicate n (.int .u64 0) := by
  apply Array.ext
  · simp [madeCells]
  · intro i h1 h2
    simp [madeCells, Nat.mod_one]
/-- make([]Word, l, c) at a type T of slices of words. -/
theorem run_makeW (T : TypeId) (hT : Tryz.prog.underlying T = some (.slice TW)) (kl kc : IntKind) (l c : Int) (h0 : 0 ≤ l) (hlc : l ≤ c) (hc : c ≤ 1000000000) (w : World) :
    (Instr.makeSlice T (.int kl l) (.int kc c)).run Tryz.prog w = .ok (.slice (some ⟨w.heap.size, 0, none⟩) l.toNat c.toNat) (w.alloc (.cells (Array.replicate c.toNat (.int .u64 0)) TW)) := by
  obtain ⟨i, hi, hzz⟩ := Option.map_eq_some_iff.1 infoW
  simp only [Prod.mk.injEq] at hzz
  obtain ⟨hz, hs, hb⟩ := hzz
  rw [run_make w T TW i (.int .u64 0) hT hi hz kl kc l c h0 hlc (by rw [hb]; omega) (by omega), hs, Nat.mul_one]
  rw [show (Value.int .u64 0).cells = #[Value.int .u64 0] from rfl, madeW]

/-- What a function does that hands back z's own memory or new memory, with n words. -/
structure MadeNat (w w' : World) (v v' : Value) (n : Nat) (G : Nat → Nat) : Prop where
  own : OwnW w' v' n G
  fr : Fr (fun k => v.ownBlock = some k) w w'
  at_ : ∀ k, v'.ownBlock = some k → v.ownBlock = some k ∨ w.heap.size ≤ k

set_option maxHeartbeats 1000000 in
theorem nat_make (v : Value) (m n : Nat) (N : Int) (F : Nat → Nat) (w : World) (h : OwnW w v m F) (hN : N = n) (hn : n ≤ 999999000) :
    Calls Tryz.prog 78 #[v, .int .i64 N] w fun e w' =>
      ∃ (v' : Value) (G : Nat → Nat), e = .returned v' ∧ MadeNat w w' v v' n G ∧ Fr NoS w w' ∧ ((v'.ownBlock = v.ownBlock ∧ G = F ∧ w = w') ∨ ∃ k, v'.ownBlock = some k ∧ w.heap.size ≤ k) := by
  subst hN
  have mk := run_makeW 90 Tryz.underlying90
  rcases h with ⟨rfl, rfl⟩ | ⟨g, c, rfl, hmc, hb⟩
  · by_cases h0 : n = 0
    · subst h0
      go_enter Tryz.func78, Tryz.ntmps78
      go_wp2
      go_ret
      exact ⟨_, F, rfl, ⟨.inl ⟨rfl, rfl⟩, Fr.refl _ _, fun k hk => .inl hk⟩, Fr.refl _ _, .inl ⟨rfl, rfl, rfl⟩⟩
    · by_cases h1 : n = 1
      · subst h1
        have mk1 := mk .i64 .i64 1 1 (by omega) (by omega) (by omega)
        go_enter Tryz.func78, Tryz.ntmps78
        go_wp2
        go_ret
        have hB := Blk.made (K := .u64) (T := TW) w 1 (by rw [LL_eq]; omega) BB_pos
        exact ⟨_, _, rfl, ⟨.inr ⟨_, 1, rfl, by omega, hB⟩, (Fr.refl _ _).alloc _, fun k hk => .inr (by simp [Value.ownBlock] at hk; omega)⟩, (Fr.refl _ _).alloc _, .inr ⟨_, rfl, Nat.le_refl _⟩⟩
      · have mk1 := mk .i64 .i64 n (n + 4) (by omega) (by omega) (by omega)
        have e1 : (n : Int).toNat = n := by omega
        have e2 : ((n : Int) + 4).toNat = n + 4 := by omega
        rw [e1, e2] at mk1
        clear e1 e2
        have hb1 : ((n : Int) == 1) = false := by simp; omega
        have hgt : 0 < n := by omega
        clear h0 h1 mk
        go_enter Tryz.func78, Tryz.ntmps78
        go_wp2
        go_ret
        have hB := Blk.made (K := .u64) (T := TW) w (n + 4) (by rw [LL_eq]; omega) BB_pos
        exact ⟨_, _, rfl, ⟨.inr ⟨_, n + 4, rfl, by omega, hB⟩, (Fr.refl _ _).alloc _, fun k hk => .inr (by simp [Value.ownBlock] at hk; omega)⟩, (Fr.refl _ _).alloc _, .inr ⟨_, rfl, Nat.le_refl _⟩⟩
  · by_cases hnc : n ≤ c
    · go_enter Tryz.func78, Tryz.ntmps78
      go_wp2
      go_ret
      exact ⟨_, F, rfl, ⟨.inr ⟨g, c, rfl, hnc, hb⟩, Fr.refl _ _, fun k hk => .inl hk⟩, Fr.refl _ _, .inl ⟨rfl, rfl, rfl⟩⟩
    · by_cases h1 : n = 1
      · subst h1
        have mk1 := mk .i64 .i64 1 1 (by omega) (by omega) (by omega)
        go_enter Tryz.func78, Tryz.ntmps78
        go_wp2
        go_ret
        have hB := Blk.made (K := .u64) (T := TW) w 1 (by rw [LL_eq]; omega) BB_pos
        exact ⟨_, _, rfl, ⟨.inr ⟨_, 1, rfl, by omega, hB⟩, (Fr.refl _ _).alloc _, fun k hk => .inr (by simp [Value.ownBlock] at hk; omega)⟩, (Fr.refl _ _).alloc _, .inr ⟨_, rfl, Nat.le_refl _⟩⟩
      · have mk1 := mk .i64 .i64 n (n + 4) (by omega) (by omega) (by omega)
        have e1 : (n : Int).toNat = n := by omega
        have e2 : ((n : Int) + 4).toNat = n + 4 := by omega
        rw [e1, e2] at mk1
        clear e1 e2
        have hb1 : ((n : Int) == 1) = false := by simp; omega
        clear h1 mk
        go_enter Tryz.func78, Tryz.ntmps78
        go_wp2
        go_ret
        have hB := Blk.made (K := .u64) (T := TW) w (n + 4) (by rw [LL_eq]; omega) BB_pos
        exact ⟨_, _, rfl, ⟨.inr ⟨_, n + 4, rfl, by omega, hB⟩, (Fr.refl _ _).alloc _, fun k hk => .inr (by simp [Value.ownBlock] at hk; omega)⟩, (Fr.refl _ _).alloc _, .inr ⟨_, rfl, Nat.le_refl _⟩⟩
end Go.Proofs.YtkholmbfeghhpaaGreatDoor
