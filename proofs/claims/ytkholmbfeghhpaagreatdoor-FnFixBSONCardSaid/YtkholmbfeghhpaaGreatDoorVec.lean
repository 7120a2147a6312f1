/- Loops over rows of words: products and sums, word by word. Conditions: the rows lie in memory, and what is written does not overlap what is still to be read. -/
import Derived.Test.YtkholmbfeghhpaaGreatDoorMem
import Derived.Test.YtkholmbfeghhpaaGreatDoorMul
namespace Go.Proofs.YtkholmbfeghhpaaGreatDoor
open Go.RowKit

theorem mulAddWWW_g (x y c : Nat) (hx : x < 18446744073709551616) (hy : y < 18446744073709551616) (hc : c < 18446744073709551616) (w : World) :
    Calls Tryz.prog 251 #[.int .u64 x, .int .u64 y, .int .u64 c] w fun e w' =>
      e = .returned (.tuple #[.int .u64 (((x * y + c) / 18446744073709551616 : Nat) : Int), .int .u64 (((x * y + c) % 18446744073709551616 : Nat) : Int)]) ∧ w = w' := by
  have hb : x * y ≤ 18446744073709551615 * 18446744073709551615 := Nat.mul_le_mul (by omega) (by omega)
  generalize hp : x * y = p at *
  have M := bits_Mul x y hx hy
  rw [hp] at M
  have HP := Lib.hid hp
  clear hp
  go_enter Tryz.func251, Tryz.ntmps251
  go_wp2_with (first | (go_at_call 200; refine (M _).mono ?_; rintro e w' ⟨rfl, rfl⟩) | (go_at_call 231; refine (bits_Add _ _ _ (by omega) (by omega) (by omega) (by omega) _).mono ?_; rintro e w' ⟨rfl, rfl⟩))
  go_ret2
  exact ⟨ret2 (by omega) (by omega), rfl⟩

theorem cdiv (p : Nat) : (p : Int) / 18446744073709551616 = ((p / 18446744073709551616 : Nat) : Int) := by omega
theorem hi_lt (x y c : Nat) (hx : x < 18446744073709551616) (hy : y < 18446744073709551616) (hc : c < 18446744073709551616) : (x * y + c) / 18446744073709551616 < 18446744073709551616 := by
  have hb : x * y ≤ 18446744073709551615 * 18446744073709551615 := Nat.mul_le_mul (by omega) (by omega)
  omega
theorem mul_step {G X : Nat → Nat} {oz k cc xk y r : Nat} (h : Vb BB G oz k + BB ^ k * cc = Vb BB X 0 k * y + r) (hx : xk = X k) :
    Vb BB (upd G (oz + k) ((xk * y + cc) % 18446744073709551616)) oz (k + 1) + BB ^ (k + 1) * ((xk * y + cc) / 18446744073709551616) = Vb BB X 0 (k + 1) * y + r := by
  rw [V_upd_succ, V_succ, Nat.zero_add, ← hx, Nat.pow_succ, Nat.add_mul, Nat.mul_assoc (BB ^ k) BB, Nat.add_assoc, ← Nat.mul_add]
  have e := split_word (xk * y + cc)
  rw [BB_eq] at e ⊢
  rw [e, Nat.mul_add, Nat.mul_assoc]
  rw [BB_eq] at h
  omega

/-- n words are read at a place of a block. -/
structure Words (w : World) (g o n : Nat) (X : Nat → Nat) : Prop where
  cell : ∀ j, j < n → w.cell? ⟨g, o + j, none⟩ = some (.int .u64 (X j : Nat))
  word : ∀ j, j < n → X j < BB
theorem Words.of_blk {w : World} {g len : Nat} {F : Nat → Nat} (h : BlkW w g len F) {o n : Nat} (hn : o + n ≤ len) : Words w g o n (fun j => F (o + j)) :=
  ⟨fun j hj => h.cell (by omega), fun j hj => h.word _ (by omega)⟩
theorem Words.lt {w : World} {g o n : Nat} {X : Nat → Nat} (h : Words w g o n X) (hn : 0 < n) : g < w.heap.size := World.block_lt_of_cell? w _ (h.cell 0 hn)
theorem Words.fr {S : Nat → Prop} {w w' : World} {g o n : Nat} {X : Nat → Nat} (h : Words w g o n X) (f : Fr S w w') (hn : ¬ S g) : Words w' g o n X :=
  ⟨fun j hj => by rw [f.cell (World.block_lt_of_cell? w _ (h.cell j hj)) hn]; exact h.cell j hj, h.word⟩
theorem Rd.words {w : World} {g o n c : Nat} {X : Nat → Nat} (h : RdW w (.slice (some ⟨g, o, none⟩) n c) n X) : Words w g o n X := by
  rcases h with ⟨h, _⟩ | ⟨g', o', c', cs, he, h1, h2, h3, hc, hr⟩
  · cases h
  · simp only [Value.slice.injEq, Option.some.injEq, Addr.mk.injEq] at he
    obtain ⟨⟨rfl, rfl, _⟩, _, rfl⟩ := he
    exact ⟨fun j hj => cell_of_heap hc (hr j hj).1, fun j hj => (hr j hj).2⟩

set_option maxHeartbeats 1000000 in
/-- z = x * y + r, over n words: z and x either begin at one place, or lie in two blocks. -/
theorem mulAddVWW_g (n gz oz lz cz gx ox cx y r : Nat) (F X : Nat → Nat) (w : World) (hz : BlkW w gz lz F) (hx : Words w gx ox n X) (hzn : oz + n ≤ lz)
    (ha : gx = gz → ox = oz) (hy : y < BB) (hr : r < BB) :
    Calls Tryz.prog 236 #[.slice (some ⟨gz, oz, none⟩) n cz, .slice (some ⟨gx, ox, none⟩) n cx, .int .u64 y, .int .u64 r] w fun e w' =>
      ∃ (c : Nat) (G : Nat → Nat), e = .returned (.int .u64 c) ∧ c < BB ∧ BlkW w' gz lz G ∧ (∀ j, j < oz ∨ oz + n ≤ j → G j = F j) ∧ Vb BB G oz n + BB ^ n * c = Vb BB X 0 n * y + r ∧ Fr (· = gz) w w' := by
  have hroom := hz.room
  rw [LL_eq] at hroom
  rw [BB_eq] at hy hr
  go_enter Tryz.func236, Tryz.ntmps236
  go_wp2
  go_loopw [8, 19] (fun c i wr => ∃ (k cc : Nat) (G : Nat → Nat), k ≤ n ∧ i = .int .i64 k ∧ c = .int .u64 cc ∧ cc < 18446744073709551616 ∧ BlkW wr gz lz G ∧ Hid (∀ j, j < oz ∨ oz + k ≤ j → G j = F j) ∧ Hid (Vb BB G oz k + BB ^ k * cc = Vb BB X 0 k * y + r) ∧ Fr (· = gz) w wr)
    (fun _ i _ => n - (intOf i).toNat)
  case atStart => exact ⟨0, r, F, Nat.zero_le _, rfl, rfl, hr, hz, fun _ _ => rfl, by simp [Vb, Hid], Fr.refl _ _⟩
  case round =>
    obtain ⟨k, cc, G, hk, rfl, rfl, hcc, hG, hold, hV, hfr⟩ := hrel
    by_cases hlt : k < n
    · have hXk : ∃ xk : Nat, Hid (xk = X k) ∧ xk < 18446744073709551616 ∧ wr.cell? ⟨gx, ox + k, none⟩ = some (.int .u64 xk) := by
        refine ⟨X k, rfl, hx.word _ (by omega), ?_⟩
        by_cases e : gx = gz
        · subst e
          obtain rfl := ha rfl
          rw [hG.cell (by omega), hold.out _ (by omega), ← hz.cell (by omega), hx.cell _ (by omega)]
        · exact (hx.fr hfr e).cell _ (by omega)
      obtain ⟨xk, hxk, hxlt, hcell⟩ := hXk
      have hzc : wr.cell? ⟨gz, oz + k, none⟩ = some (.int .u64 (G (oz + k) : Nat)) := hG.cell (by omega)
      have hzf := hG.free (oz + k)
      go_wp2_with (go_at_call 251; refine (mulAddWWW_g xk y cc hxlt hy hcc _).mono ?_; rintro e w' ⟨rfl, rfl⟩)
      go_roundw
      case rel =>
        refine ⟨k + 1, (xk * y + cc) / 18446744073709551616, upd G (oz + k) ((xk * y + cc) % 18446744073709551616), by omega, by go_num, int_eq (cdiv _), ?_, hG.store (x := (xk * y + cc) % 18446744073709551616) (Nat.mod_lt _ BB_pos), fun j hj => by rw [upd_other _ _ _ _ (by omega)]; exact hold.out j (by omega), ?_, hfr.setCell _ _ (.inr rfl)⟩
        · exact hi_lt xk y cc hxlt hy hcc
        · exact mul_step hV.out hxk.out
      case measure => simp [intOf]; omega
    · go_wp2
      go_ret
      obtain rfl : k = n := by omega
      exact ⟨cc, G, rfl, hcc, hG, hold.out, hV.out, hfr⟩

theorem mulAddVWW (n gz oz lz cz gx ox cx y r : Nat) (F X : Nat → Nat) (w : World) (hz : BlkW w gz lz F) (hx : Words w gx ox n X) (hzn : oz + n ≤ lz)
    (ha : gx = gz → ox = oz) (hy : y < BB) (hr : r < BB) :
    Calls Tryz.prog 203 #[.slice (some ⟨gz, oz, none⟩) n cz, .slice (some ⟨gx, ox, none⟩) n cx, .int .u64 y, .int .u64 r] w fun e w' =>
      ∃ (c : Nat) (G : Nat → Nat), e = .returned (.int .u64 c) ∧ c < BB ∧ BlkW w' gz lz G ∧ (∀ j, j < oz ∨ oz + n ≤ j → G j = F j) ∧ Vb BB G oz n + BB ^ n * c = Vb BB X 0 n * y + r ∧ Fr (· = gz) w w' := by
  go_enter Tryz.func203, Tryz.ntmps203
  go_wp2_with fail
  refine (mulAddVWW_g n gz oz lz cz gx ox cx y r F X w hz hx hzn ha hy hr).mono ?_
  rintro e w1 ⟨c, G, rfl, h⟩
  go_wp2
  go_ret
  exact ⟨c, G, rfl, h⟩
end Go.Proofs.YtkholmbfeghhpaaGreatDoor
