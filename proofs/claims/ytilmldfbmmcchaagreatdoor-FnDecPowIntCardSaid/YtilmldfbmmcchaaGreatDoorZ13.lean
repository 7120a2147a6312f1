/- Rows of words shifted by less than a word. A row of words divided by a word; a copy of a natural number. A natural number copied; a natural number divided by a word. Whole numbers of any length: copies, amounts, signs turned. Whole numbers of any length: amounts, opposites, products, small values. Whole numbers of any length: what is asked of them. Conditions: each theorem bears its own. -/
import Derived.Laws.BitsAllLaws
import Derived.Test.YtilmldfbmmcchaaGreatDoorZ12
set_option linter.unusedVariables false
set_option linter.unusedSimpArgs false
namespace Go.Proofs.YtilmldfbmmcchaaGreatDoor
open Go.RowKit
theorem V_cons (b : Nat) (F : Nat → Nat) (o n : Nat) : Vb b F o (n + 1) = F o + b * Vb b F (o + 1) n := by
 rw [Nat.add_comm n 1, V_add, V_one, Nat.pow_one]
theorem pow64 (s h : Nat) (e : s + h = 64) : 2 ^ s * 2 ^ h = 18446744073709551616 := by rw [← Nat.pow_add, e]
theorem shl_mod (x s h : Nat) (e : s + h = 64) : x * 2 ^ s % 18446744073709551616 = 2 ^ s * (x % 2 ^ h) := by
 rw [← pow64 s h e, Nat.mul_comm x, Nat.mul_mod_mul_left]
theorem or_parts (x y s h : Nat) (e : s + h = 64) (hy : y < 18446744073709551616) :
  bits .or .u64 (IntKind.u64.wrap ((x : Int) * 2 ^ s)) ((y : Int) / 2 ^ h) = ((x * 2 ^ s % 18446744073709551616 + y / 2 ^ h : Nat) : Int) := by
 have e1 : ((x : Int) * 2 ^ s) = ((x * 2 ^ s : Nat) : Int) := by push_cast; rfl
 have e2 : (y : Int) / 2 ^ h = ((y / 2 ^ h : Nat) : Int) := by push_cast; rfl
 have e3 : y / 2 ^ h < 2 ^ s := by
  rw [Nat.div_lt_iff_lt_mul (Nat.pow_pos (by omega)), pow64 s h e]
  exact hy
 have e4 : y / 2 ^ h < 18446744073709551616 := Nat.lt_of_le_of_lt (Nat.div_le_self _ _) hy
 rw [e1, e2, MulW.wrapM, bits_or_u64_nat _ _ (Nat.mod_lt _ (by omega)) e4, shl_mod x s h e, Nat.two_pow_add_eq_or_of_lt e3]
theorem or_parts' (x y s h : Nat) (e : s + h = 64) (hy : y < 18446744073709551616) :
  bits .or .u64 ((y : Int) / 2 ^ h) (IntKind.u64.wrap ((x : Int) * 2 ^ s)) = ((x * 2 ^ s % 18446744073709551616 + y / 2 ^ h : Nat) : Int) := by
 have e1 : ((x : Int) * 2 ^ s) = ((x * 2 ^ s : Nat) : Int) := by push_cast; rfl
 have e2 : (y : Int) / 2 ^ h = ((y / 2 ^ h : Nat) : Int) := by push_cast; rfl
 have e3 : y / 2 ^ h < 2 ^ s := by
  rw [Nat.div_lt_iff_lt_mul (Nat.pow_pos (by omega)), pow64 s h e]
  exact hy
 have e4 : y / 2 ^ h < 18446744073709551616 := Nat.lt_of_le_of_lt (Nat.div_le_self _ _) hy
 rw [e1, e2, MulW.wrapM, bits_or_u64_nat _ _ e4 (Nat.mod_lt _ (by omega)), shl_mod x s h e, Nat.or_comm, Nat.two_pow_add_eq_or_of_lt e3]
theorem and63 (s : Nat) (h : s ≤ 63) : bits .and .u64 (s : Int) 63 = s := by
 have h1 := bits_and_u64_nat s 63 (by omega) (by omega)
 have h2 : s &&& 63 = s := by
  rw [show (63 : Nat) = 2 ^ 6 - 1 from rfl, Nat.and_two_pow_sub_one_eq_mod]; exact Nat.mod_eq_of_lt (by omega)
 rw [h2] at h1
 exact h1
theorem parts_lt (x y s h : Nat) (e : s + h = 64) (hy : y < 18446744073709551616) : x * 2 ^ s % 18446744073709551616 + y / 2 ^ h < 18446744073709551616 := by
 have e3 : y / 2 ^ h < 2 ^ s := by
  rw [Nat.div_lt_iff_lt_mul (Nat.pow_pos (by omega)), pow64 s h e]
  exact hy
 rw [shl_mod x s h e]
 have h1 : x % 2 ^ h + 1 ≤ 2 ^ h := Nat.mod_lt _ (Nat.pow_pos (by omega))
 have h2 := Nat.mul_le_mul_left (2 ^ s) h1
 rw [Nat.mul_add, pow64 s h e] at h2
 omega
theorem lsh_step {G X : Nat → Nat} {oz k m c s h : Nat} (e : s + h = 64) (hv : Vb BB G (oz + (k + 1) + 1) m + BB ^ m * c = Vb BB X (k + 1 + 1) m * 2 ^ s + X (k + 1) / 2 ^ h) :
  Vb BB (upd G (oz + (k + 1)) (X (k + 1) * 2 ^ s % 18446744073709551616 + X k / 2 ^ h)) (oz + k + 1) (m + 1) + BB ^ (m + 1) * c = Vb BB X (k + 1) (m + 1) * 2 ^ s + X k / 2 ^ h := by
 rw [V_cons (F := X), V_cons, show oz + k + 1 = oz + (k + 1) by omega, upd_same, V_congr (F := upd G (oz + (k + 1)) (X (k + 1) * 2 ^ s % 18446744073709551616 + X k / 2 ^ h)) (G := G) (o' := oz + (k + 1) + 1) (fun j hj => upd_other _ _ _ _ (by omega))]
 have e1 : X (k + 1) * 2 ^ s / 18446744073709551616 = X (k + 1) / 2 ^ h := by
  rw [← pow64 s h e, Nat.mul_comm (2 ^ s), Nat.mul_div_mul_right _ _ (Nat.pow_pos (by omega))]
 have e2 := Nat.mod_add_div (X (k + 1) * 2 ^ s) 18446744073709551616
 rw [e1] at e2
 have e3 : BB * (Vb BB G (oz + (k + 1) + 1) m + BB ^ m * c) = BB * (Vb BB X (k + 1 + 1) m * 2 ^ s + X (k + 1) / 2 ^ h) := by rw [hv]
 rw [Nat.mul_add, Nat.mul_add, ← Nat.mul_assoc BB (BB ^ m), ← Nat.mul_assoc BB (Vb BB X (k + 1 + 1) m)] at e3
 rw [Nat.pow_succ, Nat.mul_comm (BB ^ m) BB, Nat.add_mul]
 have e4 : BB * (X (k + 1) / 2 ^ h) = 18446744073709551616 * (X (k + 1) / 2 ^ h) := by rw [BB_eq]
 omega
theorem lsh_end {G X : Nat → Nat} {oz m c s h : Nat} (e : s + h = 64) (hv : Vb BB G (oz + 0 + 1) m + BB ^ m * c = Vb BB X (0 + 1) m * 2 ^ s + X 0 / 2 ^ h) :
  Vb BB (upd G oz (X 0 * 2 ^ s % 18446744073709551616)) oz (m + 1) + BB ^ (m + 1) * c = Vb BB X 0 (m + 1) * 2 ^ s := by
 rw [V_cons (F := X), V_cons, upd_same, V_congr (F := upd G oz (X 0 * 2 ^ s % 18446744073709551616)) (G := G) (o' := oz + 0 + 1) (fun j hj => upd_other _ _ _ _ (by omega))]
 have e1 : X 0 * 2 ^ s / 18446744073709551616 = X 0 / 2 ^ h := by
  rw [← pow64 s h e, Nat.mul_comm (2 ^ s), Nat.mul_div_mul_right _ _ (Nat.pow_pos (by omega))]
 have e2 := Nat.mod_add_div (X 0 * 2 ^ s) 18446744073709551616
 rw [e1] at e2
 have e3 : BB * (Vb BB G (oz + 0 + 1) m + BB ^ m * c) = BB * (Vb BB X (0 + 1) m * 2 ^ s + X 0 / 2 ^ h) := by rw [hv]
 rw [Nat.mul_add, Nat.mul_add, ← Nat.mul_assoc BB (BB ^ m), ← Nat.mul_assoc BB (Vb BB X (0 + 1) m)] at e3
 rw [Nat.pow_succ, Nat.mul_comm (BB ^ m) BB, Nat.add_mul]
 have e4 : BB * (X 0 / 2 ^ h) = 18446744073709551616 * (X 0 / 2 ^ h) := by rw [BB_eq]
 omega
set_option maxHeartbeats 2000000 in
theorem lshVU_gs (n gz oz sz lz cz gx ox cx s : Nat) (F X : Nat → Nat) (w : World) (hz : Bs w gz sz lz F) (hx : Words w gx ox n X) (hzn : oz + n ≤ lz) (ha : gx = gz → ox = oz) (hn : 0 < n) (hs0 : 0 < s) (hs : s ≤ 63) :
  Calls Tryz.prog 204 #[.slice (some ⟨gz, oz, none⟩) n cz, .slice (some ⟨gx, ox, none⟩) n cx, .int .u64 s] w fun e w' =>
   ∃ (c : Nat) (G : Nat → Nat), e = .returned (.int .u64 c) ∧ c < 2 ^ s ∧ Bs w' gz sz lz G ∧ (∀ j, j < oz ∨ oz + n ≤ j → G j = F j) ∧ Vb BB G oz n + BB ^ n * c = Vb BB X 0 n * 2 ^ s ∧ Fr (· = gz) w w' := by
 have hroom := hz.room
 rw [LL_eq] at hroom
 obtain ⟨h, hh⟩ : ∃ h, Hid (s + h = 64) := ⟨64 - s, Lib.hid (by omega)⟩
 have hh0 : 0 < h := by have := hh.out; omega
 have hh63 : h ≤ 63 := by have := hh.out; omega
 obtain ⟨m, hm⟩ : ∃ m, Hid (n = m + 1) := ⟨n - 1, Lib.hid (by omega)⟩
 have b0 : ((n : Int) != (n : Int)) = false := by simp
 have b1 : ((s : Int) == 0) = false := by simp; omega
 have b2 : ((n : Int) == 0) = false := by simp; omega
 have f1 := and63 s hs
 have f2 : IntKind.u64.wrap (64 - (s : Int)) = h := by have := hh.out; rw [IntKind.wrap_u64]; omega
 have f3 := and63 h hh63
 have f4 : (n : Int) - 1 = m := by have := hm.out; omega
 obtain ⟨xm, hxm⟩ : ∃ xm, Hid (xm = X m) := ⟨_, Lib.hid rfl⟩
 have hxmB : xm < 18446744073709551616 := by rw [hxm.out]; exact hx.word _ (by have := hm.out; omega)
 have hxc0 : w.cell? ⟨gx, ox + m, none⟩ = some (.int .u64 xm) := by rw [hx.cell m (by have := hm.out; omega), ← hxm.out]
 obtain ⟨c, hc⟩ : ∃ c, Hid (c = xm / 2 ^ h) := ⟨_, Lib.hid rfl⟩
 have fc : (xm : Int) / 2 ^ h = c := by rw [hc.out]; push_cast; rfl
 have hcB : Hid (c < 2 ^ s) := Lib.hid (by rw [hc.out, Nat.div_lt_iff_lt_mul (Nat.pow_pos (by omega)), pow64 s h hh.out]; exact hxmB)
 have hmn : m < n := by have := hm.out; omega
 go_enter Tryz.func204, Tryz.ntmps204
 go_wp2
 go_loopw [8] (fun i wr => ∃ (k : Nat) (G : Nat → Nat), k ≤ m ∧ i = .int .i64 k ∧ Bs wr gz sz lz G ∧ Hid (∀ j, j ≤ oz + k ∨ oz + n ≤ j → G j = F j) ∧ Hid (Vb BB G (oz + k + 1) (m - k) + BB ^ (m - k) * c = Vb BB X (k + 1) (m - k) * 2 ^ s + X k / 2 ^ h) ∧ Fr (· = gz) w wr)
  (fun i _ => (intOf i).toNat)
 case atStart => exact ⟨m, F, Nat.le_refl _, rfl, hz, fun _ _ => rfl, by show _ = _; rw [Nat.sub_self, V_zero, V_zero, hc.out, hxm.out]; simp, Fr.refl _ _⟩
 case round =>
  obtain ⟨k, G, hk, rfl, hG, hold, hV, hfr⟩ := hrel
  have hread : ∀ j, j ≤ k → wr.cell? ⟨gx, ox + j, none⟩ = some (.int .u64 (X j)) := by
   intro j hj
   by_cases e : gx = gz
   ·subst e
    obtain rfl := ha rfl
    rw [hG.cell (by omega), hold.out _ (by omega), ← hz.cell (by omega), hx.cell _ (by omega)]
   ·exact (hx.fr hfr e).cell _ (by omega)
  rcases Nat.eq_zero_or_pos k with hk0 | hk0
  ·subst hk0
   have g1 : decide ((0 : Int) < ((0 : Nat) : Int)) = false := by simp
   obtain ⟨x0, hx0⟩ : ∃ x0, Hid (x0 = X 0) := ⟨_, Lib.hid rfl⟩
   have xc := hread 0 (Nat.le_refl _)
   rw [← hx0.out, Nat.add_zero] at xc
   have zc : wr.cell? ⟨gz, oz, none⟩ = some (.int .u64 (G oz : Nat)) := hG.cell (by omega)
   have zf := hG.free oz
   obtain ⟨z0, hz0⟩ : ∃ z0, Hid (z0 = x0 * 2 ^ s % 18446744073709551616) := ⟨_, Lib.hid rfl⟩
   have ez : IntKind.u64.wrap ((x0 : Int) * 2 ^ s) = z0 := by rw [hz0.out, show ((x0 : Int) * 2 ^ s) = ((x0 * 2 ^ s : Nat) : Int) by push_cast; rfl]; exact MulW.wrapM _
   have hzB : z0 < BB := by rw [hz0.out]; exact Nat.mod_lt _ BB_pos
   clear hread
   go_wp2
   go_ret
   refine ⟨c, upd G oz z0, rfl, hcB.out, hG.store hzB, fun j hj => by rw [upd_other _ _ _ _ (by omega)]; exact hold.out j (by omega), ?_, hfr.setCell _ _ (.inr rfl)⟩
   have := lsh_end hh.out hV.out
   rw [Nat.sub_zero, ← hx0.out, ← hz0.out] at this
   rw [hm.out]
   exact this
  ·obtain ⟨k, rfl⟩ : ∃ j, k = j + 1 := ⟨k - 1, by omega⟩
   have g1 : decide ((0 : Int) < (((k + 1 : Nat)) : Int)) = true := decide_eq_true (by omega)
   have e1 : ((k + 1 : Nat) : Int) - 1 = k := by omega
   obtain ⟨x1, hx1⟩ : ∃ x1, Hid (x1 = X (k + 1)) := ⟨_, Lib.hid rfl⟩
   obtain ⟨x0, hx0⟩ : ∃ x0, Hid (x0 = X k) := ⟨_, Lib.hid rfl⟩
   have hx0B : x0 < 18446744073709551616 := by rw [hx0.out]; exact hx.word _ (by omega)
   have xc1 := hread (k + 1) (Nat.le_refl _)
   have xc0 := hread k (by omega)
   rw [← hx1.out] at xc1
   rw [← hx0.out] at xc0
   have zc : wr.cell? ⟨gz, oz + (k + 1), none⟩ = some (.int .u64 (G (oz + (k + 1)) : Nat)) := hG.cell (by omega)
   have zf := hG.free (oz + (k + 1))
   obtain ⟨z0, hz0⟩ : ∃ z0, Hid (z0 = x1 * 2 ^ s % 18446744073709551616 + x0 / 2 ^ h) := ⟨_, Lib.hid rfl⟩
   have ez := or_parts x1 x0 s h hh.out hx0B
   have hzB : z0 < BB := by rw [hz0.out]; exact parts_lt x1 x0 s h hh.out hx0B
   rw [← hz0.out] at ez
   clear hread
   go_wp2
   go_region
   go_wp2
   go_roundw
   case rel =>
    refine ⟨k, upd G (oz + (k + 1)) z0, by omega, by go_num, (hG.drewN _).store hzB, fun j hj => by rw [upd_other _ _ _ _ (by omega)]; exact hold.out j (by omega), ?_, (hfr.drewN _).setCell _ _ (.inr rfl)⟩
    have hv := hV.out
    obtain ⟨d, hd⟩ : ∃ d, d = m - (k + 1) := ⟨_, rfl⟩
    rw [← hd] at hv
    have := lsh_step hh.out hv
    rw [← hx1.out, ← hx0.out, ← hz0.out, show d + 1 = m - k by omega] at this
    rw [← hx0.out]
    exact this
   case measure => simp [intOf]
theorem lshVU_s (n gz oz sz lz cz gx ox cx s : Nat) (F X : Nat → Nat) (w : World) (hz : Bs w gz sz lz F) (hx : Words w gx ox n X) (hzn : oz + n ≤ lz) (ha : gx = gz → ox = oz) (hn : 0 < n) (hs0 : 0 < s) (hs : s ≤ 63) :
  Calls Tryz.prog 150 #[.slice (some ⟨gz, oz, none⟩) n cz, .slice (some ⟨gx, ox, none⟩) n cx, .int .u64 s] w fun e w' =>
   ∃ (c : Nat) (G : Nat → Nat), e = .returned (.int .u64 c) ∧ c < 2 ^ s ∧ Bs w' gz sz lz G ∧ (∀ j, j < oz ∨ oz + n ≤ j → G j = F j) ∧ Vb BB G oz n + BB ^ n * c = Vb BB X 0 n * 2 ^ s ∧ Fr (· = gz) w w' := by
 go_enter Tryz.func150, Tryz.ntmps150
 go_wp2_with fail
 refine (lshVU_gs n gz oz sz lz cz gx ox cx s F X w hz hx hzn ha hn hs0 hs).mono ?_
 rintro e w1 ⟨c, G, rfl, h⟩
 go_wp2
 go_ret
 exact ⟨c, G, rfl, h⟩
theorem lshVU (n gz oz lz cz gx ox cx s : Nat) (F X : Nat → Nat) (w : World) (hz : BlkW w gz lz F) (hx : Words w gx ox n X) (hzn : oz + n ≤ lz) (ha : gx = gz → ox = oz) (hn : 0 < n) (hs0 : 0 < s) (hs : s ≤ 63) :
  Calls Tryz.prog 150 #[.slice (some ⟨gz, oz, none⟩) n cz, .slice (some ⟨gx, ox, none⟩) n cx, .int .u64 s] w fun e w' =>
   ∃ (c : Nat) (G : Nat → Nat), e = .returned (.int .u64 c) ∧ c < 2 ^ s ∧ BlkW w' gz lz G ∧ (∀ j, j < oz ∨ oz + n ≤ j → G j = F j) ∧ Vb BB G oz n + BB ^ n * c = Vb BB X 0 n * 2 ^ s ∧ Fr (· = gz) w w' := by
 refine (lshVU_s n gz oz lz lz cz gx ox cx s F X w hz.bs hx hzn ha hn hs0 hs).mono ?_
 rintro e w1 ⟨c, G, he, h1, h2, h⟩
 exact ⟨c, G, he, h1, h2.blk, h⟩
theorem rsh_step {G X : Nat → Nat} {oz m s h : Nat} (e : s + h = 64) (hv : Vb BB G oz m * 2 ^ s + X 0 % 2 ^ s = Vb BB X 0 m + X m % 2 ^ s * BB ^ m) :
  Vb BB (upd G (oz + m) (X (m + 1) * 2 ^ h % 18446744073709551616 + X m / 2 ^ s)) oz (m + 1) * 2 ^ s + X 0 % 2 ^ s = Vb BB X 0 (m + 1) + X (m + 1) % 2 ^ s * BB ^ (m + 1) := by
 rw [V_upd_succ, V_succ, Nat.zero_add, shl_mod (X (m + 1)) h s (by omega), Nat.pow_succ]
 have e2 : (2 ^ h * (X (m + 1) % 2 ^ s) + X m / 2 ^ s) * 2 ^ s + X m % 2 ^ s = BB * (X (m + 1) % 2 ^ s) + X m := by
  have e4 : 2 ^ h * (X (m + 1) % 2 ^ s) * 2 ^ s = BB * (X (m + 1) % 2 ^ s) := by
   rw [Nat.mul_right_comm, Nat.mul_comm (2 ^ h), pow64 s h e, BB_eq]
  rw [Nat.add_mul, e4, Nat.add_assoc, Nat.mul_comm (X m / 2 ^ s), Nat.div_add_mod]
 have e3 : BB ^ m * ((2 ^ h * (X (m + 1) % 2 ^ s) + X m / 2 ^ s) * 2 ^ s + X m % 2 ^ s) = BB ^ m * (BB * (X (m + 1) % 2 ^ s) + X m) := by rw [e2]
 generalize 2 ^ h * (X (m + 1) % 2 ^ s) + X m / 2 ^ s = z at e3 ⊢
 generalize X (m + 1) % 2 ^ s = a at e3 ⊢
 generalize X m % 2 ^ s = b at e3 hv
 grind
theorem rsh_end {G X : Nat → Nat} {oz m s : Nat} (hv : Vb BB G oz m * 2 ^ s + X 0 % 2 ^ s = Vb BB X 0 m + X m % 2 ^ s * BB ^ m) :
  Vb BB (upd G (oz + m) (X m / 2 ^ s)) oz (m + 1) * 2 ^ s + X 0 % 2 ^ s = Vb BB X 0 (m + 1) := by
 rw [V_upd_succ, V_succ, Nat.zero_add]
 have e2 : X m / 2 ^ s * 2 ^ s + X m % 2 ^ s = X m := Nat.div_add_mod' _ _
 have e3 : BB ^ m * (X m / 2 ^ s * 2 ^ s + X m % 2 ^ s) = BB ^ m * X m := by rw [e2]
 generalize X m / 2 ^ s = z at e3 ⊢
 generalize X m % 2 ^ s = b at e3 hv
 grind
set_option maxHeartbeats 2000000 in
theorem rshVU_g (n gz oz lz cz gx ox cx s : Nat) (F X : Nat → Nat) (w : World) (hz : BlkW w gz lz F) (hx : Words w gx ox n X) (hzn : oz + n ≤ lz) (ha : gx = gz → ox = oz) (hn : 0 < n) (hs0 : 0 < s) (hs : s ≤ 63) :
  Calls Tryz.prog 247 #[.slice (some ⟨gz, oz, none⟩) n cz, .slice (some ⟨gx, ox, none⟩) n cx, .int .u64 s] w fun e w' =>
   ∃ (c : Int) (G : Nat → Nat), e = .returned (.int .u64 c) ∧ BlkW w' gz lz G ∧ (∀ j, j < oz ∨ oz + n ≤ j → G j = F j) ∧ Vb BB G oz n * 2 ^ s + X 0 % 2 ^ s = Vb BB X 0 n ∧ Fr (· = gz) w w' := by
 have hroom := hz.room
 rw [LL_eq] at hroom
 obtain ⟨h, hh⟩ : ∃ h, Hid (s + h = 64) := ⟨64 - s, Lib.hid (by omega)⟩
 have hh0 : 0 < h := by have := hh.out; omega
 have hh63 : h ≤ 63 := by have := hh.out; omega
 have b0 : ((n : Int) != (n : Int)) = false := by simp
 have b1 : ((s : Int) == 0) = false := by simp; omega
 have b2 : ((n : Int) == 0) = false := by simp; omega
 have f1 := and63 s hs
 have f2 : IntKind.u64.wrap (64 - (s : Int)) = h := by have := hh.out; rw [IntKind.wrap_u64]; omega
 have f3 := and63 h hh63
 obtain ⟨x0, hx0⟩ : ∃ x0, Hid (x0 = X 0) := ⟨_, Lib.hid rfl⟩
 have hxc0 : w.cell? ⟨gx, ox, none⟩ = some (.int .u64 x0) := by have := hx.cell 0 hn; rw [← hx0.out, Nat.add_zero] at this; exact this
 obtain ⟨c, hc⟩ : ∃ c : Int, c = IntKind.u64.wrap ((x0 : Int) * 2 ^ h) := ⟨_, rfl⟩
 have fc := hc.symm
 clear hc
 go_enter Tryz.func247, Tryz.ntmps247
 go_wp2
 go_loopw [8] (fun i wr => ∃ (m : Nat) (G : Nat → Nat), m + 1 ≤ n ∧ i = .int .i64 ((m + 1 : Nat) : Int) ∧ BlkW wr gz lz G ∧ Hid (∀ j, j < oz ∨ oz + m ≤ j → G j = F j) ∧ Hid (Vb BB G oz m * 2 ^ s + X 0 % 2 ^ s = Vb BB X 0 m + X m % 2 ^ s * BB ^ m) ∧ Fr (· = gz) w wr)
  (fun i _ => n - (intOf i).toNat)
 case atStart => exact ⟨0, F, by omega, rfl, hz, fun _ _ => rfl, by show _ = _; rw [V_zero, V_zero]; simp, Fr.refl _ _⟩
 case round =>
  obtain ⟨m, G, hk, rfl, hG, hold, hV, hfr⟩ := hrel
  have hread : ∀ j, m ≤ j → j < n → wr.cell? ⟨gx, ox + j, none⟩ = some (.int .u64 (X j)) := by
   intro j hj hjn
   by_cases e : gx = gz
   ·subst e
    obtain rfl := ha rfl
    rw [hG.cell (by omega), hold.out _ (by omega), ← hz.cell (by omega), hx.cell _ (by omega)]
   ·exact (hx.fr hfr e).cell _ (by omega)
  obtain ⟨x0, hx0⟩ : ∃ x0, Hid (x0 = X m) := ⟨_, Lib.hid rfl⟩
  have hx0B : x0 < 18446744073709551616 := by rw [hx0.out]; exact hx.word _ (by omega)
  have xc0 := hread m (Nat.le_refl _) (by omega)
  rw [← hx0.out] at xc0
  have zc : wr.cell? ⟨gz, oz + m, none⟩ = some (.int .u64 (G (oz + m) : Nat)) := hG.cell (by omega)
  have zf := hG.free (oz + m)
  rcases Nat.lt_or_ge (m + 1) n with hlt | hge
  ·have g1 : decide ((((m + 1 : Nat)) : Int) < (n : Int)) = true := decide_eq_true (by omega)
   have e1 : ((m + 1 : Nat) : Int) - 1 = m := by omega
   obtain ⟨x1, hx1⟩ : ∃ x1, Hid (x1 = X (m + 1)) := ⟨_, Lib.hid rfl⟩
   have xc1 := hread (m + 1) (by omega) hlt
   rw [← hx1.out] at xc1
   obtain ⟨z0, hz0⟩ : ∃ z0, Hid (z0 = x1 * 2 ^ h % 18446744073709551616 + x0 / 2 ^ s) := ⟨_, Lib.hid rfl⟩
   have ez := or_parts' x1 x0 h s (by have := hh.out; omega) hx0B
   have hzB : z0 < BB := by rw [hz0.out]; exact parts_lt x1 x0 h s (by have := hh.out; omega) hx0B
   rw [← hz0.out] at ez
   clear hread
   go_wp2
   go_region
   go_wp2
   go_roundw
   case rel =>
    refine ⟨m + 1, upd G (oz + m) z0, by omega, by go_num, (hG.drewN _).store hzB, fun j hj => by rw [upd_other _ _ _ _ (by omega)]; exact hold.out j (by omega), ?_, (hfr.drewN _).setCell _ _ (.inr rfl)⟩
    have := rsh_step hh.out hV.out
    rw [← hx1.out, ← hx0.out, ← hz0.out] at this
    rw [← hx1.out]
    exact this
   case measure => simp [intOf]; omega
  ·obtain rfl : n = m + 1 := by omega
   have g1 : decide ((((m + 1 : Nat)) : Int) < ((m + 1 : Nat) : Int)) = false := by simp
   have e1 : ((m + 1 : Nat) : Int) - 1 = m := by omega
   obtain ⟨z0, hz0⟩ : ∃ z0, Hid (z0 = x0 / 2 ^ s) := ⟨_, Lib.hid rfl⟩
   have ez : (x0 : Int) / 2 ^ s = z0 := by rw [hz0.out]; push_cast; rfl
   have hzB : z0 < BB := by rw [hz0.out]; exact Nat.lt_of_le_of_lt (Nat.div_le_self _ _) hx0B
   clear hread
   go_wp2
   go_ret
   refine ⟨c, upd G (oz + m) z0, rfl, hG.store hzB, fun j hj => by rw [upd_other _ _ _ _ (by omega)]; exact hold.out j (by omega), ?_, hfr.setCell _ _ (.inr rfl)⟩
   have := rsh_end hV.out
   rw [← hx0.out, ← hz0.out] at this
   exact this
theorem rshVU (n gz oz lz cz gx ox cx s : Nat) (F X : Nat → Nat) (w : World) (hz : BlkW w gz lz F) (hx : Words w gx ox n X) (hzn : oz + n ≤ lz) (ha : gx = gz → ox = oz) (hn : 0 < n) (hs0 : 0 < s) (hs : s ≤ 63) :
  Calls Tryz.prog 206 #[.slice (some ⟨gz, oz, none⟩) n cz, .slice (some ⟨gx, ox, none⟩) n cx, .int .u64 s] w fun e w' =>
   ∃ (c : Int) (G : Nat → Nat), e = .returned (.int .u64 c) ∧ BlkW w' gz lz G ∧ (∀ j, j < oz ∨ oz + n ≤ j → G j = F j) ∧ Vb BB G oz n * 2 ^ s + X 0 % 2 ^ s = Vb BB X 0 n ∧ Fr (· = gz) w w' := by
 go_enter Tryz.func206, Tryz.ntmps206
 go_wp2_with fail
 refine (rshVU_g n gz oz lz cz gx ox cx s F X w hz hx hzn ha hn hs0 hs).mono ?_
 rintro e w1 ⟨c, G, rfl, h⟩
 go_wp2
 go_ret
 exact ⟨c, G, rfl, h⟩
theorem divVW_alg {b c V W y r q r' xk xn : Nat} (e2 : xn * c + V = W * y + r) (e : r * b + xk = q * y + r') : xn * (c * b) + (xk + b * V) = (q + b * W) * y + r' := by
 have h : b * (xn * c + V) = b * (W * y + r) := by rw [e2]
 grind
theorem divVW_step {G X : Nat → Nat} {oz k m y xn r q r' xk : Nat} (hv : xn * BB ^ m + Vb BB X (k + 1) m = Vb BB G (oz + k + 1) m * y + r) (hx : xk = X k) (e : r * 18446744073709551616 + xk = q * y + r') :
  xn * BB ^ (m + 1) + Vb BB X k (m + 1) = Vb BB (upd G (oz + k) q) (oz + k) (m + 1) * y + r' := by
 rw [V_cons (F := X), V_cons, upd_same, V_congr (F := upd G (oz + k) q) (G := G) (o' := oz + k + 1) (fun j hj => upd_other _ _ _ _ (by omega)), ← hx, Nat.pow_succ]
 exact divVW_alg hv e
set_option maxHeartbeats 2000000 in
theorem divWVW (n gz oz lz cz gx ox cx xn y : Nat) (XN : Int) (hXN : XN = xn) (F X : Nat → Nat) (w : World) (hz : BlkW w gz lz F) (hx : Words w gx ox n X) (hzn : oz + n ≤ lz) (ha : gx = gz → ox = oz) (hn : 0 < n) (hy : xn < y) (hyB : y < BB) :
  Calls Tryz.prog 256 #[.slice (some ⟨gz, oz, none⟩) n cz, .int .u64 XN, .slice (some ⟨gx, ox, none⟩) n cx, .int .u64 y] w fun e w' =>
   ∃ (r : Nat) (G : Nat → Nat), e = .returned (.int .u64 r) ∧ r < y ∧ BlkW w' gz lz G ∧ (∀ j, j < oz ∨ oz + n ≤ j → G j = F j) ∧ xn * BB ^ n + Vb BB X 0 n = Vb BB G oz n * y + r ∧ Fr (· = gz) w w' := by
 subst hXN
 have hroom := hz.room
 rw [LL_eq] at hroom
 obtain ⟨s, hs⟩ := shift_of y (by omega) hyB
 rcases Nat.lt_or_ge 1 n with hn1 | hn1
 ·have b0 : ((n : Int) == 1) = false := by simp; omega
  go_enter Tryz.func256, Tryz.ntmps256
  go_wp2_with fail
  refine (reciprocalWord y s hs _).mono ?_
  rintro e w1 ⟨rec, rfl, hrec, qd, rfl⟩
  go_wp2_with fail
  go_loopw [8, 12] (fun c i wr => ∃ (k r : Nat) (G : Nat → Nat), k ≤ n ∧ i = .int .i64 ((k : Int) - 1) ∧ c = .int .u64 r ∧ r < y ∧ BlkW wr gz lz G ∧ Hid (∀ j, j < oz + k ∨ oz + n ≤ j → G j = F j) ∧ Hid (xn * BB ^ (n - k) + Vb BB X k (n - k) = Vb BB G (oz + k) (n - k) * y + r) ∧ Fr (· = gz) w wr)
   (fun _ i _ => (intOf i + 1).toNat)
  case atStart => exact ⟨n, xn, F, Nat.le_refl _, rfl, rfl, hy, hz.drewN _, fun _ _ => rfl, by show _ = _; rw [Nat.sub_self, V_zero, V_zero]; simp, (Fr.refl _ _).drewN _⟩
  case round =>
   obtain ⟨k, r, G, hk, rfl, rfl, hr, hG, hold, hV, hfr⟩ := hrel
   rcases Nat.eq_zero_or_pos k with hk0 | hk0
   ·subst hk0
    have g1 : decide ((0 : Int) ≤ ((0 : Nat) : Int) - 1) = false := by simp
    go_wp2
    go_ret
    refine ⟨r, G, rfl, hr, hG, fun j hj => hold.out j (by omega), ?_, hfr⟩
    have := hV.out
    rw [Nat.sub_zero, Nat.add_zero] at this
    exact this
   ·obtain ⟨k, rfl⟩ : ∃ j, k = j + 1 := ⟨k - 1, by omega⟩
    have g0 : ((k + 1 : Nat) : Int) - 1 = k := by omega
    rw [g0]
    have g1 : decide ((0 : Int) ≤ (k : Int)) = true := decide_eq_true (by omega)
    obtain ⟨x0, hx0⟩ : ∃ x0, Hid (x0 = X k) := ⟨_, Lib.hid rfl⟩
    have hx0B : x0 < 18446744073709551616 := by rw [hx0.out]; exact hx.word _ (by omega)
    have xc : wr.cell? ⟨gx, ox + k, none⟩ = some (.int .u64 x0) := by
     rw [hx0.out]
     by_cases e : gx = gz
     ·subst e
      obtain rfl := ha rfl
      rw [hG.cell (by omega), hold.out _ (by omega), ← hz.cell (by omega), hx.cell _ (by omega)]
     ·exact (hx.fr hfr e).cell _ (by omega)
    have zc : wr.cell? ⟨gz, oz + k, none⟩ = some (.int .u64 (G (oz + k) : Nat)) := hG.cell (by omega)
    have zf := hG.free (oz + k)
    go_wp2_with (go_at_call 284; refine (divWW r x0 y s rec _ hs hrec hr hx0B).mono ?_; rintro e w' ⟨q, r', rfl, hq, hr', rfl⟩)
    go_roundw
    case rel =>
     have hqB : q < BB := by
      rw [BB_eq]
      have h1 : q * y < 18446744073709551616 * y := by
       have := Nat.mul_le_mul_right 18446744073709551616 (show r + 1 ≤ y from hr)
       rw [Nat.add_mul, Nat.mul_comm y] at this
       omega
      exact Nat.lt_of_mul_lt_mul_right h1
     refine ⟨k, r', upd G (oz + k) q, by omega, by go_num, rfl, hr', hG.store hqB, fun j hj => by rw [upd_other _ _ _ _ (by omega)]; exact hold.out j (by omega), ?_, hfr.setCell _ _ (.inr rfl)⟩
     have hv := hV.out
     obtain ⟨m, hm⟩ : ∃ m, m = n - (k + 1) := ⟨_, rfl⟩
     rw [← hm] at hv
     have := divVW_step hv hx0.out hq
     rw [show m + 1 = n - k by omega] at this
     exact this
    case measure => simp [intOf]
 ·obtain rfl : n = 1 := by omega
  obtain ⟨x0, hx0⟩ : ∃ x0, Hid (x0 = X 0) := ⟨_, Lib.hid rfl⟩
  have hx0B : x0 < BB := by rw [hx0.out]; exact hx.word _ (by omega)
  have xc : w.cell? ⟨gx, ox, none⟩ = some (.int .u64 x0) := by have := hx.cell 0 (by omega); rw [← hx0.out, Nat.add_zero] at this; exact this
  have HD := fun w => bitsDiv xn x0 y w hy hx0B hyB
  have hqr := Nat.div_add_mod' (xn * 18446744073709551616 + x0) y
  have hrl := Nat.mod_lt (xn * 18446744073709551616 + x0) (show y > 0 by omega)
  generalize (xn * 18446744073709551616 + x0) / y = q at HD hqr
  generalize (xn * 18446744073709551616 + x0) % y = r at HD hqr hrl
  have hqB : q < BB := by
   rw [BB_eq]
   have h1 : q * y < 18446744073709551616 * y := by
    have := Nat.mul_le_mul_right 18446744073709551616 (show xn + 1 ≤ y from hy)
    rw [Nat.add_mul, Nat.mul_comm y] at this
    rw [BB_eq] at hx0B
    omega
   exact Nat.lt_of_mul_lt_mul_right h1
  have HQ := Lib.hid hqr
  have HR := Lib.hid hrl
  have HB := Lib.hid hqB
  clear hqr hrl hqB hx0B
  have hzd : ∀ k, BlkW (w.drewN k) gz lz F := fun k => hz.drewN k
  have zc : ∀ k, (w.drewN k).cell? ⟨gz, oz, none⟩ = some (.int .u64 (F oz : Nat)) := fun k => (hzd k).cell (by omega)
  have zf : ∀ k, (w.drewN k).frozen? ⟨gz, oz, none⟩ = false := fun k => (hzd k).free oz
  go_enter Tryz.func256, Tryz.ntmps256
  go_wp2_with (go_at_call 282; refine (HD _).mono ?_; rintro e w' ⟨rfl, k, rfl⟩)
  go_ret
  refine ⟨r, upd F oz q, rfl, HR.out, (hzd _).store HB.out, fun j hj => upd_other _ _ _ _ (by omega), ?_, ((Fr.refl _ _).drewN _).setCell _ _ (.inr rfl)⟩
  rw [V_one, V_one, upd_same, Nat.pow_one, ← hx0.out, BB_eq]
  exact HQ.out.symm
theorem Rd.words_of {w : World} {v : Value} {n : Nat} {X : Nat → Nat} (h : RdW w v n X) (hn : 0 < n) : ∃ g o c, v = .slice (some ⟨g, o, none⟩) n c ∧ n ≤ c ∧ c ≤ 9223372036854775807 ∧ Words w g o n X := by
 rcases h with ⟨_, h0⟩ | ⟨g, o, c, cs, rfl, h1, h2, h3, hc, hr⟩
 ·omega
 ·exact ⟨g, o, c, rfl, h1, h2.2, ⟨fun j hj => cell_of_heap hc (hr j hj).1, fun j hj => (hr j hj).2⟩⟩
set_option maxHeartbeats 1000000 in
theorem nat_set (v vx : Value) (l n : Nat) (F X : Nat → Nat) (w : World) (h : OwnW w v l F) (hx : RdW w vx n X) (hn0 : 0 < n) (hn : n ≤ 999999000) :
  Calls Tryz.prog 73 #[v, vx] w fun e w' =>
   ∃ (v' : Value) (G : Nat → Nat), e = .returned v' ∧ MadeNat w w' v v' n G ∧ ∀ j, j < n → G j = X j := by
 obtain ⟨gx, ox, cx, rfl, hc1, hc2, hxw⟩ := hx.words_of hn0
 go_enter Tryz.func73, Tryz.ntmps73
 go_wp2_with fail
 refine (nat_make v l n n F _ h rfl hn).mono ?_
 rintro e w1 ⟨v', G, rfl, hm, hf, _⟩
 obtain ⟨g, c, rfl, hnc, hb⟩ : ∃ g c, v' = .slice (some ⟨g, 0, none⟩) n c ∧ n ≤ c ∧ BlkW w1 g c G := by
  rcases hm.own with ⟨_, h0⟩ | ⟨g, c, rfl, h1, hb⟩
  ·omega
  ·exact ⟨g, c, rfl, h1, hb⟩
 have hxw1 := hxw.fr hf (fun x => x)
 clear hn hc2
 go_wp2_with (with_reducible refine copy_blk rfl (.tmp 9) (.tmp 10) _ _ rfl Tryz.underlying95 g 0 n c c gx ox n cx G X ?hd ?hs hb (by omega) hxw1 (Nat.le_refl _) ?_)
 case hd => rfl
 case hs => rfl
 intro w2 G2 hb2 hG2 hold2 hf2
 go_wp2
 go_ret
 refine ⟨_, G2, rfl, ⟨.inr ⟨g, c, rfl, hnc, hb2⟩, hm.fr.trans hf2 (fun i hi e => ?_), hm.at_⟩, hG2.out⟩
 rcases hm.at_ g rfl with e2 | e2
 ·rw [e2, e]
 ·omega
set_option maxHeartbeats 1000000 in
theorem nat_divW (v vx : Value) (l n y : Nat) (F X : Nat → Nat) (w : World) (h : OwnW w v l F) (hx : RdW w vx n X) (ht : Top X n) (hn0 : 0 < n) (hn : n ≤ 999999000) (hne : ∀ k, v.ownBlock = some k → vx.ownBlock ≠ some k) (hy0 : 0 < y) (hy : y < BB) :
  Calls Tryz.prog 216 #[v, vx, .int .u64 y] w fun e w' =>
   ∃ (v' : Value) (n' r : Nat) (G : Nat → Nat), e = .returned (.tuple #[v', .int .u64 r]) ∧ MadeNat w w' v v' n' G ∧ n' ≤ n ∧ Top G n' ∧ r < y ∧ Vb BB X 0 n = Vb BB G 0 n' * y + r := by
 have b0 : ((y : Int) == 0) = false := by simp; omega
 obtain ⟨gx, ox, cx, rfl, hc1, hc2, hxw⟩ := hx.words_of hn0
 by_cases hy1 : y = 1
 ·subst hy1
  have b1 : (((1 : Nat) : Int) == 1) = true := by simp
  go_enter Tryz.func216, Tryz.ntmps216
  go_wp2_with fail
  refine (nat_set v _ l n F X _ h hx hn0 hn).mono ?_
  rintro e w1 ⟨v', G, rfl, hm, hG⟩
  go_wp2
  go_ret2
  refine ⟨v', n, 0, G, rfl, hm, Nat.le_refl _, ?_, by omega, ?_⟩
  ·rcases ht with h | h
   ·exact .inl h
   ·exact .inr (by rw [hG _ (by omega)]; exact h)
  ·rw [V_congr (F := G) (G := X) (o' := 0) (fun j hj => by rw [Nat.zero_add]; exact hG j hj)]; omega
 ·have b1 : ((y : Int) == 1) = false := by simp; omega
  have b2 : ((n : Int) == 0) = false := by simp; omega
  go_enter Tryz.func216, Tryz.ntmps216
  go_wp2_with fail
  refine (nat_make v l n n F _ h rfl hn).mono ?_
  rintro e w1 ⟨v', G, rfl, hm, hf, ho⟩
  obtain ⟨g, c, rfl, hnc, hb⟩ : ∃ g c, v' = .slice (some ⟨g, 0, none⟩) n c ∧ n ≤ c ∧ BlkW w1 g c G := by
   rcases hm.own with ⟨_, h0⟩ | ⟨g, c, rfl, h1, hb⟩
   ·omega
   ·exact ⟨g, c, rfl, h1, hb⟩
  have hxw1 := hxw.fr hf (fun x => x)
  have hgx : gx ≠ g := by
   intro e
   rcases hm.at_ g rfl with e2 | e2
   ·exact hne g e2 (by rw [← e]; rfl)
   ·have := hxw.lt hn0; omega
  go_wp2_with fail
  refine (divWVW n g 0 c c gx ox cx 0 y 0 rfl G X _ hb hxw1 (by omega) (fun e => absurd e hgx) hn0 hy0 hy).mono ?_
  rintro e w2 ⟨r, G2, rfl, hr, hb2, hold, hV, hf2⟩
  go_wp2_with fail
  have hm2 : MadeNat w w2 v (.slice (some ⟨g, 0, none⟩) n c) n G2 := ⟨.inr ⟨g, c, rfl, hnc, hb2⟩, hm.fr.trans hf2 (fun i hi e => by
   rcases hm.at_ g rfl with e2 | e2
   ·rw [e2, e]
   ·omega), hm.at_⟩
  refine (nat_norm_own _ n G2 _ hm2.own).mono ?_
  rintro e w3 ⟨v3, n3, rfl, ho3, hn3, ht3, hv3, hob, rfl⟩
  go_wp2
  go_ret2
  refine ⟨v3, n3, r, G2, rfl, ⟨ho3, hm2.fr, fun k hk => hm2.at_ k (by rw [← hob]; exact hk)⟩, hn3, ht3, hr, ?_⟩
  rw [hv3]
  have := hV
  rw [Nat.zero_mul, Nat.zero_add] at this
  exact this
set_option maxRecDepth 100000 in
set_option maxHeartbeats 1000000 in
theorem nat_set_none (A : Option Addr) (c : Nat) (w : World) :
  Calls Tryz.prog 73 #[.slice none 0 0, .slice A 0 c] w fun e w' => e = .returned (.slice none 0 0) ∧ w = w' := by
 have M : Calls Tryz.prog 95 #[.slice none 0 0, .int .i64 0] w fun e w' => e = .returned (.slice none 0 0) ∧ w = w' := by
  go_enter Tryz.func95, Tryz.ntmps95
  go_wp2
  go_ret
  exact ⟨rfl, rfl⟩
 go_enter Tryz.func73, Tryz.ntmps73
 go_wp2_with fail
 refine M.mono ?_
 rintro e w1 ⟨rfl, rfl⟩
 go_wp2_with (with_reducible refine wpList_copy_nothing rfl (.tmp 9) (.tmp 10) _ _ rfl _ Tryz.underlying95 (by kernel_rfl) _ _ _ _ _ _ rfl rfl (by simp) ?_)
 go_wp2
 go_ret
 exact ⟨rfl, rfl⟩
theorem nat_set_any (vx : Value) (n : Nat) (X : Nat → Nat) (w : World) (hx : RdW w vx n X) (hn : n ≤ 999999000) :
  Calls Tryz.prog 73 #[.slice none 0 0, vx] w fun e w' =>
   ∃ (A : Option Addr) (c : Nat) (G : Nat → Nat), e = .returned (.slice A n c) ∧ OwnW w' (.slice A n c) n G ∧ Fr NoS w w' ∧ (∀ k, (Value.slice A n c).ownBlock = some k → w.heap.size ≤ k) ∧ ∀ j, j < n → G j = X j := by
 by_cases h0 : n = 0
 ·subst h0
  obtain ⟨A, c, rfl, _, _⟩ := hx.shape
  refine (nat_set_none A c w).mono ?_
  rintro e w' ⟨rfl, rfl⟩
  exact ⟨none, 0, X, rfl, .inl ⟨rfl, rfl⟩, Fr.refl _ _, fun k hk => by simp [Value.ownBlock] at hk, fun j hj => by omega⟩
 ·refine (nat_set (.slice none 0 0) vx 0 n (fun _ => 0) X w (.inl ⟨rfl, rfl⟩) hx (by omega) hn).mono ?_
  rintro e w' ⟨v', G, rfl, hm, hG⟩
  obtain ⟨A, c, rfl, _, _⟩ := hm.own.rd.shape
  refine ⟨A, c, G, rfl, hm.own, hm.fr.mono (fun _ _ e => by cases e), fun k hk => ?_, hG⟩
  rcases hm.at_ k hk with e | e
  ·cases e
  ·exact e
theorem Top.congr {F G : Nat → Nat} {n : Nat} (h : Top F n) (e : ∀ j, j < n → G j = F j) : Top G n := by
 rcases h with h | h
 ·exact .inl h
 ·rcases Nat.eq_zero_or_pos n with h0 | h0
  ·exact .inl h0
  ·exact .inr (by rw [e _ (by omega)]; exact h)
theorem V_same {F G : Nat → Nat} {n : Nat} (e : ∀ j, j < n → G j = F j) : Vb BB G 0 n = Vb BB F 0 n := V_congr fun j hj => by rw [Nat.zero_add]; exact e j hj
theorem run_neq_ptr_other {P : Program} (w : World) {tp te : TypeId} {j : TypeInfo} {a b : Addr} {ca cb : Array Value} {ta tb : TypeId} (hp : P.underlying tp = some (.pointer te)) (hte : P.info? te = some j) (hsz : j.size ≠ 0)
  (hne : a ≠ b) (ha : w.heap[a.block]? = some (.cells ca ta (0, 0))) (hb : w.heap[b.block]? = some (.cells cb tb (0, 0))) :
  (binOp .neq tp (.pointer (some a)) (.pointer (some b))).run P w = .ok (.bool true) w := by
 have h : ∀ d : Nat, (Op.equalIn (d + 1) tp (.pointer (some a)) (.pointer (some b))).run P w = .ok false w := fun d => by
  simp [Op.equalIn, run_underlying hp, sizeOf, typeInfo, hte, hsz, run_sameAddr_other w hne ha hb]
 simp only [binOp]
 simp [Op.equal, Op.maxDepth, h 9999]
theorem neq_ints (p q : Nat) (w : World) (cp cq : Array Value) (hp : w.heap[p]? = some (.cells cp TI (0, 0))) (hq : w.heap[q]? = some (.cells cq TI (0, 0))) (hne : p ≠ q) :
  (binOp .neq 46 (.pointer (some ⟨p, 0, none⟩)) (.pointer (some ⟨q, 0, none⟩))).run Tryz.prog w = .ok (.bool true) w := by
 have hte : (Tryz.prog.info? 97).map (fun i => decide (i.size ≠ 0)) = some true := by kernel_rfl
 obtain ⟨j, hj, hs⟩ := Option.map_eq_some_iff.1 hte
 exact run_neq_ptr_other w Tryz.underlying46 hj (by simpa using hs) (fun e => hne (congrArg Addr.block e)) hp hq
set_option maxRecDepth 100000 in
set_option maxHeartbeats 4000000 in
theorem z_Set (pz px : Nat) (a : Int) (w : World) (hz : Zr w pz) (hx : RI w px a) (hne : px ≠ pz) (hs : Sm a) :
  Calls Tryz.prog 66 #[.pointer (some ⟨pz, 0, none⟩), .pointer (some ⟨px, 0, none⟩)] w fun e w' =>
   e = .returned (.pointer (some ⟨pz, 0, none⟩)) ∧ Put w w' pz a := by
 obtain ⟨sx, vx, n, X, hx1, rfl⟩ := hx
 have hn : n ≤ 39 := hx1.len hs
 have z0 := hz.own.rd.c0
 have z1 := hz.own.rd.c1
 have x0 := hx1.c0
 have x1 := hx1.c1
 have S := nat_set_any vx n X w.drew (hx1.rd.fr ((Fr.refl NoS w).drew) (fun _ _ x => x)) (by omega)
 have NE := neq_ints pz px w _ _ hz hx1.blk (fun e => hne e.symm)
 go_enter Tryz.func66, Tryz.ntmps66
 go_wp2_with fail
 go_region_with (go_at_call 73; go_loud ((with_reducible refine S.mono ?_); rintro e w1 ⟨A, c, G, rfl, ho, hf, hk, hG⟩; have HG := Lib.hid hG; clear hG; have hf1 : Fr NoS w w1 := ((Fr.refl NoS w).drew).trans' hf; have hz1 : Zr w1 pz := hz.fr hf1 (fun x => x); have fz := hz1.own.rd.fz 1; have cz := hz1.own.rd.c1))
 all_goals
  have hb1 := int_set hz1 (.slice A n c)
  have fA : Fr (· = pz) w1 (w1.setCell ⟨pz, 1, none⟩ (.slice A n c)) := Fr.set _ _ _ _
  have ho2 := ho.fr fA (fun k hk e => ho.rd.ne_int hz1 (by rw [hk, e]))
  have cx := (fA.cell (p := ⟨px, 0, none⟩) (hf1.lt hx1.lt) hne).trans ((hf1.cell (p := ⟨px, 0, none⟩) hx1.lt (fun x => x)).trans x0)
  have fB := (hf1.mono (S' := (· = pz)) (fun _ _ x => x.elim)).trans' fA
  have fin := fun (u : World) (hu : u = (w1.setCell ⟨pz, 1, none⟩ (.slice A n c)).setCell ⟨pz, 0, none⟩ (.bool sx)) => (⟨⟨_, hz⟩, by rw [hu]; exact fB.trans' (Fr.set _ _ _ _), sx, .slice A n c, n, G, ⟨by rw [hu]; exact int_set0 hb1 sx, by rw [hu]; exact ho2.fr (Fr.set _ _ _ _) (fun k hk e => ho2.rd.ne_int hb1 (by rw [hk, e])), hx1.top.congr HG.out, hx1.sign⟩, by rw [V_same HG.out], hk⟩ : Put w u pz (sgn sx (Vb BB X 0 n)))
  have FIN := Lib.hid fin
  clear fin z0 z1 x0 x1 cz S NE fz
  have fz1 : (w1.setCell ⟨pz, 1, none⟩ (.slice A n c)).frozen? ⟨pz, 0, none⟩ = false := by simp [World.frozen?, hb1]
  have cz1 : (w1.setCell ⟨pz, 1, none⟩ (.slice A n c)).cell? ⟨pz, 0, none⟩ = some (.bool false) := by simp [World.cell?, hb1]
  go_wp2
  go_ret
  exact ⟨rfl, FIN.out _ rfl⟩
theorem Put.sign {w w1 : World} {p : Nat} {z : Int} (h : Put w w1 p z) (s : Bool) (hs : s = true → z ≠ 0) : Put w (w1.setCell ⟨p, 0, none⟩ (.bool s)) p (sgn s z.natAbs) := by
 obtain ⟨s0, v, n, G, ho, rfl, hk⟩ := h.own
 refine ⟨h.was, h.fr.trans' (Fr.set _ _ _ _), s, v, n, G, ⟨int_set0 ho.blk s, ho.own.fr (Fr.set _ _ _ _) (fun k hk e => ho.own.rd.ne_int ho.blk (by rw [hk, e])), ho.top, fun e => ?_⟩, by rw [sgn_natAbs], hk⟩
 have := hs e
 refine ho.top.pos.1 (Nat.pos_of_ne_zero fun e => this (sgn_eq_zero.2 e))
theorem Put.c0 {w w1 : World} {p : Nat} {z : Int} (h : Put w w1 p z) : ∃ s : Bool, w1.cell? ⟨p, 0, none⟩ = some (.bool s) := by
 obtain ⟨s0, v, n, G, ho, _, hk⟩ := h.own
 exact ⟨s0, ho.rd.c0⟩
theorem Put.f0 {w w1 : World} {p : Nat} {z : Int} (h : Put w w1 p z) (j : Nat) : w1.frozen? ⟨p, j, none⟩ = false := by
 obtain ⟨s0, v, n, G, ho, _, hk⟩ := h.own
 exact ho.rd.fz j
set_option maxRecDepth 100000 in
set_option maxHeartbeats 4000000 in
theorem z_Abs (pz px : Nat) (a : Int) (w : World) (hz : Zr w pz) (hx : RI w px a) (hne : px ≠ pz) (hs : Sm a) :
  Calls Tryz.prog 89 #[.pointer (some ⟨pz, 0, none⟩), .pointer (some ⟨px, 0, none⟩)] w fun e w' =>
   e = .returned (.pointer (some ⟨pz, 0, none⟩)) ∧ Put w w' pz a.natAbs := by
 have S := z_Set pz px a w hz hx hne hs
 go_enter Tryz.func89, Tryz.ntmps89
 go_wp2_with fail
 refine S.mono ?_
 rintro e w1 ⟨rfl, hp⟩
 obtain ⟨s0, c0⟩ := hp.c0
 have f0 := hp.f0 0
 have HP := Lib.hid (hp.sign false (fun e => by cases e))
 clear hp
 go_wp2
 go_ret
 exact ⟨rfl, HP.out⟩
set_option maxRecDepth 100000 in
set_option maxHeartbeats 4000000 in
theorem z_Neg (pz px : Nat) (a : Int) (w : World) (hz : Zr w pz) (hx : RI w px a) (hne : px ≠ pz) (hs : Sm a) :
  Calls Tryz.prog 55 #[.pointer (some ⟨pz, 0, none⟩), .pointer (some ⟨px, 0, none⟩)] w fun e w' =>
   e = .returned (.pointer (some ⟨pz, 0, none⟩)) ∧ Put w w' pz (-a) := by
 have S := z_Set pz px a w hz hx hne hs
 go_enter Tryz.func55, Tryz.ntmps55
 go_wp2_with fail
 refine S.mono ?_
 rintro e w1 ⟨rfl, hp⟩
 have hp2 := hp
 obtain ⟨s0, v, n, G, ho, rfl, hk⟩ := hp.own
 have c0 := ho.rd.c0
 have c1 := ho.rd.c1
 have f0 := ho.rd.fz 0
 have hpos := ho.top.pos
 obtain ⟨A, c, rfl, _, _⟩ := ho.own.rd.shape
 by_cases h0 : n = 0
 ·subst h0
  have hb : decide ((0 : Int) < ((0 : Nat) : Int)) = false := by simp
  have HP := Lib.hid (hp2.sign false (fun e => by cases e))
  clear hp hp2 ho hpos S
  go_wp2
  go_ret
  refine ⟨rfl, ?_⟩
  have := HP.out
  simpa [sgn, Vb] using this
 ·have hb : decide ((0 : Int) < (n : Int)) = true := by simp; omega
  have hbn : 0 < n := by omega
  have h1 := hpos.2 hbn
  have HP := Lib.hid (hp2.sign (!s0) (fun e e' => by rw [sgn_eq_zero] at e'; omega))
  have HE := Lib.hid (show sgn (!s0) (sgn s0 (Vb BB G 0 n)).natAbs = -(sgn s0 (Vb BB G 0 n)) by rw [sgn_natAbs]; cases s0 <;> simp [sgn])
  clear hp hp2 ho hpos S h1 h0
  go_wp2
  go_ret
  exact ⟨rfl, by rw [← HE.out]; exact HP.out⟩
theorem z_Mul (pz px py : Nat) (a b : Int) (w : World) (hz : Zr w pz) (hx : RI w px a) (hy : RI w py b) (hne : px ≠ py) (ha : Sm a) (hb : Sm b)
  (hkar : w.cell? ⟨5, 0, none⟩ = some (.int .i64 40)) :
  Calls Tryz.prog 74 #[.pointer (some ⟨pz, 0, none⟩), .pointer (some ⟨px, 0, none⟩), .pointer (some ⟨py, 0, none⟩)] w fun e w' =>
   e = .returned (.pointer (some ⟨pz, 0, none⟩)) ∧ Put w w' pz (a * b) := by
 obtain ⟨sx, vx, n, X, hx1, rfl⟩ := hx
 obtain ⟨sy, vy, m, Y, hy1, rfl⟩ := hy
 have hn : n ≤ 39 := hx1.len ha
 have hm : m ≤ 39 := hy1.len hb
 refine (int_Mul pz px py 0 n m false sx sy (.slice none 0 0) vx vy (fun _ => 0) X Y w hz (.inl ⟨rfl, rfl⟩) hx1 hy1 (.inl ⟨by omega, by omega⟩) hne (Near.nil _) (Near.nil _) hkar).mono ?_
 rintro e w' ⟨v', n', G, s, rfl, ho, _, hv, _, hf, hk⟩
 refine ⟨rfl, ⟨_, hz⟩, hf.mono (fun k _ e => e.elim id (fun e => by cases e)), s, v', n', G, ho, hv, fun k h => ?_⟩
 rcases hk k h with e | e
 ·cases e
 ·exact e
theorem z_Uint64 (p : Nat) (z : Int) (w : World) (h : RI w p z) (hz : z.natAbs < BB) :
  ∃ (s : Bool) (v : Value) (n : Nat) (F : Nat → Nat), IntRd w p s v n F ∧ n ≤ 1 ∧ (if n = 0 then 0 else F 0) = z.natAbs ∧ z = sgn s z.natAbs := by
 obtain ⟨s, v, n, F, h1, rfl⟩ := h
 have hn : n ≤ 1 := h1.len (by simpa using hz)
 refine ⟨s, v, n, F, h1, hn, ?_, by rw [sgn_natAbs]⟩
 rw [sgn_natAbs]
 rcases (show n = 0 ∨ n = 1 by omega) with rfl | rfl
 ·simp [Vb]
 ·simp [Vb]
set_option maxRecDepth 100000 in
set_option maxHeartbeats 1000000 in
theorem z_Int64 (p : Nat) (z : Int) (w : World) (h : RI w p z) (h1 : -9223372036854775808 ≤ z) (h2 : z < 9223372036854775808) :
  Calls Tryz.prog 76 #[.pointer (some ⟨p, 0, none⟩)] w fun e w' => e = .returned (.int .i64 z) ∧ w = w' := by
 obtain ⟨s, v, n, F, hr, hn, hv, hs⟩ := z_Uint64 p z w h (by unfold BB; omega)
 have L := low64_any v n F w hr.rd
 rw [hv] at L
 have c0 := hr.c0
 have c1 := hr.c1
 obtain ⟨A, c, rfl, _, _⟩ := hr.rd.shape
 clear hr h hn hv
 obtain ⟨x, hx⟩ : ∃ x : Nat, Hid (z.natAbs = x) := ⟨_, Lib.hid rfl⟩
 rw [hx.out] at L hs
 cases s
 ·have hz : z = (x : Int) := by simpa [sgn] using hs
  subst hz
  have e1 : IntKind.i64.wrap (x : Int) = x := IntWalk.i64_in _ (by omega)
  clear hs
  go_enter Tryz.func76, Tryz.ntmps76
  go_wp2_with fail
  refine L.mono ?_
  rintro e w1 ⟨rfl, rfl⟩
  go_wp2
  go_ret
  exact ⟨rfl, rfl⟩
 ·have hz : z = -(x : Int) := by simpa [sgn] using hs
  subst hz
  by_cases hm : x = 9223372036854775808
  ·subst hm
   clear hs
   go_enter Tryz.func76, Tryz.ntmps76
   go_wp2_with fail
   refine L.mono ?_
   rintro e w1 ⟨rfl, rfl⟩
   go_wp2
   go_ret
   exact ⟨ret1 (by unfold wrap64; omega), rfl⟩
  ·have e1 : IntKind.i64.wrap (x : Int) = x := IntWalk.i64_in _ (by omega)
   have e2 : IntKind.i64.wrap (-(x : Int)) = -x := IntWalk.i64_in _ (by omega)
   clear hs
   go_enter Tryz.func76, Tryz.ntmps76
   go_wp2_with fail
   refine L.mono ?_
   rintro e w1 ⟨rfl, rfl⟩
   go_wp2
   go_ret
   exact ⟨rfl, rfl⟩
set_option maxRecDepth 100000 in
set_option maxHeartbeats 1000000 in
theorem z_IsInt64 (p : Nat) (z : Int) (w : World) (h : RI w p z) :
  Calls Tryz.prog 75 #[.pointer (some ⟨p, 0, none⟩)] w fun e w' => e = .returned (.bool (decide (-9223372036854775808 ≤ z) && decide (z < 9223372036854775808))) ∧ w = w' := by
 by_cases hsm : z.natAbs < BB
 ·obtain ⟨s, v, n, F, hr, hn, hv, hs⟩ := z_Uint64 p z w h hsm
  have L := low64_any v n F w hr.rd
  rw [hv] at L
  have c0 := hr.c0
  have c1 := hr.c1
  obtain ⟨A, c, rfl, _, _⟩ := hr.rd.shape
  have b1 : decide ((n : Int) ≤ 1) = true := by simp; omega
  clear hr h hn hv
  obtain ⟨x, hx⟩ : ∃ x : Nat, Hid (z.natAbs = x) := ⟨_, Lib.hid rfl⟩
  rw [hx.out] at L hs
  have hxB : x < 18446744073709551616 := by rw [← hx.out]; exact hsm
  by_cases hlt : x < 9223372036854775808
  ·have e1 : IntKind.i64.wrap (x : Int) = x := IntWalk.i64_in _ (by omega)
   have hres : (decide (-9223372036854775808 ≤ z) && decide (z < 9223372036854775808)) = true := by
    cases s <;> simp [sgn] at hs <;> subst hs <;> simp <;> omega
   rw [hres]
   have b2 : decide ((0 : Int) ≤ (x : Int)) = true := by simp
   clear hs hres hsm
   go_enter Tryz.func75, Tryz.ntmps75
   go_wp2_with fail
   refine L.mono ?_
   rintro e w1 ⟨rfl, rfl⟩
   go_wp2
   go_ret
   exact ⟨rfl, rfl⟩
  ·have e1 : wrap64 (x : Int) = (x : Int) - 18446744073709551616 := by unfold wrap64; omega
   have e1' : IntKind.i64.wrap (x : Int) = (x : Int) - 18446744073709551616 := by rw [IntKind.wrap_i64]; omega
   have b2 : decide ((0 : Int) ≤ (x : Int) - 18446744073709551616) = false := decide_eq_false (by omega)
   have b3 : decide ((18446744073709551616 : Int) ≤ (x : Int)) = false := decide_eq_false (by omega)
   cases s
   ·have hres : (decide (-9223372036854775808 ≤ z) && decide (z < 9223372036854775808)) = false := by
     simp [sgn] at hs; subst hs; simp; omega
    rw [hres]
    clear hs hres hsm
    go_enter Tryz.func75, Tryz.ntmps75
    go_wp2_with fail
    refine L.mono ?_
    rintro e w1 ⟨rfl, rfl⟩
    go_wp2
    go_ret
    exact ⟨rfl, rfl⟩
   ·have e4 : ∀ y : Int, IntKind.i64.wrap y = (y + 9223372036854775808) % 18446744073709551616 - 9223372036854775808 := fun y => IntKind.wrap_i64 y
    have hz : z = -(x : Int) := by simpa [sgn] using hs
    subst hz
    by_cases hm : x = 9223372036854775808
    ·subst hm
     have hres : (decide (-9223372036854775808 ≤ -((9223372036854775808 : Nat) : Int)) && decide (-((9223372036854775808 : Nat) : Int) < 9223372036854775808)) = true := by decide
     rw [hres]
     have k1 : wrap64 9223372036854775808 = -9223372036854775808 := by unfold wrap64; rfl
     clear e1 e1' b2 b3
     clear hs hres hsm e4
     go_enter Tryz.func75, Tryz.ntmps75
     go_wp2_with fail
     refine L.mono ?_
     rintro e w1 ⟨rfl, rfl⟩
     go_wp2
     go_ret
     exact ⟨rfl, rfl⟩
    ·have hres : (decide (-9223372036854775808 ≤ -(x : Int)) && decide (-(x : Int) < 9223372036854775808)) = false := by
      have : ¬ -9223372036854775808 ≤ -(x : Int) := by omega
      simp [this]
     rw [hres]
     have e5 : IntKind.i64.wrap (-((x : Int) - 18446744073709551616)) = 18446744073709551616 - x := by rw [IntKind.wrap_i64]; omega
     have e5' : IntKind.i64.wrap (18446744073709551616 - (x : Int)) = 18446744073709551616 - x := by rw [IntKind.wrap_i64]; omega
     have f1 : ((x : Int) - 18446744073709551616 == 18446744073709551616 - (x : Int)) = false := by simp; omega
     clear hs hres hsm e4
     go_enter Tryz.func75, Tryz.ntmps75
     go_wp2_with fail
     refine L.mono ?_
     rintro e w1 ⟨rfl, rfl⟩
     go_wp2
     go_ret
     exact ⟨rfl, rfl⟩
 ·have hres : (decide (-9223372036854775808 ≤ z) && decide (z < 9223372036854775808)) = false := by
   rw [BB_eq] at hsm
   rcases Int.le_total 0 z with h | h
   ·have : ¬ z < 9223372036854775808 := by omega
    simp [this]
   ·have : ¬ -9223372036854775808 ≤ z := by omega
    simp [this]
  rw [hres]
  obtain ⟨s, v, n, F, h1, rfl⟩ := h
  have hn : 1 < n := by
   refine Nat.lt_of_not_le fun hn => hsm ?_
   rw [sgn_natAbs]
   have := V_lt (b := BB) (F := F) (o := 0) (n := n) (fun j hj => by rw [Nat.zero_add]; exact h1.rd.word hj)
   have h2 : BB ^ n ≤ BB ^ 1 := Nat.pow_le_pow_right BB_one hn
   rw [Nat.pow_one] at h2
   omega
  have b1 : decide ((n : Int) ≤ 1) = false := by simp; omega
  have c1 := h1.c1
  obtain ⟨A, c, rfl, _, _⟩ := h1.rd.shape
  clear h1 hsm hres
  go_enter Tryz.func75, Tryz.ntmps75
  go_wp2
  go_ret
  exact ⟨rfl, rfl⟩
set_option maxRecDepth 100000 in
set_option maxHeartbeats 1000000 in
theorem z_Bit0 (p : Nat) (z : Int) (w : World) (h : RI w p z) :
  Calls Tryz.prog 80 #[.pointer (some ⟨p, 0, none⟩), .int .i64 0] w fun e w' => e = .returned (.int .u64 (z.natAbs % 2 : Nat)) ∧ w = w' := by
 obtain ⟨s, v, n, F, h1, rfl⟩ := h
 rw [sgn_natAbs]
 have c1 := h1.c1
 have hrd := h1.rd
 obtain ⟨A, c, rfl, _, _⟩ := h1.rd.shape
 by_cases h0 : n = 0
 ·subst h0
  have b1 : decide ((0 : Int) < ((0 : Nat) : Int)) = false := by simp
  go_enter Tryz.func80, Tryz.ntmps80
  go_wp2
  go_ret
  exact ⟨rfl, rfl⟩
 ·have b1 : decide ((0 : Int) < (n : Int)) = true := by simp; omega
  have hpos : 0 < n := by omega
  rcases hrd with ⟨_, e⟩ | ⟨g, o, c', cs, e, h3, h4, h5, hc, hr⟩
  ·omega
  simp only [Value.slice.injEq, true_and] at e
  obtain ⟨rfl, rfl⟩ := e
  have hc0 := cell_of_heap hc (hr 0 hpos).1
  rw [Nat.add_zero] at hc0
  have hF := (hr 0 hpos).2
  have hV : Vb BB F 0 n % 2 = F 0 % 2 := by
   obtain ⟨m, rfl⟩ : ∃ m, n = 1 + m := ⟨n - 1, by omega⟩
   rw [V_add, V_one, Nat.pow_one, Nat.add_mod, Nat.mul_mod, show BB % 2 = 0 from rfl]
   simp
  obtain ⟨x, hx⟩ : ∃ x : Nat, Hid (F 0 = x) := ⟨_, Lib.hid rfl⟩
  rw [hx.out] at hc0 hF hV
  rw [hV]
  clear h1 hr hc hV h0
  have e1 : bits BinOp.and IntKind.u64 (x : Int) 1 = ((x % 2 : Nat) : Int) := by
   have := u64_and_nat x 1 (by rw [← BB_eq]; exact hF) (by omega)
   rw [Nat.and_one_is_mod] at this
   exact this
  go_enter Tryz.func80, Tryz.ntmps80
  go_wp2
  go_ret
  exact ⟨rfl, rfl⟩
theorem smear_ex (t s : Nat) (S : Int) (hS : S = s) (ht : t < 18446744073709551616) : ∃ u : Nat, bits BinOp.or IntKind.u64 (t : Int) ((t : Int) / S) = (u : Int) ∧ t ≤ u ∧ (∀ k, t < 2 ^ k → u < 2 ^ k) ∧ u < 18446744073709551616 := by
 subst hS
 have hle : t / s ≤ t := Nat.div_le_self t s
 have hk : ∀ k, t < 2 ^ k → t ||| t / s < 2 ^ k := fun k h => Nat.or_lt_two_pow h (Nat.lt_of_le_of_lt hle h)
 exact ⟨t ||| t / s, u64_or_nat t (t / s) ht (by omega), Nat.left_le_or, hk, hk 64 ht⟩
set_option maxRecDepth 100000 in
set_option maxHeartbeats 1000000 in
theorem nat_bitLen (v : Value) (n : Nat) (F : Nat → Nat) (w : World) (h : RdW w v n F) (ht : Top F n) :
  Calls Tryz.prog 104 #[v] w fun e w' => ∃ L : Nat, e = .returned (.int .i64 (L : Int)) ∧ Vb BB F 0 n < 2 ^ L ∧ (0 < n → 2 ^ (L - 1) ≤ Vb BB F 0 n ∧ 0 < L) ∧ w = w' := by
 have hle := h.le
 rw [LL_eq] at hle
 obtain ⟨A, c, rfl, _, _⟩ := h.shape
 by_cases h0 : n = 0
 ·subst h0
  go_enter Tryz.func104, Tryz.ntmps104
  go_wp2
  go_ret
  exact ⟨0, rfl, by simp [Vb], fun h => by omega, rfl⟩
 ·obtain ⟨m, rfl⟩ : ∃ m, n = m + 1 := ⟨n - 1, by omega⟩
  rcases h with ⟨_, e⟩ | ⟨g, o, c', cs, e, h3, h4, h5, hc, hr⟩
  ·omega
  simp only [Value.slice.injEq, true_and] at e
  obtain ⟨rfl, rfl⟩ := e
  have hcm := cell_of_heap hc (hr m (by omega)).1
  have hF := (hr m (by omega)).2
  have hF0 : 0 < F m := by
   rcases ht with h | h
   ·omega
   ·simpa using h
  obtain ⟨t0, ht0⟩ : ∃ t0 : Nat, Hid (F m = t0) := ⟨_, Lib.hid rfl⟩
  rw [ht0.out] at hcm hF hF0
  rw [show capK .u64 = BB from rfl, BB_eq] at hF
  obtain ⟨t1, e1, g1, k1, b1⟩ := smear_ex t0 2 2 rfl hF
  obtain ⟨t2, e2, g2, k2, b2⟩ := smear_ex t1 4 4 rfl b1
  obtain ⟨t3, e3, g3, k3, b3⟩ := smear_ex t2 16 16 rfl b2
  obtain ⟨t4, e4, g4, k4, b4⟩ := smear_ex t3 256 256 rfl b3
  obtain ⟨t5, e5, g5, k5, b5⟩ := smear_ex t4 65536 65536 rfl b4
  obtain ⟨t6, e6, g6, k6, b6⟩ := smear_ex t5 4294967296 4294967296 rfl b5
  have e6' : bits BinOp.or IntKind.u64 (t5 : Int) ((t5 : Int) / 65536 / 65536) = (t6 : Int) := by
   rw [Int.ediv_ediv_of_nonneg (by omega)]; exact e6
  have hbt := bitLen_top t6 (by omega) (by rw [BB_eq]; exact b6)
  have hL : t0 < 2 ^ Lib.bitLen t6 ∧ 2 ^ (Lib.bitLen t6 - 1) ≤ t0 := by
   refine ⟨by omega, Nat.le_of_not_lt fun hlt => ?_⟩
   have := k6 _ (k5 _ (k4 _ (k3 _ (k2 _ (k1 _ hlt)))))
   omega
  have hLb := hbt.2.2
  have HV : Hid (Vb BB F 0 (m + 1) < 2 ^ (m * 64 + Lib.bitLen t6) ∧ 2 ^ (m * 64 + Lib.bitLen t6 - 1) ≤ Vb BB F 0 (m + 1)) := by
   refine Lib.hid ?_
   have hlow : Vb BB F 0 m < BB ^ m := V_lt (fun j hj => by rw [Nat.zero_add]; exact (hr j (by omega)).2)
   have hp : BB ^ m = 2 ^ (m * 64) := by rw [BB_eq, show 18446744073709551616 = 2 ^ 64 from rfl, ← Nat.pow_mul, Nat.mul_comm]
   rw [V_succ, Nat.zero_add, ht0.out, hp]
   rw [hp] at hlow
   refine ⟨?_, ?_⟩
   ·rw [Nat.pow_add]
    have := Nat.mul_le_mul_left (2 ^ (m * 64)) (show t0 + 1 ≤ 2 ^ Lib.bitLen t6 by omega)
    rw [Nat.mul_add] at this
    omega
   ·rw [show m * 64 + Lib.bitLen t6 - 1 = m * 64 + (Lib.bitLen t6 - 1) by omega, Nat.pow_add]
    have := Nat.mul_le_mul_left (2 ^ (m * 64)) hL.2
    omega
  obtain ⟨L, hLL⟩ : ∃ L : Nat, Hid (Lib.bitLen t6 = L) := ⟨_, Lib.hid rfl⟩
  have B := fun u => bits_Len t6 u (by rw [BB_eq]; exact b6)
  rw [hLL.out] at B HV hLb
  clear hbt hL hr hc h0 k1 k2 k3 k4 k5 k6 ht g1 g2 g3 g4 g5 g6
  go_enter Tryz.func104, Tryz.ntmps104
  go_wp2_with fail
  refine (B _).mono ?_
  rintro e w1 ⟨rfl, rfl⟩
  go_wp2
  go_ret
  exact ⟨m * 64 + L, ret1 (by omega), HV.out.1, fun _ => ⟨HV.out.2, by omega⟩, rfl⟩
theorem z_BitLen (p : Nat) (z : Int) (w : World) (h : RI w p z) :
  Calls Tryz.prog 81 #[.pointer (some ⟨p, 0, none⟩)] w fun e w' => ∃ L : Nat, e = .returned (.int .i64 (L : Int)) ∧ z.natAbs < 2 ^ L ∧ (z ≠ 0 → 2 ^ (L - 1) ≤ z.natAbs ∧ 0 < L) ∧ w = w' := by
 obtain ⟨s, v, n, F, h1, rfl⟩ := h
 rw [sgn_natAbs]
 have c1 := h1.c1
 have hp := h1.top.pos
 have B := nat_bitLen v n F w h1.rd h1.top
 obtain ⟨A, c, rfl, _, _⟩ := h1.rd.shape
 clear h1
 have HP := Lib.hid hp
 clear hp
 go_enter Tryz.func81, Tryz.ntmps81
 go_wp2_with fail
 refine B.mono ?_
 rintro e w1 ⟨L, rfl, hL, hL2, rfl⟩
 have HL := Lib.hid (And.intro hL hL2)
 clear hL hL2
 go_wp2
 go_ret
 exact ⟨L, rfl, HL.out.1, fun h => HL.out.2 (HP.out.1 (Nat.pos_of_ne_zero fun e => h (sgn_eq_zero.2 e))), rfl⟩
end Go.Proofs.YtilmldfbmmcchaaGreatDoor
