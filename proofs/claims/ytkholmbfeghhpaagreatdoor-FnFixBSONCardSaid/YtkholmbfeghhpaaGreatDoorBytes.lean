/- Whole numbers from bytes, the greatest first. Conditions: the bytes lie in memory. -/
import Derived.Test.YtkholmbfeghhpaaGreatDoorInt
import Derived.Lib.EndianBits
namespace Go.Proofs.YtkholmbfeghhpaaGreatDoor
open Go.RowKit

/-- The type of bytes. -/
abbrev TB : TypeId := 5
/-- n bytes are read at a place of a block. -/
structure Byts (w : World) (g o n : Nat) (B : Nat → Nat) : Prop where
  cell : ∀ j, j < n → w.cell? ⟨g, o + j, none⟩ = some (.int .u8 (B j : Nat))
  lt : ∀ j, j < n → B j < 256
theorem Byts.fr {S : Nat → Prop} {w w' : World} {g o n : Nat} {X : Nat → Nat} (h : Byts w g o n X) (f : Fr S w w') (hn : ¬ S g) : Byts w' g o n X :=
  ⟨fun j hj => by rw [f.cell (World.block_lt_of_cell? w _ (h.cell j hj)) hn]; exact h.cell j hj, h.lt⟩

set_option maxHeartbeats 1000000 in
theorem beUint32 (g o n c b0 b1 b2 b3 : Nat) (w : World) (hn : 4 ≤ n) (h0 : w.cell? ⟨g, o, none⟩ = some (.int .u8 (b0 : Nat))) (h1 : w.cell? ⟨g, o + 1, none⟩ = some (.int .u8 (b1 : Nat))) (h2 : w.cell? ⟨g, o + 2, none⟩ = some (.int .u8 (b2 : Nat))) (h3 : w.cell? ⟨g, o + 3, none⟩ = some (.int .u8 (b3 : Nat)))
    (l0 : b0 < 256) (l1 : b1 < 256) (l2 : b2 < 256) (l3 : b3 < 256) :
    Calls Tryz.prog 112 #[.slice (some ⟨g, o, none⟩) n c] w fun e w' => e = .returned (.int .u32 ((b0 * 16777216 + b1 * 65536 + b2 * 256 + b3 : Nat) : Int)) ∧ ∃ q, w' = w.drewN q := by
  have hn0 : 0 < n := by omega
  have hn1 : 1 < n := by omega
  have hn2 : 2 < n := by omega
  have hn3 : 3 < n := by omega
  go_enter Tryz.func112, Tryz.ntmps112
  go_wp2
  go_quiet (fail)
  go_wp2
  go_ret
  refine ⟨ret1 ?_, _, rfl⟩
  rw [u32_or8 (b3 : Int) (b2 * 256) (by omega) (by omega) (by omega) (by omega) (by omega), u32_or16 (b3 + b2 * 256 : Int) (b1 * 65536) (by omega) (by omega) (by omega) (by omega) (by omega), u32_or24 (b3 + b2 * 256 + b1 * 65536 : Int) (b0 * 16777216) (by omega) (by omega) (by omega) (by omega) (by omega)]
  omega

/-- The number that n bytes are, the greatest first. -/
def be (B : Nat → Nat) (o : Nat) : Nat → Nat
  | 0 => 0
  | n + 1 => be B o n * 256 + B (o + n)
theorem be_lt {B : Nat → Nat} {o n : Nat} (h : ∀ j, j < n → B (o + j) < 256) : be B o n < 256 ^ n := by
  induction n with
  | zero => simp [be]
  | succ n ih =>
    have h1 := ih (fun j hj => h j (by omega))
    have h2 := h n (by omega)
    rw [be, Nat.pow_succ]
    omega
theorem be_add (B : Nat → Nat) (o m n : Nat) : be B o (m + n) = be B o m * 256 ^ n + be B (o + m) n := by
  induction n with
  | zero => simp [be]
  | succ n ih => rw [← Nat.add_assoc, be, ih, be, Nat.pow_succ, Nat.add_mul, Nat.mul_assoc, Nat.add_assoc o m n]; omega

theorem beUint32' (g o n c : Nat) (B : Nat → Nat) (w : World) (hn : 4 ≤ n) (hb : Byts w g o 4 B) :
    Calls Tryz.prog 112 #[.slice (some ⟨g, o, none⟩) n c] w fun e w' => e = .returned (.int .u32 ((be B 0 4 : Nat) : Int)) ∧ ∃ q, w' = w.drewN q := by
  refine (beUint32 g o n c (B 0) (B 1) (B 2) (B 3) w hn (hb.cell 0 (by omega)) (hb.cell 1 (by omega)) (hb.cell 2 (by omega)) (hb.cell 3 (by omega)) (hb.lt 0 (by omega)) (hb.lt 1 (by omega)) (hb.lt 2 (by omega)) (hb.lt 3 (by omega))).mono ?_
  rintro e w' ⟨he, hw⟩
  have hv : B 0 * 16777216 + B 1 * 65536 + B 2 * 256 + B 3 = be B 0 4 := by
    simp only [be, Nat.zero_add]
    omega
  exact ⟨by rw [he, hv], hw⟩
theorem Byts.sub {w : World} {g o n : Nat} {B : Nat → Nat} (h : Byts w g o n B) (k m : Nat) (hk : k + m ≤ n) : Byts w g (o + k) m (fun j => B (k + j)) :=
  ⟨fun j hj => by rw [Nat.add_assoc]; exact h.cell _ (by omega), fun j hj => h.lt _ (by omega)⟩

set_option maxHeartbeats 1000000 in
theorem beUint64 (g o n c : Nat) (B : Nat → Nat) (w : World) (hn : 8 ≤ n) (hc : n ≤ c) (hb : Byts w g o 8 B) :
    Calls Tryz.prog 111 #[.slice (some ⟨g, o, none⟩) n c] w fun e w' => e = .returned (.int .u64 ((be B 0 8 : Nat) : Int)) ∧ ∃ q, w' = w.drewN q := by
  have h7 := hb.cell 7 (by omega)
  have C1 := fun q => beUint32' g o n c B (w.drewN q) (by omega) ((hb.sub 0 4 (by omega)).fr ((Fr.refl NoS w).drewN q) (fun x => x) |> fun h => ⟨fun j hj => by have := h.cell j hj; rw [Nat.zero_add, Nat.add_zero] at this; exact this, fun j hj => hb.lt j (by omega)⟩)
  have C2 := fun q => beUint32' g (o + 4) (n - 4) (c - 4) (fun j => B (4 + j)) (w.drewN q) (by omega) ((hb.sub 4 4 (by omega)).fr ((Fr.refl NoS w).drewN q) (fun x => x))
  have l1 := be_lt (B := B) (o := 0) (n := 4) (fun j hj => hb.lt _ (by omega))
  have l2 := be_lt (B := fun j => B (4 + j)) (o := 0) (n := 4) (fun j hj => hb.lt _ (by omega))
  have hv : be B 0 8 = be B 0 4 * 256 ^ 4 + be (fun j => B (4 + j)) 0 4 := by
    rw [be_add B 0 4 4]
    simp only [be, Nat.zero_add, Nat.add_zero]
  rw [show (256 : Nat) ^ 4 = 4294967296 from rfl] at l1 l2 hv
  generalize be B 0 4 = A at *
  generalize be (fun j => B (4 + j)) 0 4 = D at *
  have HV := Lib.hid hv
  clear hv hb
  have hn7 : 7 < n := by omega
  have hn4 : (4 : Int) ≤ n := by omega
  have hn5 : (n : Int) ≤ c := by omega
  go_enter Tryz.func111, Tryz.ntmps111
  go_wp2
  go_quiet (first | (go_at_call_of 112 (Value.slice (some ⟨g, o, none⟩) n c); exact Calls.quiet_of (C1 _)) | (go_at_call 112; exact Calls.quiet_of (C2 _)))
  go_wp2
  go_ret
  refine ⟨ret1 ?_, _, rfl⟩
  rw [bits_join .u64 64 (by decide) wraps_u64 32 ((A : Int) * 4294967296) D (by omega) (by omega) (by omega) (by omega) (by omega) (by omega), HV.out]
  omega

theorem bigEndianWord (g o n c : Nat) (B : Nat → Nat) (w : World) (hn : 8 ≤ n) (hc : n ≤ c) (hb : Byts w g o 8 B) :
    Calls Tryz.prog 79 #[.slice (some ⟨g, o, none⟩) n c] w fun e w' => e = .returned (.int .u64 ((be B 0 8 : Nat) : Int)) ∧ ∃ q, w' = w.drewN q := by
  have C := beUint64 g o n c B w hn hc hb
  clear hb
  go_enter Tryz.func79, Tryz.ntmps79
  go_wp2_with fail
  refine C.mono ?_
  rintro e w1 ⟨rfl, q, rfl⟩
  go_wp2
  go_ret
  exact ⟨rfl, q, rfl⟩
end Go.Proofs.YtkholmbfeghhpaaGreatDoor
