/- A decimal, read back from its sixteen bytes. Conditions: the bytes are such as the writing made. -/
import Derived.Test.YtkholmbfeghhpaaGreatDoorParse
namespace Go.Proofs.YtkholmbfeghhpaaGreatDoor
open Go.RowKit

set_option maxRecDepth 100000 in
set_option maxHeartbeats 1000000 in
theorem gv_Unmarshal (neg : Bool) (p g c s : Nat) (B : Nat → Nat) (a0 a1 a2 : Value) (w : World) (hp : w.heap[p]? = some (.cells #[a0, a1, a2] 46 (0, 0))) (hB : Byts w g 0 16 B) (hI : Is16 neg c s B) (hs : s ≤ 19) (hc : c < 10000000000000000000) (hG : Glob w) :
    Calls Tryz.prog 15 #[.pointer (some ⟨p, 0, none⟩), .int .u8 19, .slice (some ⟨g, 0, none⟩) 16 16] w fun e w' =>
      e = .returned .nilIface ∧ w'.heap[p]? = some (.cells #[.bool (neg && decide (0 < c)), .int .i8 s, .int .u64 c] 46 (0, 0)) ∧ Fr (· = p) w w' := by
  have C := gv_parse neg g c s B w hB hI hs hc hG
  have HC := Lib.hid C
  have HP := Lib.hid hp
  clear C hp hB hI hG
  generalize (neg && decide (0 < c)) = dd at *
  go_enter Tryz.func15, Tryz.ntmps15
  go_wp2_with fail
  refine HC.out.mono ?_
  rintro e w1 ⟨rfl, hf1⟩
  have hp1 := (hf1.block p ((Array.getElem?_eq_some_iff.1 HP.out).1) (fun x => x)).trans HP.out
  obtain ⟨k0, k1, k2, f0, f1, f2⟩ := cells3 hp1
  go_wp2
  go_ret
  have hF : Fr (· = p) w w1 := hf1.mono fun _ _ x => x.elim
  have hF2 := ((hF.setCell ⟨p, 0, none⟩ (.bool dd) (.inr rfl)).setCell ⟨p, 1, none⟩ (.int .i8 s) (.inr rfl)).setCell ⟨p, 2, none⟩ (.int .u64 c) (.inr rfl)
  refine ⟨rfl, ?_, hF2⟩
  rw [heap_setCell_same _ p 2 _ _ _ (heap_setCell_same _ p 1 _ _ _ (heap_setCell_same w1 p 0 _ _ _ hp1))]
  rfl
end Go.Proofs.YtkholmbfeghhpaaGreatDoor
