/- Whole numbers of any length as the decimals' package uses them: the small functions. Conditions: the numbers lie in memory. -/
import Derived.Test.YtkholmbfeghhpaaGreatDoorIntMul
import Derived.Test.YtkholmbfeghhpaaGreatDoorCmp
import Derived.Test.YtkholmbfeghhpaaGreatDoorSetB
namespace Go.Proofs.YtkholmbfeghhpaaGreatDoor
open Go.RowKit

set_option maxHeartbeats 1000000 in
theorem int_SetBytes (p l g o c : Nat) (neg : Bool) (v : Value) (F B : Nat → Nat) (w : World) (hb : w.heap[p]? = some (.cells #[.bool neg, v] TI (0, 0))) (h : OwnW w v l F) (hB : Byts w g o 15 B) (hc : 15 ≤ c) (hcl : c ≤ 1000000000) (hne : v.ownBlock ≠ some g) :
    Calls Tryz.prog 46 #[.pointer (some ⟨p, 0, none⟩), .slice (some ⟨g, o, none⟩) 15 c] w fun e w' =>
      ∃ (v' : Value) (n : Nat) (G : Nat → Nat), e = .returned (.pointer (some ⟨p, 0, none⟩)) ∧ IntOwn w' p false v' n G ∧ n ≤ 2 ∧ Vb BB G 0 n = be B 0 15 ∧ Fr (fun k => k = p ∨ v.ownBlock = some k) w w' ∧ (∀ k, v'.ownBlock = some k → v.ownBlock = some k ∨ w.heap.size ≤ k) := by
  have c1 : w.cell? ⟨p, 1, none⟩ = some v := by simp [World.cell?, hb]
  go_enter Tryz.func46, Tryz.ntmps46
  go_wp2_with fail
  refine (nat_setBytes v l g o c F B w h hB hc hcl hne).mono ?_
  rintro e w1 ⟨v', n, G, rfl, hm, hn, ht, hv⟩
  have hne2 := h.rd.ne_int hb
  have hb1 : w1.heap[p]? = some (.cells #[.bool neg, v] TI (0, 0)) := (hm.fr.block p (Array.getElem?_eq_some_iff.1 hb).1 hne2).trans hb
  have d1 : w1.cell? ⟨p, 1, none⟩ = some v := by simp [World.cell?, hb1]
  have d0 : w1.cell? ⟨p, 0, none⟩ = some (.bool neg) := by simp [World.cell?, hb1]
  have f1 : w1.frozen? ⟨p, 1, none⟩ = false := by simp [World.frozen?, hb1]
  have f0 : w1.frozen? ⟨p, 0, none⟩ = false := by simp [World.frozen?, hb1]
  obtain ⟨A', c', rfl, hc1, hc2⟩ := hm.own.rd.shape
  have hV := Lib.hid hv
  clear hv
  go_wp2
  go_ret
  have hlp := (Array.getElem?_eq_some_iff.1 hb).1
  have hne' : (Value.slice A' n c').ownBlock ≠ some p := hm.own.rd.ne_int hb1
  have hf : Fr (· = p) w1 ((w1.setCell ⟨p, 1, none⟩ (.slice A' n c')).setCell ⟨p, 0, none⟩ (.bool false)) := (Fr.set _ _ _ _).trans' (Fr.set _ _ _ _)
  exact ⟨_, n, G, rfl, ⟨int_set0 (int_set hb1 _) _, hm.own.fr hf (fun k hk e => hne' (by rw [hk, e])), ht, fun e => by cases e⟩, hn, hV.out, (hm.fr.mono fun k _ e => .inr e).trans hf (fun k _ e => .inl e), hm.at_⟩

/-- A new number. -/
theorem IntOwn.made (w : World) : IntOwn (w.alloc (.cells #[.bool false, .slice none 0 0] TI (0, 0))) w.heap.size false (.slice none 0 0) 0 (fun _ => 0) :=
  ⟨heap_alloc_new w _, .inl ⟨rfl, rfl⟩, .inl rfl, fun e => by cases e⟩

theorem gv_setBytes (p l g o c : Nat) (neg : Bool) (v : Value) (F B : Nat → Nat) (w : World) (hb : w.heap[p]? = some (.cells #[.bool neg, v] TI (0, 0))) (h : OwnW w v l F) (hB : Byts w g o 15 B) (hc : 15 ≤ c) (hcl : c ≤ 1000000000) (hne : v.ownBlock ≠ some g) :
    Calls Tryz.prog 37 #[.pointer (some ⟨p, 0, none⟩), .slice (some ⟨g, o, none⟩) 15 c] w fun e w' =>
      ∃ (v' : Value) (n : Nat) (G : Nat → Nat), e = .returned (.tuple #[]) ∧ IntOwn w' p false v' n G ∧ n ≤ 2 ∧ Vb BB G 0 n = be B 0 15 ∧ Fr (fun k => k = p ∨ v.ownBlock = some k) w w' ∧ (∀ k, v'.ownBlock = some k → v.ownBlock = some k ∨ w.heap.size ≤ k) := by
  have C := int_SetBytes p l g o c neg v F B w hb h hB hc hcl hne
  clear hb h hB
  go_enter Tryz.func37, Tryz.ntmps37
  go_wp2_with fail
  refine C.mono ?_
  rintro e w1 ⟨v', n, G, rfl, hR⟩
  have HR := Lib.hid hR
  clear hR C
  go_wp2
  go_end0
  exact ⟨v', n, G, rfl, HR.out⟩

theorem gv_getBint (w : World) : Calls Tryz.prog 35 #[] w fun e w' =>
    e = .returned (.pointer (some ⟨w.heap.size, 0, none⟩)) ∧ IntOwn w' w.heap.size false (.slice none 0 0) 0 (fun _ => 0) ∧ Fr NoS w w' := by
  go_enter Tryz.func35, Tryz.ntmps35
  go_wp2
  go_ret
  exact ⟨rfl, IntOwn.made w, (Fr.refl _ _).alloc _⟩

theorem gv_putBint (v : Value) (w : World) : Calls Tryz.prog 36 #[v] w fun e w' => e = .returned (.tuple #[]) ∧ w = w' := by
  go_enter Tryz.func36, Tryz.ntmps36
  go_wp2
  go_end0
  exact ⟨rfl, rfl⟩

theorem gv_sign (p n : Nat) (neg : Bool) (v : Value) (F : Nat → Nat) (w : World) (h : IntRd w p neg v n F) :
    Calls Tryz.prog 38 #[.pointer (some ⟨p, 0, none⟩)] w fun e w' => e = .returned (.int .i64 (if n = 0 then 0 else if neg = true then -1 else 1)) ∧ w = w' := by
  have C := int_Sign p n neg v F w h
  generalize (if n = 0 then (0 : Int) else if neg = true then -1 else 1) = r at *
  clear h
  go_enter Tryz.func38, Tryz.ntmps38
  go_wp2_with fail
  refine C.mono ?_
  rintro e w1 ⟨rfl, rfl⟩
  go_wp2
  go_ret
  exact ⟨rfl, rfl⟩

theorem gv_cmp (px py n m : Nat) (vx vy : Value) (X Y : Nat → Nat) (w : World) (hx : IntRd w px false vx n X) (hy : IntRd w py false vy m Y) (hne : px ≠ py) :
    Calls Tryz.prog 59 #[.pointer (some ⟨px, 0, none⟩), .pointer (some ⟨py, 0, none⟩)] w fun e w' => e = .returned (.int .i64 (cmpI (Vb BB X 0 n) (Vb BB Y 0 m))) ∧ ∃ q, w' = w.drewN q := by
  have C := int_Cmp px py n m vx vy X Y w hx hy hne
  generalize cmpI (Vb BB X 0 n) (Vb BB Y 0 m) = r at *
  clear hx hy
  go_enter Tryz.func59, Tryz.ntmps59
  go_wp2_with fail
  refine C.mono ?_
  rintro e w1 ⟨rfl, q, rfl⟩
  go_wp2
  go_ret
  exact ⟨rfl, q, rfl⟩

theorem gv_fint (p n : Nat) (neg : Bool) (v : Value) (F : Nat → Nat) (w : World) (h : IntRd w p neg v n F) :
    Calls Tryz.prog 53 #[.pointer (some ⟨p, 0, none⟩)] w fun e w' => e = .returned (.int .u64 ((if n = 0 then 0 else F 0 : Nat) : Int)) ∧ w = w' := by
  have C := int_Uint64 p n neg v F w h
  generalize (if n = 0 then 0 else F 0) = r at *
  clear h
  go_enter Tryz.func53, Tryz.ntmps53
  go_wp2_with fail
  refine C.mono ?_
  rintro e w1 ⟨rfl, rfl⟩
  go_wp2
  go_ret
  exact ⟨rfl, rfl⟩
end Go.Proofs.YtkholmbfeghhpaaGreatDoor
