/- Whole numbers of any length in memory: a sign and a slice of words behind a pointer; the simple operations. Conditions: the numbers lie in memory. -/
import Derived.Test.YtkholmbfeghhpaaGreatDoorMulNat
namespace Go.Proofs.YtkholmbfeghhpaaGreatDoor
open Go.RowKit

/-- The type of whole numbers of any length. -/
abbrev TI : TypeId := 92
/-- A number is read at block p: its sign, its words. -/
structure IntRd (w : World) (p : Nat) (neg : Bool) (v : Value) (n : Nat) (F : Nat → Nat) : Prop where
  blk : w.heap[p]? = some (.cells #[.bool neg, v] TI (0, 0))
  rd : RdW w v n F
  top : Top F n
  sign : neg = true → 0 < n
/-- A number that may be written. -/
structure IntOwn (w : World) (p : Nat) (neg : Bool) (v : Value) (n : Nat) (F : Nat → Nat) : Prop where
  blk : w.heap[p]? = some (.cells #[.bool neg, v] TI (0, 0))
  own : OwnW w v n F
  top : Top F n
  sign : neg = true → 0 < n
/-- The number. -/
def sgn (neg : Bool) (m : Nat) : Int := if neg then -(m : Int) else m

theorem IntOwn.rd {w : World} {p : Nat} {neg : Bool} {v : Value} {n : Nat} {F : Nat → Nat} (h : IntOwn w p neg v n F) : IntRd w p neg v n F := ⟨h.blk, h.own.rd, h.top, h.sign⟩
section
variable {w w' : World} {p : Nat} {neg : Bool} {v : Value} {n : Nat} {F : Nat → Nat}
theorem IntRd.lt (h : IntRd w p neg v n F) : p < w.heap.size := (Array.getElem?_eq_some_iff.1 h.blk).1
theorem IntRd.c0 (h : IntRd w p neg v n F) : w.cell? ⟨p, 0, none⟩ = some (.bool neg) := by simp [World.cell?, h.blk]
theorem IntRd.c1 (h : IntRd w p neg v n F) : w.cell? ⟨p, 1, none⟩ = some v := by simp [World.cell?, h.blk]
theorem IntRd.fz (h : IntRd w p neg v n F) (j : Nat) : w.frozen? ⟨p, j, none⟩ = false := by simp [World.frozen?, h.blk]
theorem IntRd.of_eq (h : IntRd w p neg v n F) (e : w'.heap[p]? = w.heap[p]?) (e' : ∀ k, v.ownBlock = some k → w'.heap[k]? = w.heap[k]?) : IntRd w' p neg v n F :=
  ⟨e.trans h.blk, h.rd.of_eq e', h.top, h.sign⟩
theorem IntRd.fr {S : Nat → Prop} (h : IntRd w p neg v n F) (f : Fr S w w') (hp : ¬ S p) (hv : ∀ k, v.ownBlock = some k → ¬ S k) : IntRd w' p neg v n F :=
  h.of_eq (f.block p h.lt hp) fun k hk => f.block k (h.rd.lt hk) (hv k hk)
theorem IntOwn.lt (h : IntOwn w p neg v n F) : p < w.heap.size := h.rd.lt
theorem IntOwn.of_eq (h : IntOwn w p neg v n F) (e : w'.heap[p]? = w.heap[p]?) (e' : ∀ k, v.ownBlock = some k → w'.heap[k]? = w.heap[k]?) : IntOwn w' p neg v n F :=
  ⟨e.trans h.blk, h.own.of_eq e', h.top, h.sign⟩
theorem IntOwn.fr {S : Nat → Prop} (h : IntOwn w p neg v n F) (f : Fr S w w') (hp : ¬ S p) (hv : ∀ k, v.ownBlock = some k → ¬ S k) : IntOwn w' p neg v n F :=
  h.of_eq (f.block p h.lt hp) fun k hk => f.block k (h.own.lt hk) (hv k hk)
/-- The number's own block is none of words. -/
theorem Rd.ne_int {vx : Value} {nx : Nat} {X : Nat → Nat} (hx : RdW w vx nx X) {c : Array Value} (hb : w.heap[p]? = some (.cells c TI (0, 0))) : vx.ownBlock ≠ some p := by
  rcases hx with ⟨rfl, _⟩ | ⟨g, o, c', cs, rfl, _, _, _, hc, _⟩
  · simp [Value.ownBlock]
  · intro e
    simp [Value.ownBlock] at e
    subst e
    rw [hb] at hc
    injection hc with hc
    injection hc with _ hc
    exact absurd hc (by decide)
/-- Both cells are written. -/
theorem int_set (hb : w.heap[p]? = some (.cells #[.bool neg, v] TI (0, 0))) (v' : Value) : (w.setCell ⟨p, 1, none⟩ v').heap[p]? = some (.cells #[.bool neg, v'] TI (0, 0)) := by
  rw [heap_setCell_same w p 1 _ _ _ hb]; rfl
theorem int_set0 (hb : w.heap[p]? = some (.cells #[.bool neg, v] TI (0, 0))) (b : Bool) : (w.setCell ⟨p, 0, none⟩ (.bool b)).heap[p]? = some (.cells #[.bool b, v] TI (0, 0)) := by
  rw [heap_setCell_same w p 0 _ _ _ hb]; rfl
end

set_option maxHeartbeats 1000000 in
theorem int_SetUint64 (p x l : Nat) (neg : Bool) (v : Value) (F : Nat → Nat) (w : World) (hb : w.heap[p]? = some (.cells #[.bool neg, v] TI (0, 0))) (h : OwnW w v l F) (hx : x < BB) :
    Calls Tryz.prog 82 #[.pointer (some ⟨p, 0, none⟩), .int .u64 x] w fun e w' =>
      ∃ (v' : Value) (n : Nat) (G : Nat → Nat), e = .returned (.pointer (some ⟨p, 0, none⟩)) ∧ IntOwn w' p false v' n G ∧ n ≤ 1 ∧ Vb BB G 0 n = x ∧ Fr (fun k => k = p ∨ v.ownBlock = some k) w w' ∧ (∀ k, v'.ownBlock = some k → v.ownBlock = some k ∨ w.heap.size ≤ k) := by
  have c1 : w.cell? ⟨p, 1, none⟩ = some v := by simp [World.cell?, hb]
  go_enter Tryz.func82, Tryz.ntmps82
  go_wp2_with fail
  refine (nat_setUint64 v l x F w h hx).mono ?_
  rintro e w1 ⟨v', n, G, rfl, hm, hn, ht, hv⟩
  have hne := h.rd.ne_int hb
  have hb1 : w1.heap[p]? = some (.cells #[.bool neg, v] TI (0, 0)) := (hm.fr.block p (Array.getElem?_eq_some_iff.1 hb).1 hne).trans hb
  have d1 : w1.cell? ⟨p, 1, none⟩ = some v := by simp [World.cell?, hb1]
  have d0 : w1.cell? ⟨p, 0, none⟩ = some (.bool neg) := by simp [World.cell?, hb1]
  have f1 : w1.frozen? ⟨p, 1, none⟩ = false := by simp [World.frozen?, hb1]
  have f0 : w1.frozen? ⟨p, 0, none⟩ = false := by simp [World.frozen?, hb1]
  obtain ⟨A', c', rfl, hc1, hc2⟩ := hm.own.rd.shape
  have hV := Lib.hid hv
  clear hv
  go_wp2
  go_ret
  have hlp := (Array.getElem?_eq_some_iff.1 hb).1
  have hne' : (Value.slice A' n c').ownBlock ≠ some p := hm.own.rd.ne_int hb1
  have hf : Fr (· = p) w1 ((w1.setCell ⟨p, 1, none⟩ (.slice A' n c')).setCell ⟨p, 0, none⟩ (.bool false)) := (Fr.set _ _ _ _).trans' (Fr.set _ _ _ _)
  exact ⟨_, n, G, rfl, ⟨int_set0 (int_set hb1 _) _, hm.own.fr hf (fun k hk e => hne' (by rw [hk, e])), ht, fun e => by cases e⟩, hn, hV.out, (hm.fr.mono fun k _ e => .inr e).trans hf (fun k _ e => .inl e), hm.at_⟩

theorem low64_any (v : Value) (n : Nat) (F : Nat → Nat) (w : World) (h : RdW w v n F) :
    Calls Tryz.prog 92 #[v] w fun e w' => e = .returned (.int .u64 ((if n = 0 then 0 else F 0 : Nat) : Int)) ∧ w = w' := by
  obtain ⟨A, c, rfl, h1, h2⟩ := h.shape
  by_cases hn : n = 0
  · subst hn
    have hb : (((0 : Nat) : Int) == 0) = true := by simp
    go_enter Tryz.func92, Tryz.ntmps92
    go_wp2
    go_ret
    exact ⟨rfl, rfl⟩
  · rcases h with ⟨_, e⟩ | ⟨g, o, c', cs, e, h3, h4, h5, hc, hr⟩
    · omega
    simp only [Value.slice.injEq, true_and] at e
    obtain ⟨rfl, rfl⟩ := e
    have hc0 := cell_of_heap hc (hr 0 (by omega)).1
    rw [Nat.add_zero] at hc0
    have hb : ((n : Int) == 0) = false := by simp; exact hn
    have hpos : 0 < n := by omega
    rw [if_neg hn]
    clear hn
    go_enter Tryz.func92, Tryz.ntmps92
    go_wp2
    go_ret
    exact ⟨rfl, rfl⟩

theorem int_Uint64 (p n : Nat) (neg : Bool) (v : Value) (F : Nat → Nat) (w : World) (h : IntRd w p neg v n F) :
    Calls Tryz.prog 70 #[.pointer (some ⟨p, 0, none⟩)] w fun e w' => e = .returned (.int .u64 ((if n = 0 then 0 else F 0 : Nat) : Int)) ∧ w = w' := by
  have c1 := h.c1
  have L := low64_any v n F w h.rd
  generalize (if n = 0 then 0 else F 0) = r at L ⊢
  go_enter Tryz.func70, Tryz.ntmps70
  go_wp2_with fail
  refine L.mono ?_
  rintro e w1 ⟨rfl, rfl⟩
  go_wp2
  go_ret
  exact ⟨rfl, rfl⟩

theorem int_Sign (p n : Nat) (neg : Bool) (v : Value) (F : Nat → Nat) (w : World) (h : IntRd w p neg v n F) :
    Calls Tryz.prog 47 #[.pointer (some ⟨p, 0, none⟩)] w fun e w' => e = .returned (.int .i64 (if n = 0 then 0 else if neg = true then -1 else 1)) ∧ w = w' := by
  have c1 := h.c1
  have c0 := h.c0
  obtain ⟨A, c, rfl, h1, h2⟩ := h.rd.shape
  by_cases hn : n = 0
  · subst hn
    have hb : (((0 : Nat) : Int) == 0) = true := by simp
    go_enter Tryz.func47, Tryz.ntmps47
    go_wp2
    go_ret
    exact ⟨rfl, rfl⟩
  · have hb : ((n : Int) == 0) = false := by simp; exact hn
    rw [if_neg hn]
    clear hn
    cases neg
    · go_enter Tryz.func47, Tryz.ntmps47
      go_wp2
      go_ret
      exact ⟨rfl, rfl⟩
    · go_enter Tryz.func47, Tryz.ntmps47
      go_wp2
      go_ret
      exact ⟨rfl, rfl⟩
end Go.Proofs.YtkholmbfeghhpaaGreatDoor
