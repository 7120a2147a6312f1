/- Blocks of words in memory: what a block holds, what a store makes of it, and which blocks a call may have written. No conditions. -/
import Derived.Test.YtkholmbfeghhpaaGreatDoorProg
import Derived.WalkKit
import Derived.KernelRfl
import Derived.Lib.Hide
import Derived.Deep.Draws
import Derived.Deep.QuietTactic
import Derived.BigQuiet
import Derived.WalkSpells
import Derived.WalkLawsBesides
namespace Go.Proofs.YtkholmbfeghhpaaGreatDoor
open Go.RowKit

/-- The base of a word. -/
def BB : Nat := 18446744073709551616
theorem BB_eq : BB = 18446744073709551616 := rfl
theorem BB_pos : 0 < BB := by unfold BB; omega
/-- The greatest length of a row of words that is spoken of. -/
def LL : Nat := 1000000000
theorem LL_eq : LL = 1000000000 := rfl

/-- How many numbers a kind has, for the kinds that are spoken of. -/
def capK : IntKind → Nat
  | .u8 => 256
  | .u32 => 4294967296
  | .u64 => BB
  | _ => 0

/-- Block g is a row of len numbers of one kind, F j the j-th. -/
structure Blk (K : IntKind) (T : TypeId) (w : World) (g len : Nat) (F : Nat → Nat) : Prop where
  row : ∃ c : Array Value, w.heap[g]? = some (.cells c T (0, 0)) ∧ c.size = len ∧ ∀ j, j < len → c[j]? = some (.int K (F j : Nat))
  word : ∀ j, j < len → F j < capK K
  room : len ≤ LL
/-- The words' type. -/
abbrev TW : TypeId := 115
abbrev BlkW := Blk .u64 TW

/-- The world has new blocks, and of the old ones only those in S may have been written. -/
structure Fr (S : Nat → Prop) (w w' : World) : Prop where
  os : w'.os = w.os
  tape : w'.tape = w.tape
  output : w'.output = w.output
  size : w.heap.size ≤ w'.heap.size
  block : ∀ k, k < w.heap.size → ¬ S k → w'.heap[k]? = w.heap[k]?

abbrev NoS : Nat → Prop := fun _ => False

theorem Fr.refl (S : Nat → Prop) (w : World) : Fr S w w := ⟨rfl, rfl, rfl, Nat.le_refl _, fun _ _ _ => rfl⟩
theorem Fr.trans {S S' : Nat → Prop} {w w1 w2 : World} (h : Fr S w w1) (k : Fr S' w1 w2) (hs : ∀ i, i < w.heap.size → S' i → S i) : Fr S w w2 :=
  ⟨k.os.trans h.os, k.tape.trans h.tape, k.output.trans h.output, Nat.le_trans h.size k.size,
    fun i hi hn => (k.block i (Nat.lt_of_lt_of_le hi h.size) (fun x => hn (hs i hi x))).trans (h.block i hi hn)⟩
theorem Fr.trans' {S : Nat → Prop} {w w1 w2 : World} (h : Fr S w w1) (k : Fr S w1 w2) : Fr S w w2 := h.trans k fun _ _ x => x
theorem Fr.mono {S S' : Nat → Prop} {w w' : World} (h : Fr S w w') (hs : ∀ i, i < w.heap.size → S i → S' i) : Fr S' w w' :=
  ⟨h.os, h.tape, h.output, h.size, fun k hk hn => h.block k hk (fun x => hn (hs k hk x))⟩
theorem Fr.drew {S : Nat → Prop} {a w : World} (h : Fr S a w) : Fr S a w.drew := ⟨h.os, h.tape, h.output, h.size, h.block⟩
theorem Fr.drewN {S : Nat → Prop} {a w : World} (h : Fr S a w) (n : Nat) : Fr S a (w.drewN n) := ⟨h.os, h.tape, h.output, h.size, h.block⟩
theorem Fr.alloc {S : Nat → Prop} {a w : World} (h : Fr S a w) (o : Obj) : Fr S a (w.alloc o) :=
  ⟨h.os, h.tape, h.output, by have := h.size; simp; omega, fun k hk hn => by
    rw [← h.block k hk hn]; exact Below.heap_alloc _ _ _ (by have := h.size; omega)⟩
theorem Fr.setCell {S : Nat → Prop} {a w : World} (h : Fr S a w) (p : Addr) (v : Value) (hp : a.heap.size ≤ p.block ∨ S p.block) : Fr S a (w.setCell p v) :=
  ⟨h.os, h.tape, h.output, by simpa using h.size, fun k hk hn => by
    rw [← h.block k hk hn]; refine Below.heap_setCell _ _ _ _ ?_; rintro rfl; rcases hp with hp | hp; · omega
    · exact hn hp⟩
theorem Fr.set (w : World) (p o : Nat) (v : Value) : Fr (fun k => k = p) w (w.setCell ⟨p, o, none⟩ v) := (Fr.refl (fun k => k = p) w).setCell ⟨p, o, none⟩ v (.inr rfl)
theorem Fr.below {w w' : World} (h : Fr NoS w w') : Below w.heap.size w w' := ⟨h.os, h.tape, h.output, h.size, fun k hk => h.block k hk (fun x => x)⟩
theorem Fr.of_below {S : Nat → Prop} {w w' : World} (h : Below w.heap.size w w') : Fr S w w' := ⟨h.os, h.tape, h.output, h.size, fun k hk _ => h.block k hk⟩
theorem Fr.lt {S : Nat → Prop} {w w' : World} (h : Fr S w w') {k : Nat} (hk : k < w.heap.size) : k < w'.heap.size := Nat.lt_of_lt_of_le hk h.size
theorem Fr.cell {S : Nat → Prop} {w w' : World} (h : Fr S w w') {p : Addr} (hp : p.block < w.heap.size) (hn : ¬ S p.block) : w'.cell? p = w.cell? p := World.cell?_of_block (w := w) (h.block p.block hp hn)
theorem Fr.frozen {S : Nat → Prop} {w w' : World} (h : Fr S w w') {p : Addr} (hp : p.block < w.heap.size) (hn : ¬ S p.block) : w'.frozen? p = w.frozen? p := World.frozen?_of_block (w := w) (h.block p.block hp hn)

section
variable {K : IntKind} {T : TypeId} {w w' : World} {g len : Nat} {F : Nat → Nat}
theorem Blk.lt (h : Blk K T w g len F) : g < w.heap.size := by
  obtain ⟨c, hc, _⟩ := h.row
  exact (Array.getElem?_eq_some_iff.1 hc).1
theorem Blk.of_eq (h : Blk K T w g len F) (e : w'.heap[g]? = w.heap[g]?) : Blk K T w' g len F :=
  ⟨by obtain ⟨c, hc, r⟩ := h.row; exact ⟨c, e.trans hc, r⟩, h.word, h.room⟩
theorem Blk.fr {S : Nat → Prop} (h : Blk K T w g len F) (f : Fr S w w') (hn : ¬ S g) : Blk K T w' g len F := h.of_eq (f.block g h.lt hn)
theorem Blk.drew (h : Blk K T w g len F) : Blk K T w.drew g len F := h.of_eq rfl
theorem Blk.drewN (h : Blk K T w g len F) (n : Nat) : Blk K T (w.drewN n) g len F := h.of_eq rfl
theorem Blk.alloc (h : Blk K T w g len F) (o : Obj) : Blk K T (w.alloc o) g len F := h.of_eq (Below.heap_alloc _ _ _ h.lt)
theorem Blk.cell (h : Blk K T w g len F) {j : Nat} (hj : j < len) : w.cell? ⟨g, j, none⟩ = some (.int K (F j : Nat)) := by
  obtain ⟨c, hc, hs, hr⟩ := h.row
  simp [World.cell?, hc, hr j hj]
theorem Blk.free (h : Blk K T w g len F) (j : Nat) : w.frozen? ⟨g, j, none⟩ = false := by
  obtain ⟨c, hc, _⟩ := h.row
  simp [World.frozen?, hc]
/-- One number changed. -/
def upd (F : Nat → Nat) (i x : Nat) : Nat → Nat := fun j => if j = i then x else F j
theorem upd_same (F : Nat → Nat) (i x : Nat) : upd F i x i = x := by simp [upd]
theorem upd_other (F : Nat → Nat) (i x j : Nat) (h : j ≠ i) : upd F i x j = F j := by simp [upd, h]
theorem Blk.store (h : Blk K T w g len F) {i x : Nat} (hx : x < capK K) : Blk K T (w.setCell ⟨g, i, none⟩ (.int K (x : Nat))) g len (upd F i x) := by
  obtain ⟨c, hc, hs, hr⟩ := h.row
  refine ⟨⟨c.setIfInBounds i (.int K (x : Nat)), ?_, by simp [hs], fun j hj => ?_⟩, fun j hj => ?_, h.room⟩
  · simp [World.setCell, Array.getElem?_modify, hc]
  · rw [Array.getElem?_setIfInBounds]
    by_cases e : i = j
    · subst e; rw [if_pos rfl, if_pos (by omega), upd_same]
    · rw [if_neg e, hr j hj, upd_other _ _ _ _ (fun x => e x.symm)]
  · unfold upd; split
    · exact hx
    · exact h.word j hj
theorem Blk.other (h : Blk K T w g len F) {p : Addr} (hp : p.block ≠ g) (v : Value) : Blk K T (w.setCell p v) g len F :=
  h.of_eq (Below.heap_setCell _ _ _ _ (fun e => hp e.symm))
theorem Blk.congr {G : Nat → Nat} (h : Blk K T w g len F) (e : ∀ j, j < len → F j = G j) : Blk K T w g len G :=
  ⟨by obtain ⟨c, hc, hs, hr⟩ := h.row; exact ⟨c, hc, hs, fun j hj => by rw [hr j hj, e j hj]⟩, fun j hj => by rw [← e j hj]; exact h.word j hj, h.room⟩
/-- Two readings of one block agree. -/
theorem Blk.same {len' : Nat} {G : Nat → Nat} (h : Blk K T w g len F) (h' : Blk K T w g len' G) : len = len' ∧ ∀ j, j < len → F j = G j := by
  obtain ⟨c, hc, hs, hr⟩ := h.row
  obtain ⟨c', hc', hs', hr'⟩ := h'.row
  rw [hc] at hc'
  injection hc' with hc'
  injection hc' with hc'
  subst hc'
  refine ⟨by omega, fun j hj => ?_⟩
  have := (hr j hj).symm.trans (hr' j (by omega))
  simp at this
  omega
/-- A new row of zeros. -/
theorem Blk.made (w : World) (n : Nat) (hn : n ≤ LL) (hK : 0 < capK K) : Blk K T (w.alloc (.cells (Array.replicate n (.int K 0)) T)) w.heap.size n (fun _ => 0) :=
  ⟨⟨Array.replicate n (.int K 0), heap_alloc_new w _, Array.size_replicate, fun j hj => by rw [Array.getElem?_replicate, if_pos hj]; rfl⟩, fun _ _ => hK, hn⟩
end

/-! ### Rows that are read -/
/-- The value is a slice of n numbers, F j the j-th: nil, or some of the cells of a block. -/
def Rd (K : IntKind) (T : TypeId) (w : World) (v : Value) (n : Nat) (F : Nat → Nat) : Prop :=
  (v = .slice none 0 0 ∧ n = 0) ∨ ∃ (g o c : Nat) (cs : Array Value), v = .slice (some ⟨g, o, none⟩) n c ∧ n ≤ c ∧ c ≤ LL ∧ o ≤ LL ∧ w.heap[g]? = some (.cells cs T (0, 0)) ∧
    ∀ j, j < n → cs[o + j]? = some (.int K (F j : Nat)) ∧ F j < capK K
/-- The value is a slice of n numbers that begins at the head of a block of its own, F j the j-th in the whole block: nil, or such a block. -/
def Own (K : IntKind) (T : TypeId) (w : World) (v : Value) (n : Nat) (F : Nat → Nat) : Prop :=
  (v = .slice none 0 0 ∧ n = 0) ∨ ∃ g c : Nat, v = .slice (some ⟨g, 0, none⟩) n c ∧ n ≤ c ∧ Blk K T w g c F
abbrev RdW := Rd .u64 TW
abbrev OwnW := Own .u64 TW

section
variable {K : IntKind} {T : TypeId} {w w' : World} {v : Value} {n : Nat} {F : Nat → Nat}
theorem Own.rd (h : Own K T w v n F) : Rd K T w v n F := by
  rcases h with h | ⟨g, c, rfl, hn, hb⟩
  · exact .inl h
  · have hr := hb.room
    obtain ⟨cs, hc, hs, hr'⟩ := hb.row
    exact .inr ⟨g, 0, c, cs, rfl, hn, hr, Nat.zero_le _, hc, fun j hj => ⟨by rw [Nat.zero_add]; exact hr' j (by omega), hb.word j (by omega)⟩⟩
theorem Rd.lt (h : Rd K T w v n F) {k : Nat} (hk : v.ownBlock = some k) : k < w.heap.size := by
  rcases h with ⟨rfl, _⟩ | ⟨g, o, c, cs, rfl, _, _, _, hc, _⟩
  · simp [Value.ownBlock] at hk
  · simp [Value.ownBlock] at hk; subst hk; exact (Array.getElem?_eq_some_iff.1 hc).1
theorem Rd.of_eq (h : Rd K T w v n F) (e : ∀ k, v.ownBlock = some k → w'.heap[k]? = w.heap[k]?) : Rd K T w' v n F := by
  rcases h with h | ⟨g, o, c, cs, rfl, h1, h2, h3, hc, hr⟩
  · exact .inl h
  · exact .inr ⟨g, o, c, cs, rfl, h1, h2, h3, (e g rfl).trans hc, hr⟩
theorem Rd.fr {S : Nat → Prop} (h : Rd K T w v n F) (f : Fr S w w') (hn : ∀ k, v.ownBlock = some k → ¬ S k) : Rd K T w' v n F := h.of_eq fun k hk => f.block k (h.lt hk) (hn k hk)
theorem Own.lt (h : Own K T w v n F) {k : Nat} (hk : v.ownBlock = some k) : k < w.heap.size := h.rd.lt hk
theorem Own.of_eq (h : Own K T w v n F) (e : ∀ k, v.ownBlock = some k → w'.heap[k]? = w.heap[k]?) : Own K T w' v n F := by
  rcases h with h | ⟨g, c, rfl, h1, hb⟩
  · exact .inl h
  · exact .inr ⟨g, c, rfl, h1, hb.of_eq (e g rfl)⟩
theorem Own.fr {S : Nat → Prop} (h : Own K T w v n F) (f : Fr S w w') (hn : ∀ k, v.ownBlock = some k → ¬ S k) : Own K T w' v n F := h.of_eq fun k hk => f.block k (h.lt hk) (hn k hk)
theorem Rd.word (h : Rd K T w v n F) {j : Nat} (hj : j < n) : F j < capK K := by
  rcases h with ⟨_, rfl⟩ | ⟨g, o, c, cs, rfl, h1, h2, h3, hc, hr⟩
  · omega
  · exact (hr j hj).2
theorem Rd.le (h : Rd K T w v n F) : n ≤ LL := by
  rcases h with ⟨_, rfl⟩ | ⟨g, o, c, cs, rfl, h1, h2, h3, hc, hr⟩
  · exact Nat.zero_le _
  · omega
theorem Rd.congr {G : Nat → Nat} (h : Rd K T w v n F) (e : ∀ j, j < n → F j = G j) : Rd K T w v n G := by
  rcases h with h | ⟨g, o, c, cs, rfl, h1, h2, h3, hc, hr⟩
  · exact .inl h
  · exact .inr ⟨g, o, c, cs, rfl, h1, h2, h3, hc, fun j hj => by rw [← e j hj]; exact hr j hj⟩
theorem cell_of_heap {g o : Nat} {cs : Array Value} {T : TypeId} {fr : Nat × Nat} {u : Value} (h : w.heap[g]? = some (.cells cs T fr)) (hu : cs[o]? = some u) : w.cell? ⟨g, o, none⟩ = some u := by
  simp [World.cell?, h, hu]
end

/-- The number that n digits to a base b are, from place o on. -/
def Vb (b : Nat) (F : Nat → Nat) (o : Nat) : Nat → Nat
  | 0 => 0
  | n + 1 => Vb b F o n + b ^ n * F (o + n)
section
variable {b : Nat} {F G : Nat → Nat} {o o' n : Nat}
theorem V_zero (b : Nat) (F : Nat → Nat) (o : Nat) : Vb b F o 0 = 0 := rfl
theorem V_succ (b : Nat) (F : Nat → Nat) (o n : Nat) : Vb b F o (n + 1) = Vb b F o n + b ^ n * F (o + n) := rfl
theorem V_congr (h : ∀ j, j < n → F (o + j) = G (o' + j)) : Vb b F o n = Vb b G o' n := by
  induction n with
  | zero => rfl
  | succ n ih => rw [V_succ, V_succ, ih (fun j hj => h j (by omega)), h n (by omega)]
theorem V_lt (h : ∀ j, j < n → F (o + j) < b) : Vb b F o n < b ^ n := by
  induction n with
  | zero => simp [Vb]
  | succ n ih =>
    have h1 := ih (fun j hj => h j (by omega))
    have h2 : F (o + n) + 1 ≤ b := h n (by omega)
    rw [V_succ, Nat.pow_succ]
    calc Vb b F o n + b ^ n * F (o + n) < b ^ n + b ^ n * F (o + n) := by omega
      _ = b ^ n * (F (o + n) + 1) := by rw [Nat.mul_add]; omega
      _ ≤ b ^ n * b := Nat.mul_le_mul_left _ h2
theorem V_add (b : Nat) (F : Nat → Nat) (o m n : Nat) : Vb b F o (m + n) = Vb b F o m + b ^ m * Vb b F (o + m) n := by
  induction n with
  | zero => simp [Vb]
  | succ n ih => rw [← Nat.add_assoc, V_succ, ih, V_succ, Nat.mul_add, Nat.pow_add, ← Nat.mul_assoc, Nat.add_assoc o m n]; omega
theorem V_upd_succ (b : Nat) (F : Nat → Nat) (o n x : Nat) : Vb b (upd F (o + n) x) o (n + 1) = Vb b F o n + b ^ n * x := by
  rw [V_succ, upd_same, V_congr (F := upd F (o + n) x) (G := F) (o' := o) (fun j hj => upd_other _ _ _ _ (by omega))]
theorem split_word (p : Nat) : p % BB + BB * (p / BB) = p := Nat.mod_add_div p BB
theorem V_one (b : Nat) (F : Nat → Nat) (o : Nat) : Vb b F o 1 = F o := by simp [Vb]
/-- The last digit is not 0, if there is one. -/
def Top (F : Nat → Nat) (n : Nat) : Prop := n = 0 ∨ 0 < F (n - 1)
theorem V_top (h : 0 < F (o + n)) : b ^ n ≤ Vb b F o (n + 1) := by
  rw [V_succ]
  have := Nat.mul_le_mul_left (b ^ n) h
  omega
theorem V_zeros (h : ∀ j, j < n → F (o + j) = 0) : Vb b F o n = 0 := by
  induction n with
  | zero => rfl
  | succ n ih => rw [V_succ, ih (fun j hj => h j (by omega)), h n (by omega)]; rfl
theorem V_eq_zero (hb : 0 < b) (h : Vb b F o n = 0) : ∀ j, j < n → F (o + j) = 0 := by
  induction n with
  | zero => intro j hj; omega
  | succ n ih =>
    rw [V_succ] at h
    intro j hj
    have hp : 0 < b ^ n := Nat.pow_pos hb
    have h2 : F (o + n) = 0 := by
      rcases Nat.eq_zero_or_pos (F (o + n)) with h0 | h0
      · exact h0
      · have := Nat.mul_pos hp h0; omega
    by_cases e : j = n
    · subst e; exact h2
    · exact ih (by omega) j (by omega)
end

theorem Rd.shape {K : IntKind} {T : TypeId} {w : World} {v : Value} {n : Nat} {F : Nat → Nat} (h : Rd K T w v n F) : ∃ A c, v = .slice A n c ∧ n ≤ c ∧ c ≤ 1000000000 := by
  rcases h with ⟨rfl, rfl⟩ | ⟨g, o, c, cs, rfl, h1, h2, _⟩
  · exact ⟨none, 0, rfl, by omega, by omega⟩
  · exact ⟨_, c, rfl, h1, by rw [LL_eq] at h2; exact h2⟩

/-! ### Endings, number by number -/
theorem bodyPostD_ret {P : Program} {fn : Func} {R : Ending → World → Prop} {a : Act} {w : World} {v : Value} (hr : (results fn a.tmps).run P w = .ok v w) (hd : a.defers = []) (hR : R (.returned v) w) : bodyPostD P fn R .ret a w := by
  show Leaves P fn a.tmps R a.defers .returning w
  rw [hd]
  exact ⟨v, hr, hR⟩
theorem bodyPostD_end {P : Program} {fn : Func} {R : Ending → World → Prop} {a : Act} {w : World} {v : Value} (hr : (results fn a.tmps).run P w = .ok v w) (hd : a.defers = []) (hR : R (.returned v) w) : bodyPostD P fn R .normal a w := by
  show Leaves P fn a.tmps R a.defers .returning w
  rw [hd]
  exact ⟨v, hr, hR⟩
theorem ret1 {k : IntKind} {a b : Int} (h : a = b) : Ending.returned (.int k a) = .returned (.int k b) := by rw [h]
theorem ret2 {k l : IntKind} {a b c d : Int} (h : a = b) (h' : c = d) : Ending.returned (.tuple #[.int k a, .int l c]) = .returned (.tuple #[.int k b, .int l d]) := by rw [h, h']
theorem int_eq {k : IntKind} {a b : Int} (h : a = b) : Value.int k a = .int k b := by rw [h]
theorem some_int {k : IntKind} {a b : Int} (h : a = b) : some (Value.int k a) = some (.int k b) := by rw [h]
end Go.Proofs.YtkholmbfeghhpaaGreatDoor
