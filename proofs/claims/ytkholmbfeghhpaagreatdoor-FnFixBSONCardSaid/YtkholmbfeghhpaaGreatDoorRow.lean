/- Rows of numbers that grow: a number appended. Conditions: the row is nil or lies at the head of a block of its own. -/
import Derived.Test.YtkholmbfeghhpaaGreatDoorMem
import Derived.Deep.AppendLies
namespace Go.Proofs.YtkholmbfeghhpaaGreatDoor
open Go.RowKit

/-- The value is a slice of n numbers, F j the j-th: nil, or the first cells of a block of its own. -/
def Row (K : IntKind) (T : TypeId) (w : World) (v : Value) (n : Nat) (F : Nat → Nat) : Prop :=
  (v = .slice none 0 0 ∧ n = 0) ∨ ∃ (g c : Nat) (cs : Array Value), v = .slice (some ⟨g, 0, none⟩) n c ∧ n ≤ c ∧ c ≤ maxLen ∧ w.heap[g]? = some (.cells cs T (0, 0)) ∧ cs.size = c ∧ ∀ j, j < n → cs[j]? = some (.int K (F j : Nat))

section
variable {K : IntKind} {T : TypeId} {w w' : World} {v : Value} {n : Nat} {F : Nat → Nat}
theorem Row.nil (K : IntKind) (T : TypeId) (w : World) (F : Nat → Nat) : Row K T w (.slice none 0 0) 0 F := .inl ⟨rfl, rfl⟩
theorem Row.lt (h : Row K T w v n F) {k : Nat} (hk : v.ownBlock = some k) : k < w.heap.size := by
  rcases h with ⟨rfl, _⟩ | ⟨g, c, cs, rfl, _, _, hc, _⟩
  · simp [Value.ownBlock] at hk
  · simp [Value.ownBlock] at hk; subst hk; exact (Array.getElem?_eq_some_iff.1 hc).1
theorem Row.of_eq (h : Row K T w v n F) (e : ∀ k, v.ownBlock = some k → w'.heap[k]? = w.heap[k]?) : Row K T w' v n F := by
  rcases h with h | ⟨g, c, cs, rfl, h1, h2, hc, r⟩
  · exact .inl h
  · exact .inr ⟨g, c, cs, rfl, h1, h2, (e g rfl).trans hc, r⟩
theorem Row.fr {S : Nat → Prop} (h : Row K T w v n F) (f : Fr S w w') (hn : ∀ k, v.ownBlock = some k → ¬ S k) : Row K T w' v n F := h.of_eq fun k hk => f.block k (h.lt hk) (hn k hk)
theorem Row.cell {g o c j : Nat} (h : Row K T w (.slice (some ⟨g, o, none⟩) n c) n F) (hj : j < n) : w.cell? ⟨g, o + j, none⟩ = some (.int K (F j : Nat)) := by
  rcases h with ⟨e, _⟩ | ⟨g', c', cs, e, _, _, hc, _, hr⟩
  · cases e
  · simp only [Value.slice.injEq, Option.some.injEq, Addr.mk.injEq] at e
    obtain ⟨⟨rfl, rfl, _⟩, _, rfl⟩ := e
    rw [Nat.zero_add]
    simp [World.cell?, hc, hr j hj]
theorem Row.free {g o c : Nat} (h : Row K T w (.slice (some ⟨g, o, none⟩) n c) n F) (j : Nat) : w.frozen? ⟨g, j, none⟩ = false := by
  rcases h with ⟨e, _⟩ | ⟨g', c', cs, e, _, _, hc, _, hr⟩
  · cases e
  · simp only [Value.slice.injEq, Option.some.injEq, Addr.mk.injEq] at e
    obtain ⟨⟨rfl, rfl, _⟩, _, rfl⟩ := e
    simp [World.frozen?, hc]
theorem Row.congr {G : Nat → Nat} (h : Row K T w v n F) (e : ∀ j, j < n → F j = G j) : Row K T w v n G := by
  rcases h with h | ⟨g, c, cs, rfl, h1, h2, hc, hs, r⟩
  · exact .inl h
  · exact .inr ⟨g, c, cs, rfl, h1, h2, hc, hs, fun j hj => by rw [← e j hj]; exact r j hj⟩

theorem Row.owns (h : Row K T w v n F) : w.ownsRow 0 T 1 v n ((List.range n).map fun j => .int K (F j : Nat)) := by
  refine ⟨by simp, ?_⟩
  rcases h with h | ⟨g, c, cs, rfl, h1, h2, hc, hs, r⟩
  · exact .inl h
  · refine .inr ⟨g, c, cs, rfl, Nat.zero_le _, hc, h1, h2, by omega, ?_⟩
    apply List.ext_getElem?
    intro j
    rw [Nat.mul_one, List.getElem?_take]
    by_cases hj : j < n
    · rw [if_pos hj]
      simp only [List.getElem?_map, List.getElem?_range hj, Option.map_some]
      rw [Array.getElem?_toList]; exact r j hj
    · rw [if_neg hj, List.getElem?_eq_none (by simp; omega)]
theorem Row.of_owns {xs : List Value} (h : w.ownsRow 0 T 1 v n xs) (hx : ∀ j, j < n → xs[j]? = some (.int K (F j : Nat))) : Row K T w v n F := by
  obtain ⟨hl, h | ⟨g, c, cs, rfl, _, hc, h1, h2, hs, ht⟩⟩ := h
  · exact .inl h
  · refine .inr ⟨g, c, cs, rfl, h1, h2, hc, by omega, fun j hj => ?_⟩
    have := hx j hj
    rw [← ht, Nat.mul_one, List.getElem?_take, if_pos hj, Array.getElem?_toList] at this
    exact this
theorem Fr.of_grown {row : Option Nat} (h : w.grownBy w' row) : Fr (fun k => row = some k) w w' := ⟨h.os, h.tape, h.output, h.size, fun k hk hn => h.block k hk (fun e => hn e.symm)⟩
end

/-- One number appended. -/
theorem wpList_push {P : Program} {ops : Array Oper} {rest : List Oper} {o : Oper} {a : Act} {w : World} {Q : Exit → Act → World → Prop} {K : IntKind} {T : TypeId} {F : Nat → Nat} {z : Value} {bytes : Nat} (hgd : o.guard = none) (s x : Operand) (t : TypeId)
    (ho : o.op = .call { callee := .builtin .append, args := #[s, x], argTypes := #[t, t] }) (ht : P.underlying t = some (.slice T)) (hi : (P.info? T).map (fun i => (i.zero, i.size, i.bytes)) = some (some z, 1, bytes)) (hzs : z.cells.size = 1) (hb : bytes ≤ 8)
    (v : Value) (n y : Nat) (hs : a.eval s = v) (hown : Row K T w v n F) (ad : Addr) (c : Nat) (hx : a.eval x = .slice (some ad) 1 c) (hy : w.cell? ad = some (.int K (y : Nat))) (had : ad.add 0 = ad) (hn : n ≤ 1000000000)
    (h : ∀ (g c' : Nat) (w' : World), Row K T w' (.slice (some ⟨g, 0, none⟩) (n + 1) c') (n + 1) (upd F n y) → Fr (fun k => v.ownBlock = some k) w w' → (v.ownBlock = some g ∨ w.heap.size ≤ g) → wpList P ops Q rest (a.put o.dst (.slice (some ⟨g, 0, none⟩) (n + 1) c')) w') : wpList P ops Q (o :: rest) a w := by
  obtain ⟨i, hi, hzz⟩ := Option.map_eq_some_iff.1 hi
  simp only [Prod.mk.injEq] at hzz
  obtain ⟨hz, hsz, hby⟩ := hzz
  refine wpList_append_lies w hgd s x t ho 0 T i z 1 bytes ht hi hz hsz hby hzs (by omega) v n _ hs hown.owns ad 1 c [.int K (y : Nat)] hx rfl ?_ ?_ (by omega) ?_ ?_ (Nat.zero_le _) _ rfl ?_
  · intro j u hj
    rcases j with _ | j
    · rw [had]; simp at hj; rw [← hj]; exact hy
    · simp at hj
  · intro u hu; simp at hu; subst hu; rfl
  · unfold maxLen; omega
  · have : (n + 1) * bytes ≤ (n + 1) * 8 := Nat.mul_le_mul_left _ hb
    omega
  · intro g c' w' h1 h2 h3 h4
    refine h g c' w' (Row.of_owns h1 fun j hj => ?_) (Fr.of_grown h2) (h3.imp id fun e => by omega)
    by_cases e : j = n
    · subst e
      rw [List.getElem?_append_right (by simp), upd_same]; simp
    · rw [List.getElem?_append_left (by simp; omega), upd_other _ _ _ _ e]
      simp [List.getElem?_range (show j < n by omega)]
end Go.Proofs.YtkholmbfeghhpaaGreatDoor
