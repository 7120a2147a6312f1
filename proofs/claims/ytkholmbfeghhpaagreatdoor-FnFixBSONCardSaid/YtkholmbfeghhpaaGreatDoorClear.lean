/- clear and copy on rows of words, as laws for a walk. Conditions: the rows lie in memory. -/
import Derived.Test.YtkholmbfeghhpaaGreatDoorNat
import Derived.Laws.IdiomCopy
namespace Go.Proofs.YtkholmbfeghhpaaGreatDoor
open Go.RowKit

theorem setCells_blk (g len : Nat) (f : Nat → Nat) : ∀ (n off : Nat) (w : World) (F : Nat → Nat), BlkW w g len F → (∀ j, off ≤ j → j < off + n → f j < BB) → off + n ≤ len →
    BlkW (w.setCells g off ((List.range' off n).map fun j => .int .u64 (f j : Nat))) g len (fun j => if off ≤ j ∧ j < off + n then f j else F j) ∧ Fr (· = g) w (w.setCells g off ((List.range' off n).map fun j => .int .u64 (f j : Nat)))
  | 0, off, w, F, hb, _, _ => ⟨by simp only [List.range'_zero, List.map_nil, World.setCells]; exact hb.congr (fun j _ => by rw [if_neg (by omega)]), Fr.refl _ _⟩
  | n + 1, off, w, F, hb, hf, hl => by
    have h1 := hb.store (i := off) (hf off (by omega) (by omega))
    obtain ⟨h2, h3⟩ := setCells_blk g len f n (off + 1) _ _ h1 (fun j a b => hf j (by omega) (by omega)) (by omega)
    simp only [List.range'_succ, List.map_cons, World.setCells]
    refine ⟨h2.congr fun j _ => ?_, ((Fr.refl (· = g) w).setCell ⟨g, off, none⟩ _ (.inr rfl)).trans' h3⟩
    by_cases e1 : off + 1 ≤ j ∧ j < off + 1 + n
    · rw [if_pos e1, if_pos (by omega)]
    · rw [if_neg e1]
      unfold upd
      by_cases e2 : j = off
      · subst e2; rw [if_pos rfl, if_pos (by omega)]
      · rw [if_neg e2, if_neg (by omega)]

theorem zeroW (w : World) : (zeroValue TW).run Tryz.prog w = .ok (.int .u64 0) w := by kernel_rfl

theorem clear_blk {ops : Array Oper} {rest : List Oper} {o : Oper} {a : Act} {w : World} {Q : Exit → Act → World → Prop} (hgd : o.guard = none) (s : Operand) (t : TypeId)
    (ho : o.op = .call { callee := .builtin .clear, args := #[s], argTypes := #[t] }) (ht : Tryz.prog.underlying t = some (.slice TW)) (g off n c len : Nat) (F : Nat → Nat)
    (hs : a.eval s = .slice (some ⟨g, off, none⟩) n c) (hb : BlkW w g len F) (hn : off + n ≤ len)
    (h : ∀ w' G, BlkW w' g len G → Hid (∀ j, off ≤ j → j < off + n → G j = 0) → Hid (∀ j, j < off ∨ off + n ≤ j → G j = F j) → Fr (· = g) w w' → wpList Tryz.prog ops Q rest (a.put o.dst (.tuple #[])) w') :
    wpList Tryz.prog ops Q (o :: rest) a w := by
  refine wpList_plain hgd fun K hK => ?_
  unfold Oper.wp
  rcases Nat.eq_zero_or_pos n with h0 | h0
  · subst h0
    have hrun : (Builtin.clear_ #[t] o.type #[.slice (some ⟨g, off, none⟩) 0 c]).run Tryz.prog w = .ok (.tuple #[]) w := by simp [Builtin.clear_, run_underlying ht]
    simp [execOp, ho, resolve, invoke, builtin, hs, hrun, Result.andThen]
    exact hK _ _ (h w F hb (fun j h1 h2 => by omega) (fun j _ => rfl) (Fr.refl _ _))
  · have hrun := Lib.run_clear_slice (P := Tryz.prog) w t TW o.type (.int .u64 0) ht zeroW rfl rfl g off n c h0 (fun j hj => by rw [hb.cell (by omega)]; rfl) (fun j hj => hb.free _)
    have hrep : List.replicate n (Value.int .u64 0) = (List.range' off n).map fun j => .int .u64 (((fun _ => 0 : Nat → Nat) j : Nat) : Int) := by
      apply List.ext_getElem
      · simp
      · intro i h1 h2; simp
    rw [hrep] at hrun
    obtain ⟨h2, h3⟩ := setCells_blk g len (fun _ => 0) n off w F hb (fun _ _ _ => BB_pos) hn
    simp only [execOp, ho, resolve, invoke, builtin, List.map_toArray, List.map_cons, List.map_nil, hs]
    simp only [Sem.run_bind, Sem.run_pure, hrun, Result.andThen_ok]
    exact hK _ _ (h _ _ h2 (fun j a b => by simp [a, b]) (fun j a => by rw [if_neg (by omega)]) h3)

theorem copy_blk {ops : Array Oper} {rest : List Oper} {o : Oper} {a : Act} {w : World} {Q : Exit → Act → World → Prop} (hgd : o.guard = none) (d s : Operand) (dT sT : TypeId)
    (ho : o.op = .call { callee := .builtin .copy, args := #[d, s], argTypes := #[dT, sT] }) (hu : Tryz.prog.underlying dT = some (.slice TW)) (g off dl dc len gx ox sl sc : Nat) (F X : Nat → Nat)
    (hd : a.eval d = .slice (some ⟨g, off, none⟩) dl dc) (hs : a.eval s = .slice (some ⟨gx, ox, none⟩) sl sc) (hb : BlkW w g len F) (hn : off + dl ≤ len) (hx : Words w gx ox sl X) (hle : sl ≤ dl)
    (h : ∀ w' G, BlkW w' g len G → Hid (∀ j, j < sl → G (off + j) = X j) → Hid (∀ j, j < off ∨ off + sl ≤ j → G j = F j) → Fr (· = g) w w' → wpList Tryz.prog ops Q rest (a.put o.dst (.int .i64 sl)) w') :
    wpList Tryz.prog ops Q (o :: rest) a w := by
  refine wpList_plain hgd fun K hK => ?_
  unfold Oper.wp
  have hsz : (Tryz.prog.info? TW).map (·.size) = some 1 := by kernel_rfl
  have hrep : (List.range' off sl).map (fun j => Value.int .u64 ((X (j - off) : Nat) : Int)) = (List.range sl).map fun j => Value.int .u64 ((X j : Nat) : Int) := by
    apply List.ext_getElem
    · simp
    · intro i h1 h2; simp
  have hrun := run_copy_cells (P := Tryz.prog) w dT sT o.type TW g off dl dc ⟨gx, ox, none⟩ sl sc ((List.range' off sl).map fun j => Value.int .u64 ((X (j - off) : Nat) : Int)) hu hsz
    (by simp only [List.length_map, List.length_range']; exact (Nat.min_eq_left hle).symm)
    (fun j v hv => by
      rw [hrep] at hv
      rw [List.getElem?_map] at hv
      by_cases hj : j < sl
      · rw [List.getElem?_range hj] at hv
        simp at hv
        subst hv
        have hadd : (⟨gx, ox, none⟩ : Addr).add j = ⟨gx, ox + j, none⟩ := by unfold Addr.add; split <;> simp_all
        rw [hadd]
        exact hx.cell j hj
      · rw [List.getElem?_eq_none (by simp; omega)] at hv; simp at hv)
    (fun j hj => by rw [hb.cell (by simp at hj; omega)]; rfl) (fun j hj => hb.free _) (fun v hv => by simp at hv; obtain ⟨j, _, rfl⟩ := hv; rfl)
  obtain ⟨h2, h3⟩ := setCells_blk g len (fun j => X (j - off)) sl off w F hb (fun j a b => hx.word _ (by omega)) (by omega)
  simp only [execOp, ho, resolve, invoke, builtin, List.map_toArray, List.map_cons, List.map_nil, hd, hs]
  simp only [Sem.run_bind, Sem.run_pure, hrun, Result.andThen_ok]
  have hlen : goInt ((List.range' off sl).map fun j => Value.int .u64 ((X (j - off) : Nat) : Int)).length = .int .i64 sl := by unfold goInt; rw [List.length_map, List.length_range']
  rw [hlen]
  exact hK _ _ (h _ _ h2 (fun j hj => by show (if _ then X (off + j - off) else _) = _; rw [if_pos (by omega), Nat.add_sub_cancel_left]) (fun j a => by rw [if_neg (by omega)]) h3)
end Go.Proofs.YtkholmbfeghhpaaGreatDoor
