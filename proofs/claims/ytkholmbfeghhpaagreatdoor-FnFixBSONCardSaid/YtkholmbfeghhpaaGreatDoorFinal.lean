/- A fixed decimal of the package is read back from its value of BSON as it is, with its scale: the law answers true for every argument. Conditions: none beyond the statement's own guards; the package-level variables hold what their initialisers lay, as the row lists them. -/
import Derived.Test.YtkholmbfeghhpaaGreatDoorCards
import Derived.Test.YtkholmbfeghhpaaGreatDoorTie
import Derived.Test.YtkholmbfeghhpaaGreatDoorLaw
import Derived.Test.YtkholmbfeghhpaaGreatDoorFacts
import Derived.Test.YtkholmbfeghhpaaGreatDoorWit
import Derived.WalkKit
import Derived.ProofKit
import Derived.OpenShut
import Derived.OpenVars
import Derived.LaidSub
import Derived.Lay
import Derived.MakeChecks
import Derived.Lib.SmallJoins
import Derived.Deep.DeepHandedRow
import Derived.Lib.LaidTab
namespace Go.Proofs.YtkholmbfeghhpaaGreatDoor.fnFixBSON
open Go.ChangeShapes Go.WideShapes Go.ChangeAt Go.RowKit Go.Joins

/-- One listed variable, picked by its place in the list. -/
theorem laidVars_at {P : Program} {w : World} {n : String} {d : DataW Unit} : ∀ {l : List (String × DataW Unit)} {ps : List MemPlace}, DataW.LaidVars P w l ps → (n, d) ∈ l →
    ∃ g t cs fuel p, P.globalNamed n = some g ∧ (P.globals[g]?).map (·.type) = some t ∧ w.var? P n = some cs ∧ DataW.trod (fun _ => ()) P w 0 (fun _ => true) false fuel t cs.toList = some (d, p)
  | [], _, _, hm => by cases hm
  | (_, _) :: r, ps, h, hm => by
    obtain ⟨g, t, cs, fuel, p, q, e1, e2, e3, e4, hr, _⟩ := h
    rcases List.mem_cons.1 hm with hm | hm
    · obtain ⟨rfl, rfl⟩ := Prod.mk.inj hm
      exact ⟨g, t, cs, fuel, p, e1, e2, e3, e4⟩
    · exact laidVars_at hr hm
theorem laid_at {P : Program} {w : World} {n : String} {d : DataW Unit} {l : List (String × DataW Unit)} (i : Nat) (h : laidMetH P l w) (hi : l[i]? = some (n, d)) (hd : d.handleName? = none) :
    ∃ g t cs fuel p, P.globalNamed n = some g ∧ (P.globals[g]?).map (·.type) = some t ∧ w.var? P n = some cs ∧ DataW.trod (fun _ => ()) P w 0 (fun _ => true) false fuel t cs.toList = some (d, p) := by
  obtain ⟨ps, hl, _⟩ := (laidMetH_iff.1 h).1
  exact laidVars_at hl (List.mem_filter.2 ⟨List.mem_of_getElem? hi, by simp [hd]⟩)

theorem vars_len {H : Type} {enc : TypeId × Value → H} {P : Program} {w : World} {sp : Nat → Bool} : ∀ {ns : List String} {gs : List (DataW H)} {ps : List MemPlace}, DataW.TrodVars enc P w sp ns gs ps → gs.length = ns.length
  | [], [], _, _ => rfl
  | [], _ :: _, _, h => h.elim
  | _ :: _, [], _, h => h.elim
  | _ :: _, _ :: _, _, h => by
    obtain ⟨_, _, _, _, _, _, _, _, _, _, hs, _⟩ := h
    simp [vars_len hs]

theorem nKar : Tryz.prog.globalNamed "given.example/pub-alexandrine/pub/bigall.karatsubaThreshold" = some 11 := by kernel_rfl
theorem tKar : (Tryz.prog.globals[11]?).map (·.type) = some 3 := by kernel_rfl
theorem nPow : Tryz.prog.globalNamed "given.example/pub-alexandrine/pub/govalues.pow10" = some 4 := by kernel_rfl

theorem tPow : (Tryz.prog.globals[4]?).map (·.type) = some 121 := by kernel_rfl
theorem cPow : Tryz.prog.cellsOf 121 = 20 := by kernel_rfl
theorem cU : Tryz.prog.cellsOf 44 = 1 := by kernel_rfl
theorem rowKar : Rows.fnFixBSONRow.laid[6]? = some ("given.example/pub-alexandrine/pub/bigall.karatsubaThreshold", DataW.lit (.int .i64 40)) := by kernel_rfl
theorem rowPow : Rows.fnFixBSONRow.laid[12]? = some ("given.example/pub-alexandrine/pub/govalues.pow10", Lib.tabData .u64 ((List.range 20).map fun i => ((10 ^ i : Nat) : Int))) := by kernel_rfl

/-- The two variables that the walk reads. -/
theorem glob {W : World} (h : laidMetH Tryz.prog Rows.fnFixBSONRow.laid W) : Glob W := by
  constructor
  · obtain ⟨g, t, cs, fuel, p, hg, ht, hv, hd⟩ := laid_at 6 h rowKar rfl
    obtain rfl := Option.some.inj (nKar.symm.trans hg)
    obtain rfl := Option.some.inj (tKar.symm.trans ht)
    obtain ⟨s, hcs, hx, _⟩ := DataW.trod_int Tryz.underlying3 hd
    obtain ⟨hs, _⟩ := Prod.mk.inj hx
    obtain rfl : (40 : Int) = s := by simpa using hs
    obtain rfl : cs = #[.int .i64 40] := by
      obtain ⟨l⟩ := cs
      simp only at hcs
      rw [hcs]
    simpa using World.var?_cell hg hv 0
  · intro i hi
    obtain ⟨g, t, cs, fuel, p, hg, ht, hv, hd⟩ := laid_at 12 h rowPow rfl
    obtain rfl := Option.some.inj (nPow.symm.trans hg)
    obtain rfl := Option.some.inj (tPow.symm.trans ht)
    have hcs := Lib.cells_of_tab Tryz.underlying121 Tryz.underlying44 cU cPow hd
    have := World.var?_cell hg hv i
    rw [this, ← Array.getElem?_toList, hcs]
    simp [hi]

set_option maxRecDepth 100000 in
/-- What the walk gives, for every argument and every world that holds the variables. -/
theorem contract (H : Type) (enc : TypeId × Value → H) (W : World) (base : Nat) (args : Array Value) (ds gs : List (DataW H)) (before : List MemPlace)
    (hval : ∀ (j : Nat) t v, Tryz.f3.params[j]? = some t → args[j]? = some v → Value.okWide Tryz.prog W .any base t v)
    (hW : DataW.Whole enc Tryz.prog Tryz.f3.params.toList Rows.fnFixBSONSpec.vars false W args.toList ds gs before) (hL : laidMetH Tryz.prog Rows.fnFixBSONRow.laid W) :
    Calls Tryz.prog 3 args W fun e W' => ∃ v, e = .returned v ∧ Rows.fnFixBSONSpec.post enc Tryz.prog Tryz.f3 false true false false W args v W' := by
  have hW' := hW
  obtain ⟨p, q, hA0, hV, rfl, hfz, hnd⟩ := hW
  have hA : DataW.TrodAll enc Tryz.prog W 0 (fun _ => true) true Tryz.f3.params.toList args.toList ds p := hA0
  rw [Tryz.params3] at hA hval
  obtain ⟨v0, vs0, d0, ds0, p0, q0, hargs, rfl, rfl, h0, r0⟩ := trodAll_cons hA
  obtain ⟨rfl, rfl, rfl⟩ := trodAll_nil r0
  obtain rfl : args = #[v0] := by cases args; simp_all
  obtain ⟨x0, x1, x2, y0, y1, y2, n, rfl, rfl, rfl, t0, t1, t2⟩ := open_agg3 Tryz.underlying24 (by kernel_rfl) (by kernel_rfl) (hval 0 24 v0 rfl rfl) h0
  obtain ⟨neg, e0, rfl⟩ := DataW.trod_bool Tryz.underlying4 t0
  obtain ⟨c, e1, rfl, wc⟩ := DataW.trod_int Tryz.underlying22 t1
  obtain ⟨s, e2, rfl, ws⟩ := DataW.trod_int Tryz.underlying3 t2
  simp only [List.cons.injEq, and_true] at e0 e1 e2
  subst e0 e1 e2
  have hlen := vars_len hV
  match gs, hlen, hV, hW' with
  | [g1, g2, g3, g4, g5, g6, g7, g8, g9], _, hV, hW' =>
  have hc0 : 0 ≤ c := by
    have := wc
    simp [Lit.wf, IntKind.min, IntKind.max, IntKind.signed, IntKind.bits] at this
    omega
  have hcB : c < BB := by
    have := wc
    simp [Lit.wf, IntKind.min, IntKind.max, IntKind.signed, IntKind.bits] at this
    unfold BB
    omega
  have hs : -9223372036854775808 ≤ s ∧ s ≤ 9223372036854775807 := by
    have := ws
    simp [Lit.wf, IntKind.min, IntKind.max, IntKind.signed, IntKind.bits] at this
    omega
  obtain ⟨c, rfl⟩ := Int.eq_ofNat_of_zero_le hc0
  refine (law_walk neg c s W (by omega) hs (glob hL)).mono fun e W' ⟨he, hf⟩ => ?_
  subst he
  refine ⟨_, rfl, _, _, _, [], [], q, hW', ?_, ?_, ?_, ?_, fun h => by cases h⟩
  · exact trodAll_mk1 (shut_bool Tryz.underlying4 _)
  · exact trodAll_mk1 (shut_agg3 Tryz.underlying24 (by kernel_rfl) (by kernel_rfl) (shut_bool Tryz.underlying4 _) (shut_int Tryz.underlying22 wc) (shut_int Tryz.underlying3 ws))
  · exact Below.trodVars (by kernel_rfl) hf.below (by kernel_rfl) hV
  · exact World.keptBut_mono (fun p hp => ⟨hp, by simpa using hp⟩) (hf.below.frame (· ∈ _))

set_option maxRecDepth 100000 in
theorem lifted (os : Os) (started : os.Started) (H : Type) (enc : TypeId × Value → H) (F : Stop.Interp) :
    ReturnsInHanded {} Tryz.checked os 3 .any ((OpenSpec.ofChange Rows.fnFixBSONSpec).preRow enc Tryz.prog Tryz.f3 Rows.fnFixBSONRow.domain false Rows.fnFixBSONRow.laid) (((OpenSpec.ofChange Rows.fnFixBSONSpec).at F).post enc Tryz.prog Tryz.f3 false true false false) := by
  obtain ⟨x, hx⟩ := Option.isSome_iff_exists.1 (w_reads os enc)
  refine returnsInHanded_of_row (C := Tryz.checked) (s := OpenSpec.ofChange Rows.fnFixBSONSpec) own started noInit Tryz.func3
    ⟨wLaid os, fun _ _ => 0, ⟨#[], wArgs, []⟩, World.laidAll_os _ _ _, w_shaped os, (Input.okWide_of_okWideB (base := 0) (w_ok os)).1, (Input.okWide_of_okWideB (w_ok os)).2,
      OpenSpec.preRow_of_cond 8 hx (by rfl) (fun k hk => by cases hk) (w_sized os enc) (w_met os _), by
        simp only [Assume.holds]
        exact ⟨by simp, by simp, (fun h => by cases h), by simp, by simp⟩⟩ ?_
  intro W base args ds gs before hval hW _ _ _ hL _ _
  exact contract H enc W base args ds gs before hval hW hL

theorem said : Rows.FnFixBSONSaid :=
  OpenClaim.holds_of_cond 3 Tryz.f3 rfl rfl rfl rfl rfl rfl rfl ⟨rfl, rfl, rfl, rfl, rfl⟩ rfl rfl rfl rfl rfl named Tryz.func3 closed inst wrap
    (fun os started H enc _ F => by rw [OpenClaim.pre_eq_preRow]; exact lifted os started H enc F)

/-- No parameter wants a stand-in; the program's own looks are off: what the card asks. -/
theorem plain (f : FuncId) (fn : Func) (hf : Tryz.pinned.checked.prog.funcNamed "given.example/pub-alexandrine/laws.FnFixBSON" = some f) (hfn : Tryz.pinned.checked.prog.funcs[f]? = some fn) :
    false = Tryz.pinned.checked.prog.looks [] ∧ ∀ (j : Nat) t, fn.params[j]? = some t → Tryz.pinned.checked.prog.wantsStandIn t = false := by
  obtain rfl : f = 3 := Option.some.inj ((show Tryz.prog.funcNamed "given.example/pub-alexandrine/laws.FnFixBSON" = some 3 by kernel_rfl).symm.trans hf) |>.symm
  obtain rfl : fn = Tryz.f3 := (Option.some.inj (Tryz.func3.symm.trans hfn)).symm
  refine ⟨looks.symm, fun j t ht => ?_⟩
  rw [Tryz.params3] at ht
  obtain rfl : t = 24 := by simpa using Array.mem_of_getElem? ht
  exact standIn

/-- The card. -/
theorem card : Rows.FnFixBSONCardSaid :=
  Claim7.holds_tied_plain_at .later [] _ _ _ _ said (fun _ h => by cases h) (by kernel_rfl) (fun _ h => by cases h) fnFixBSON_row_tie rfl ⟨rfl, rfl⟩ (by kernel_rfl) rfl plain (by kernel_rfl)
end Go.Proofs.YtkholmbfeghhpaaGreatDoor.fnFixBSON
