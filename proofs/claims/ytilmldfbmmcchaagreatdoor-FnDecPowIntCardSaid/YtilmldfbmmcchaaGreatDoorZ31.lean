/- A power of a decimal with a whole exponent is exact, or rounded to 16 places or 16 digits where the exponent is negative; 0 has none with an exponent that is not above 0: the law answers true for every argument. Conditions: none beyond the statement's own guards; the package-level variables hold what their initialisers lay, as the row lists them. -/
import Derived.ChangeMaps5
import Derived.LaidSub
import Derived.Lib.LaidTab
import Derived.Lib.SmallJoins
import Derived.OpenShut
import Derived.OpenVars
import Derived.Test.YtilmldfbmmcchaaGreatDoorTie
import Derived.Test.YtilmldfbmmcchaaGreatDoorZ28
import Derived.Test.YtilmldfbmmcchaaGreatDoorZ29
import Derived.Test.YtilmldfbmmcchaaGreatDoorZ30
set_option linter.unusedVariables false
set_option linter.unusedSimpArgs false
namespace Go.Proofs.YtilmldfbmmcchaaGreatDoor.fnDecPowInt
open Go.ChangeShapes Go.WideShapes Go.ChangeAt Go.RowKit Go.Joins
theorem laidVars_at {P : Program} {w : World} {n : String} {d : DataW Unit} : ∀ {l : List (String × DataW Unit)} {ps : List MemPlace}, DataW.LaidVars P w l ps → (n, d) ∈ l →
  ∃ g t cs fuel p, P.globalNamed n = some g ∧ (P.globals[g]?).map (·.type) = some t ∧ w.var? P n = some cs ∧ DataW.trod (fun _ => ()) P w 0 (fun _ => true) false fuel t cs.toList = some (d, p)
 | [], _, _, hm => by cases hm
 | (_, _) :: r, ps, h, hm => by
  obtain ⟨g, t, cs, fuel, p, q, e1, e2, e3, e4, hr, _⟩ := h
  rcases List.mem_cons.1 hm with hm | hm
  ·obtain ⟨rfl, rfl⟩ := Prod.mk.inj hm
   exact ⟨g, t, cs, fuel, p, e1, e2, e3, e4⟩
  ·exact laidVars_at hr hm
theorem laid_at {P : Program} {w : World} {n : String} {d : DataW Unit} {l : List (String × DataW Unit)} (i : Nat) (h : laidMetH P l w) (hi : l[i]? = some (n, d)) (hd : d.handleName? = none) :
  ∃ g t cs fuel p, P.globalNamed n = some g ∧ (P.globals[g]?).map (·.type) = some t ∧ w.var? P n = some cs ∧ DataW.trod (fun _ => ()) P w 0 (fun _ => true) false fuel t cs.toList = some (d, p) := by
 obtain ⟨ps, hl, _⟩ := (laidMetH_iff.1 h).1
 exact laidVars_at hl (List.mem_filter.2 ⟨List.mem_of_getElem? hi, by simp [hd]⟩)
theorem vars_len {H : Type} {enc : TypeId × Value → H} {P : Program} {w : World} {sp : Nat → Bool} : ∀ {ns : List String} {gs : List (DataW H)} {ps : List MemPlace}, DataW.TrodVars enc P w sp ns gs ps → gs.length = ns.length
 | [], [], _, _ => rfl
 | [], _ :: _, _, h => h.elim
 | _ :: _, [], _, h => h.elim
 | _ :: _, _ :: _, _, h => by
  obtain ⟨_, _, _, _, _, _, _, _, _, _, hs, _⟩ := h
  simp [vars_len hs]
theorem nKar : Tryz.prog.globalNamed "given.example/pub-alexandrine/pub/bigall.karatsubaThreshold" = some 5 := by kernel_rfl
theorem tKar : (Tryz.prog.globals[5]?).map (·.type) = some 3 := by kernel_rfl
theorem rowKar : Rows.fnDecPowIntRow.laid[7]? = some ("given.example/pub-alexandrine/pub/bigall.karatsubaThreshold", DataW.lit (.int .i64 40)) := by kernel_rfl
theorem nBs : Tryz.prog.globalNamed "given.example/pub-alexandrine/pub/bigall.basicSqrThreshold" = some 3 := by kernel_rfl
theorem tBs : (Tryz.prog.globals[3]?).map (·.type) = some 3 := by kernel_rfl
theorem rowBs : Rows.fnDecPowIntRow.laid[8]? = some ("given.example/pub-alexandrine/pub/bigall.basicSqrThreshold", DataW.lit (.int .i64 12)) := by kernel_rfl
theorem nKs : Tryz.prog.globalNamed "given.example/pub-alexandrine/pub/bigall.karatsubaSqrThreshold" = some 4 := by kernel_rfl
theorem tKs : (Tryz.prog.globals[4]?).map (·.type) = some 3 := by kernel_rfl
theorem rowKs : Rows.fnDecPowIntRow.laid[9]? = some ("given.example/pub-alexandrine/pub/bigall.karatsubaSqrThreshold", DataW.lit (.int .i64 80)) := by kernel_rfl
theorem nDt : Tryz.prog.globalNamed "given.example/pub-alexandrine/pub/bigall.divRecursiveThreshold" = some 8 := by kernel_rfl
theorem tDt : (Tryz.prog.globals[8]?).map (·.type) = some 3 := by kernel_rfl
theorem rowDt : Rows.fnDecPowIntRow.laid[6]? = some ("given.example/pub-alexandrine/pub/bigall.divRecursiveThreshold", DataW.lit (.int .i64 40)) := by kernel_rfl
theorem nPp : Tryz.prog.globalNamed "given.example/pub-alexandrine/pub/shopspring.PowPrecisionNegativeExponent" = some 0 := by kernel_rfl
theorem tPp : (Tryz.prog.globals[0]?).map (·.type) = some 3 := by kernel_rfl
theorem rowPp : Rows.fnDecPowIntRow.laid[11]? = some ("given.example/pub-alexandrine/pub/shopspring.PowPrecisionNegativeExponent", DataW.lit (.int .i64 16)) := by kernel_rfl
theorem glob_int {W : World} {g t : Nat} {cs : Array Value} {fuel : Nat} {p : List MemPlace} {n : String} {g' : Nat} {v : Int} (hg : Tryz.prog.globalNamed n = some g) (hg' : Tryz.prog.globalNamed n = some g') (ht : (Tryz.prog.globals[g]?).map (·.type) = some t) (ht' : (Tryz.prog.globals[g']?).map (·.type) = some 3) (hv : W.var? Tryz.prog n = some cs) (hd : DataW.trod (fun _ => ()) Tryz.prog W 0 (fun _ => true) false fuel t cs.toList = some (DataW.lit (.int .i64 v), p)) : W.cell? ⟨g', 0, none⟩ = some (.int .i64 v) := by
 obtain rfl := Option.some.inj (hg'.symm.trans hg)
 obtain rfl := Option.some.inj (ht'.symm.trans ht)
 obtain ⟨s, hcs, hx, _⟩ := DataW.trod_int Tryz.underlying3 hd
 obtain ⟨hs, _⟩ := Prod.mk.inj hx
 obtain rfl : v = s := by simpa using hs
 obtain rfl : cs = #[.int .i64 v] := by
  obtain ⟨l⟩ := cs
  simp only at hcs
  rw [hcs]
 simpa using World.var?_cell hg hv 0
theorem glob {W : World} (h : laidMetH Tryz.prog Rows.fnDecPowIntRow.laid W) : Glob W := by
 constructor
 ·obtain ⟨g, t, cs, fuel, p, hg, ht, hv, hd⟩ := laid_at 7 h rowKar rfl
  exact glob_int hg nKar ht tKar hv hd
 ·obtain ⟨g, t, cs, fuel, p, hg, ht, hv, hd⟩ := laid_at 8 h rowBs rfl
  exact glob_int hg nBs ht tBs hv hd
 ·obtain ⟨g, t, cs, fuel, p, hg, ht, hv, hd⟩ := laid_at 9 h rowKs rfl
  exact glob_int hg nKs ht tKs hv hd
 ·obtain ⟨g, t, cs, fuel, p, hg, ht, hv, hd⟩ := laid_at 6 h rowDt rfl
  exact glob_int hg nDt ht tDt hv hd
 ·obtain ⟨g, t, cs, fuel, p, hg, ht, hv, hd⟩ := laid_at 11 h rowPp rfl
  exact glob_int hg nPp ht tPp hv hd
set_option maxRecDepth 100000 in
theorem contract (H : Type) (enc : TypeId × Value → H) (W : World) (base : Nat) (args : Array Value) (ds gs : List (DataW H)) (before : List MemPlace)
  (hval : ∀ (j : Nat) t v, Tryz.f3.params[j]? = some t → args[j]? = some v → Value.okWide Tryz.prog W .any base t v)
  (hW : DataW.Whole enc Tryz.prog Tryz.f3.params.toList Rows.fnDecPowIntSpec.vars false W args.toList ds gs before) (hL : laidMetH Tryz.prog Rows.fnDecPowIntRow.laid W) :
  Calls Tryz.prog 3 args W fun e W' => ∃ v, e = .returned v ∧ Rows.fnDecPowIntSpec.post enc Tryz.prog Tryz.f3 false true false false W args v W' := by
 have hW' := hW
 obtain ⟨p, q, hA0, hV, rfl, hfz, hnd⟩ := hW
 have hA : DataW.TrodAll enc Tryz.prog W 0 (fun _ => true) true Tryz.f3.params.toList args.toList ds p := hA0
 rw [Tryz.params3] at hA hval
 obtain ⟨v0, vs0, d0, ds0, p0, q0, hargs, rfl, rfl, h0, r0⟩ := trodAll_cons hA
 obtain ⟨v1, vs1, d1, ds1, p1, q1, rfl, rfl, rfl, h1, r1⟩ := trodAll_cons r0
 obtain ⟨rfl, rfl, rfl⟩ := trodAll_nil r1
 obtain rfl : args = #[v0, v1] := by cases args; simp_all
 obtain ⟨x0, x1, y0, y1, n, rfl, rfl, rfl, t0, t1⟩ := open_agg2 Tryz.underlying23 (by kernel_rfl) (by kernel_rfl) (hval 0 23 v0 rfl rfl) h0
 obtain ⟨s, e0, rfl, ws⟩ := DataW.trod_string Tryz.underlying9 t0
 obtain ⟨e, e1, rfl, we⟩ := DataW.trod_int Tryz.underlying3 t1
 obtain ⟨m, rfl, rfl, rfl, wm⟩ := open_int Tryz.underlying3 (hval 1 3 v1 rfl rfl) h1
 simp only [List.cons.injEq, and_true] at e0 e1
 subst e0 e1
 have hlen := vars_len hV
 match gs, hlen, hV, hW' with
 | [g1, g2, g3, g4, g5, g6, g7, g8, g9, g10], _, hV, hW' =>
 refine (law_walk s e m W (glob hL)).mono fun en W' ⟨he, hf⟩ => ?_
 subst he
 refine ⟨_, rfl, _, _, _, [], [], q, hW', ?_, ?_, ?_, ?_, fun h => by cases h⟩
 ·exact trodAll_mk1 (shut_bool Tryz.underlying4 _)
 ·exact trodAll_mk2 (shut_agg2 Tryz.underlying23 (by kernel_rfl) (by kernel_rfl) (Go.ChangeMaps.shut_string Tryz.underlying9 ws) (shut_int Tryz.underlying3 we)) (shut_int Tryz.underlying3 wm)
 ·exact Below.trodVars (by kernel_rfl) hf.below (by kernel_rfl) hV
 ·exact World.keptBut_mono (fun p hp => ⟨hp, by simpa using hp⟩) (hf.below.frame (· ∈ _))
set_option maxRecDepth 100000 in
theorem lifted (os : Os) (started : os.Started) (H : Type) (enc : TypeId × Value → H) (F : Stop.Interp) :
  ReturnsInHanded {} Tryz.checked os 3 .any ((OpenSpec.ofChange Rows.fnDecPowIntSpec).preRow enc Tryz.prog Tryz.f3 Rows.fnDecPowIntRow.domain false Rows.fnDecPowIntRow.laid) (((OpenSpec.ofChange Rows.fnDecPowIntSpec).at F).post enc Tryz.prog Tryz.f3 false true false false) := by
 obtain ⟨x, hx⟩ := Option.isSome_iff_exists.1 (w_reads os enc)
 refine returnsInHanded_of_row (C := Tryz.checked) (s := OpenSpec.ofChange Rows.fnDecPowIntSpec) own started noInit Tryz.func3
  ⟨wLaid os, fun _ _ => 0, ⟨#[], wArgs, []⟩, World.laidAll_os _ _ _, w_shaped os, (Input.okWide_of_okWideB (base := 0) (w_ok os)).1, (Input.okWide_of_okWideB (w_ok os)).2,
   OpenSpec.preRow_of_cond 8 hx (by rfl) (fun k hk => by cases hk) (w_sized os enc) (w_met os _), by
    simp only [Assume.holds]
    exact ⟨by simp, by simp, (fun h => by cases h), by simp, by simp⟩⟩ ?_
 intro W base args ds gs before hval hW _ _ _ hL _ _
 exact contract H enc W base args ds gs before hval hW hL
theorem said : Rows.FnDecPowIntSaid :=
 OpenClaim.holds_of_cond 3 Tryz.f3 rfl rfl rfl rfl rfl rfl rfl ⟨rfl, rfl, rfl, rfl, rfl⟩ rfl rfl rfl rfl rfl named Tryz.func3 closed inst wrap
  (fun os started H enc _ F => by rw [OpenClaim.pre_eq_preRow]; exact lifted os started H enc F)
theorem plain (f : FuncId) (fn : Func) (hf : Tryz.pinned.checked.prog.funcNamed "given.example/pub-alexandrine/laws.FnDecPowInt" = some f) (hfn : Tryz.pinned.checked.prog.funcs[f]? = some fn) :
  true = Tryz.pinned.checked.prog.looks [] ∧ ∀ (j : Nat) t, fn.params[j]? = some t → Tryz.pinned.checked.prog.wantsStandIn t = false := by
 obtain rfl : f = 3 := Option.some.inj ((show Tryz.prog.funcNamed "given.example/pub-alexandrine/laws.FnDecPowInt" = some 3 by kernel_rfl).symm.trans hf) |>.symm
 obtain rfl : fn = Tryz.f3 := (Option.some.inj (Tryz.func3.symm.trans hfn)).symm
 refine ⟨looks.symm, fun j t ht => ?_⟩
 rw [Tryz.params3] at ht
 have hm := Array.mem_of_getElem? ht
 simp at hm
 rcases hm with rfl | rfl
 ·exact standIn
 ·exact standIn2
theorem card : Rows.FnDecPowIntCardSaid :=
 Claim7.holds_tied_plain_at .later [] _ _ _ _ said (fun _ h => by cases h) (by kernel_rfl) (fun _ h => by cases h) fnDecPowInt_row_tie rfl ⟨rfl, rfl⟩ (by kernel_rfl) rfl plain (by kernel_rfl)
end Go.Proofs.YtilmldfbmmcchaaGreatDoor.fnDecPowInt
