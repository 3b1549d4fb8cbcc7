/- FnExactReadAtLeast: for every input the law returns true, and each argument reads as before. Conditions: the package-level errors hold what the program's text lays (tied). -/
import Derived.Test.YteljcdlnfjeaaaaDoorCards
import Derived.Test.YteljcdlnfjeaaaaDoorTie
import Derived.Test.YteljcdlnfjeaaaaDoorOpenS
import Derived.Test.YteljcdlnfjeaaaaDoorLExactRal
import Derived.LaidOnce
set_option linter.unusedVariables false
set_option linter.unusedSimpArgs false
namespace Go.Proofs.YteljcdlnfjeaaaaDoor.exactReadAtLeast
open Go.ChangeShapes Go.WideShapes Go.ChangeAt Go.RowKit Go.Deep

set_option maxRecDepth 100000 in
theorem contract (H : Type) (enc : TypeId × Value → H) (W : World) (base : Nat) (args : Array Value) (ds gs : List (DataW H)) (before : List MemPlace)
    (hval : ∀ (j : Nat) t v, Tryd.f6.params[j]? = some t → args[j]? = some v → Value.okWide Tryd.prog W .any base t v)
    (hW : DataW.Whole enc Tryd.prog Tryd.f6.params.toList Rows.fnExactReadAtLeastSpec.vars false W args.toList ds gs before) (hL : laidMetH Tryd.prog Rows.fnExactReadAtLeastRow.laid W) (hw : (DataW.weightsEach Tryd.prog (Tryd.f6.params.toList ++ (OpenSpec.ofChange Rows.fnExactReadAtLeastSpec).bare.plain.varTypes Tryd.prog) (ds ++ gs)).all (· ≤ reachBytes) = true) :
    Calls Tryd.prog 6 args W fun e W' => ∃ v, e = .returned v ∧ Rows.fnExactReadAtLeastSpec.post enc Tryd.prog Tryd.f6 false true false false W args v W' := by
  have hW' := hW
  obtain ⟨p, q, hA, hV, hpq, hfz, hnd⟩ := hW
  rw [Tryd.params6] at hA hval
  obtain ⟨v0, v1, v2, v3, d0, d1, d2, d3, p0, p1, p2, p3, hargs, hds, _, h0, h1, h2, h3⟩ := trodAll_four hA
  obtain rfl : args = #[v0, v1, v2, v3] := by cases args; simp_all
  obtain ⟨A0, st0, c0, rfl, _, hr0, hsd0⟩ := open_sourceW (hval 0 25 v0 rfl rfl) h0
  have hsb0 := hsd0 (weighed_of hw (j := 0) (t := 25) (by rw [Tryd.params6]; rfl) (by rw [hds]; rfl))
  obtain ⟨z1, rfl, hlo1, hhi1⟩ := open_int (hval 1 3 v1 rfl rfl) h1
  obtain ⟨z2, rfl, hlo2, hhi2⟩ := open_int (hval 2 3 v2 rfl rfl) h2
  obtain ⟨z3, rfl, hlo3, hhi3⟩ := open_int (hval 3 3 v3 rfl rfl) h3
  obtain ⟨hE, hv⟩ := errs_of_row hL (by kernel_rfl) (by kernel_rfl) (by kernel_rfl) (by kernel_rfl)
  refine (exactReadAtLeast_walk hE (Nat.le_refl _) c0 hr0 z1 z2 z3 hsb0.1 hsb0.2).mono fun e W' ⟨he, hb⟩ => ?_
  refine ⟨.bool true, he, law_post hW' rfl (by kernel_rfl) ?_ ?_ hv hE.glt hb⟩
  · have hg : ∃ g1 g2, gs = [g1, g2] := by
      obtain ⟨_, _, _, _, _, _, _, _, _, _, _, _, hg, _⟩ := trodVars_two hV
      exact ⟨_, _, hg⟩
    obtain ⟨g1, g2, rfl⟩ := hg
    subst hds
    rfl
  · rw [Tryd.params6]
    intro t ht
    simp at ht
    rcases ht with rfl | rfl
    all_goals exact ⟨by kernel_rfl, of_decide_eq_true (by kernel_rfl)⟩

theorem laid_met (os : Os) : laidMet Tryd.prog Rows.fnExactReadAtLeastRow.laid ((World.doorLaid Tryd.prog 600 os).forCall (fun _ _ => 0) ⟨#[], #[.agg #[.slice none 0 0], .int .i64 0, .int .i64 0, .int .i64 0], []⟩).memory :=
  laidMet_of_run' 8 (by kernel_rfl) (by kernel_rfl)

/-- where the witness's two variables point to -/
noncomputable def tokAt (os : Os) {H : Type} (enc : TypeId × Value → H) (k : Nat) : DataW H :=
  tok enc ((((World.doorLaid Tryd.prog 600 os).forCall (fun _ _ => 0) ⟨#[], #[.agg #[.slice none 0 0], .int .i64 0, .int .i64 0, .int .i64 0], []⟩).memory.cell? ⟨errG k, 0, none⟩).getD (.bool false))

theorem reads (os : Os) {H : Type} (enc : TypeId × Value → H) : ∃ places, DataW.whole enc Tryd.prog ((World.doorLaid Tryd.prog 600 os).forCall (fun _ _ => 0) ⟨#[], #[.agg #[.slice none 0 0], .int .i64 0, .int .i64 0, .int .i64 0], []⟩).memory Tryd.f6.params.toList Rows.fnExactReadAtLeastSpec.vars false
    #[Value.agg #[.slice none 0 0], .int .i64 0, .int .i64 0, .int .i64 0].toList 8 = some ([.agg [.nil], .lit (.int .i64 0), .lit (.int .i64 0), .lit (.int .i64 0)], [tokAt os enc 2, tokAt os enc 3], places) :=
  ⟨[.cell (errG 2) 0, .cell (errG 3) 0], by kernel_rfl⟩

set_option maxRecDepth 100000 in
theorem lifted (os : Os) (started : os.Started) (H : Type) (enc : TypeId × Value → H) (F : Stop.Interp) :
    ReturnsInHanded {} Tryd.checked os 6 .any ((OpenSpec.ofChange Rows.fnExactReadAtLeastSpec).preRow enc Tryd.prog Tryd.f6 Rows.fnExactReadAtLeastRow.domain false Rows.fnExactReadAtLeastRow.laid) (((OpenSpec.ofChange Rows.fnExactReadAtLeastSpec).at F).post enc Tryd.prog Tryd.f6 false true false false) := by
  obtain ⟨places, hx⟩ := reads os enc
  refine returnsInHanded_of_row (C := Tryd.checked) (s := OpenSpec.ofChange Rows.fnExactReadAtLeastSpec) own started (by kernel_rfl) Tryd.func6
    (witness_row_atRef (enc := enc) (C := Tryd.checked) false (World.doorLaid Tryd.prog 600 os) #[.agg #[.slice none 0 0], .int .i64 0, .int .i64 0, .int .i64 0] rfl (by kernel_rfl) (by kernel_rfl) (by kernel_rfl)
      (OpenSpec.preRow_of_cond 8 hx (by kernel_rfl) (fun k hk => by cases hk) (by kernel_rfl) (laid_met os))) ?_
  intro W base args ds gs before hval hW _ _ hw hL _ _
  exact contract H enc W base args ds gs before hval hW hL hw

theorem said : Rows.FnExactReadAtLeastSaid :=
  OpenClaim.holds_of_cond 6 Tryd.f6 rfl rfl rfl rfl rfl rfl rfl ⟨rfl, rfl, rfl, rfl, rfl⟩ rfl rfl rfl rfl rfl (by kernel_rfl) Tryd.func6 (by kernel_rfl)
    (of_decide_eq_true (by kernel_rfl)) (by unfold Func.isWrapper; first | (rw [if_pos (by decide +kernel)]; kernel_rfl) | (rw [if_neg (by decide +kernel)]; exact ⟨rfl, rfl⟩))
    (fun os started H enc _ F => by rw [OpenClaim.pre_eq_preRow]; exact lifted os started H enc F)

theorem plain (f : FuncId) (fn : Func) (hf : Tryd.pinned.checked.prog.funcNamed "loop.example/lib-readerscripts/laws.FnExactReadAtLeast" = some f) (hfn : Tryd.pinned.checked.prog.funcs[f]? = some fn) :
    true = Tryd.pinned.checked.prog.looks [] ∧ ∀ (j : Nat) t, fn.params[j]? = some t → Tryd.pinned.checked.prog.wantsStandIn t = false := by
  obtain rfl : f = 6 := Option.some.inj ((show Tryd.prog.funcNamed "loop.example/lib-readerscripts/laws.FnExactReadAtLeast" = some 6 by kernel_rfl).symm.trans hf) |>.symm
  obtain rfl : fn = Tryd.f6 := (Option.some.inj (Tryd.func6.symm.trans hfn)).symm
  refine ⟨by kernel_rfl, fun j t ht => ?_⟩
  rw [Tryd.params6] at ht
  have hm := Array.mem_of_getElem? ht
  simp at hm
  rcases hm with rfl | rfl
  · exact (show Tryd.prog.wantsStandIn 25 = false by kernel_rfl)
  · exact (show Tryd.prog.wantsStandIn 3 = false by kernel_rfl)

/-- THE CARD -/
theorem card : Rows.FnExactReadAtLeastCardSaid :=
  Claim7.holds_tied_plain_at .later [] _ _ _ _ said (fun _ h => by cases h) (by kernel_rfl) (fun _ h => by cases h) fnExactReadAtLeast_row_tie rfl ⟨rfl, rfl⟩ (by kernel_rfl) rfl plain (by kernel_rfl)

end Go.Proofs.YteljcdlnfjeaaaaDoor.exactReadAtLeast
