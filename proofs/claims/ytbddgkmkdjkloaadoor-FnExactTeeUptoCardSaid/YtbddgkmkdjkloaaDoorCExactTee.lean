/- FnExactTee: for every input of bulk at most 1048576 the law returns true, and each argument reads as before. Conditions: the package-level errors hold what the program's text lays (tied); the bulk of what is read is at most 1048576. -/
import Derived.Test.YtbddgkmkdjkloaaDoorCards
import Derived.Test.YtbddgkmkdjkloaaDoorTie
import Derived.Test.YtbddgkmkdjkloaaDoorOpen2
import Derived.Test.YtbddgkmkdjkloaaDoorLExactTee
import Derived.LaidOnce
set_option linter.unusedVariables false
set_option linter.unusedSimpArgs false
namespace Go.Proofs.YtbddgkmkdjkloaaDoor.exactTee
open Go.ChangeShapes Go.WideShapes Go.ChangeAt Go.RowKit Go.Deep

set_option maxRecDepth 100000 in
theorem contract (H : Type) (enc : TypeId × Value → H) (W : World) (base : Nat) (args : Array Value) (ds gs : List (DataW H)) (before : List MemPlace)
    (hval : ∀ (j : Nat) t v, Tryd.f10.params[j]? = some t → args[j]? = some v → Value.okWide Tryd.prog W .any base t v)
    (hW : DataW.Whole enc Tryd.prog Tryd.f10.params.toList Rows.fnExactTeeSpec.vars false W args.toList ds gs before) (hL : laidMetH Tryd.prog Rows.fnExactTeeUptoRow.laid W) (hk : Rows.uptoSmall H (ds ++ gs) = true) :
    Calls Tryd.prog 10 args W fun e W' => ∃ v, e = .returned v ∧ Rows.fnExactTeeSpec.post enc Tryd.prog Tryd.f10 false true false false W args v W' := by
  have hW' := hW
  obtain ⟨p, q, hA, hV, hpq, hfz, hnd⟩ := hW
  rw [Tryd.params10] at hA hval
  obtain ⟨v0, v1, v2, d0, d1, d2, p0, p1, p2, hargs, hds, _, h0, h1, h2⟩ := trodAll_three hA
  obtain rfl : args = #[v0, v1, v2] := by cases args; simp_all
  obtain ⟨A0, st0, c0, rfl, _, hr0, hba0, hbb0⟩ := open_source (hval 0 24 v0 rfl rfl) h0
  obtain ⟨z1, rfl, hlo1, hhi1⟩ := open_sink (hval 1 46 v1 rfl rfl) h1
  obtain ⟨a2, l2, c2, rfl⟩ := okWide_slice Tryd.underlying25 (hval 2 25 v2 rfl rfl)
  obtain ⟨fuel2, hf2⟩ := h2
  obtain ⟨A2, zs2, c2', e2, _, hz2, hbz2⟩ := open_intsAt hf2
  obtain ⟨rfl, rfl, rfl⟩ : a2 = A2 ∧ l2 = zs2.length ∧ c2 = c2' := by simpa [Value.cells] using e2
  dsimp only at hbz2
  obtain ⟨hE, hv⟩ := errs_of_row hL (by kernel_rfl) (by kernel_rfl) (by kernel_rfl) (by kernel_rfl)
  have hbk := bulk_bound hk
  rw [hds, bulk_append] at hbk
  simp only [Rows.uptoBulkAll] at hbk
  refine (exactTee_walk hE (Nat.le_refl _) c0 c2 hr0 hz2 z1 hhi1 (by omega) (fun i hi => by have := hbb0 i hi; omega) (by omega) (by have := joinD_bound (B := 1048576) (l := st0) (fun i hi => by have := hbb0 i hi; omega); have := Nat.mul_le_mul_right 1048576 (show st0.length ≤ 1048576 by omega); omega)).mono fun e W' ⟨he, hb⟩ => ?_
  refine ⟨.bool true, he, law_post hW' rfl (by kernel_rfl) ?_ ?_ hv hE.glt hb⟩
  · have hg : ∃ g1 g2, gs = [g1, g2] := by
      obtain ⟨_, _, _, _, _, _, _, _, _, _, _, _, hg, _⟩ := trodVars_two hV
      exact ⟨_, _, hg⟩
    obtain ⟨g1, g2, rfl⟩ := hg
    subst hds
    rfl
  · rw [Tryd.params10]
    intro t ht
    simp at ht
    rcases ht with rfl | rfl | rfl
    all_goals exact ⟨by kernel_rfl, of_decide_eq_true (by kernel_rfl)⟩

theorem laid_met (os : Os) : laidMet Tryd.prog Rows.fnExactTeeUptoRow.laid ((World.doorLaid Tryd.prog 600 os).forCall (fun _ _ => 0) ⟨#[], #[.agg #[.slice none 0 0], .agg #[.int .i64 0], .slice none 0 0], []⟩).memory :=
  laidMet_of_run' 8 (by kernel_rfl) (by kernel_rfl)

/-- where the witness's two variables point to -/
noncomputable def tokAt (os : Os) {H : Type} (enc : TypeId × Value → H) (k : Nat) : DataW H :=
  tok enc ((((World.doorLaid Tryd.prog 600 os).forCall (fun _ _ => 0) ⟨#[], #[.agg #[.slice none 0 0], .agg #[.int .i64 0], .slice none 0 0], []⟩).memory.cell? ⟨errG k, 0, none⟩).getD (.bool false))

theorem reads (os : Os) {H : Type} (enc : TypeId × Value → H) : ∃ places, DataW.whole enc Tryd.prog ((World.doorLaid Tryd.prog 600 os).forCall (fun _ _ => 0) ⟨#[], #[.agg #[.slice none 0 0], .agg #[.int .i64 0], .slice none 0 0], []⟩).memory Tryd.f10.params.toList Rows.fnExactTeeSpec.vars false
    #[Value.agg #[.slice none 0 0], .agg #[.int .i64 0], .slice none 0 0].toList 8 = some ([.agg [.nil], .agg [.lit (.int .i64 0)], .nil], [tokAt os enc 2, tokAt os enc 3], places) :=
  ⟨[.cell (errG 2) 0, .cell (errG 3) 0], by kernel_rfl⟩

set_option maxRecDepth 100000 in
theorem lifted (os : Os) (started : os.Started) (H : Type) (enc : TypeId × Value → H) (F : Stop.Interp) :
    ReturnsInHanded {} Tryd.checked os 10 .any ((Rows.OpenSpec.upto Rows.fnExactTeeSpec).preRow enc Tryd.prog Tryd.f10 Rows.fnExactTeeUptoRow.domain false Rows.fnExactTeeUptoRow.laid) (((Rows.OpenSpec.upto Rows.fnExactTeeSpec).at F).post enc Tryd.prog Tryd.f10 false true false false) := by
  obtain ⟨places, hx⟩ := reads os enc
  refine returnsInHanded_of_row (C := Tryd.checked) (s := Rows.OpenSpec.upto Rows.fnExactTeeSpec) own started (by kernel_rfl) Tryd.func10
    (witness_row_atRef (enc := enc) (C := Tryd.checked) false (World.doorLaid Tryd.prog 600 os) #[.agg #[.slice none 0 0], .agg #[.int .i64 0], .slice none 0 0] rfl (by kernel_rfl) (by kernel_rfl) (by kernel_rfl)
      (OpenSpec.preRow_of_cond 8 hx (by kernel_rfl) (fun k hk => by cases hk; kernel_rfl) (by kernel_rfl) (laid_met os))) ?_
  intro W base args ds gs before hval hW _ hcond _ hL _ _
  exact contract H enc W base args ds gs before hval hW hL (hcond _ rfl)

theorem said : Rows.FnExactTeeUptoSaid :=
  OpenClaim.holds_of_cond 10 Tryd.f10 rfl rfl rfl rfl rfl rfl rfl ⟨rfl, rfl, rfl, rfl, rfl⟩ rfl rfl rfl rfl rfl (by kernel_rfl) Tryd.func10 (by kernel_rfl)
    (of_decide_eq_true (by kernel_rfl)) (by unfold Func.isWrapper; first | (rw [if_pos (by decide +kernel)]; kernel_rfl) | (rw [if_neg (by decide +kernel)]; exact ⟨rfl, rfl⟩))
    (fun os started H enc _ F => by rw [OpenClaim.pre_eq_preRow]; exact lifted os started H enc F)

theorem plain (f : FuncId) (fn : Func) (hf : Tryd.pinned.checked.prog.funcNamed "loop.example/lib-readerscripts/laws.FnExactTee" = some f) (hfn : Tryd.pinned.checked.prog.funcs[f]? = some fn) :
    true = Tryd.pinned.checked.prog.looks [] ∧ ∀ (j : Nat) t, fn.params[j]? = some t → Tryd.pinned.checked.prog.wantsStandIn t = false := by
  obtain rfl : f = 10 := Option.some.inj ((show Tryd.prog.funcNamed "loop.example/lib-readerscripts/laws.FnExactTee" = some 10 by kernel_rfl).symm.trans hf) |>.symm
  obtain rfl : fn = Tryd.f10 := (Option.some.inj (Tryd.func10.symm.trans hfn)).symm
  refine ⟨by kernel_rfl, fun j t ht => ?_⟩
  rw [Tryd.params10] at ht
  have hm := Array.mem_of_getElem? ht
  simp at hm
  rcases hm with rfl | rfl | rfl
  · exact (show Tryd.prog.wantsStandIn 24 = false by kernel_rfl)
  · exact (show Tryd.prog.wantsStandIn 46 = false by kernel_rfl)
  · exact (show Tryd.prog.wantsStandIn 25 = false by kernel_rfl)

/-- THE CARD -/
theorem card : Rows.FnExactTeeUptoCardSaid :=
  Claim7.holds_tied_plain_at .later [] _ _ _ _ said (fun _ h => by cases h) (by kernel_rfl) (fun _ h => by cases h) fnExactTeeUpto_row_tie rfl ⟨rfl, rfl⟩ (by kernel_rfl) rfl plain (by kernel_rfl)

end Go.Proofs.YtbddgkmkdjkloaaDoor.exactTee
