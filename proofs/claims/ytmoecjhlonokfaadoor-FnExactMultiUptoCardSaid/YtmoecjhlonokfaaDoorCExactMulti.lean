/- FnExactMulti: for every input of bulk at most 1048576 the law returns true, and each argument reads as before. Conditions: the package-level errors hold what the program's text lays (tied); the bulk of what is read is at most 1048576. -/
import Derived.Test.YtmoecjhlonokfaaDoorCards
import Derived.Test.YtmoecjhlonokfaaDoorTie
import Derived.Test.YtmoecjhlonokfaaDoorOpen5
import Derived.Test.YtmoecjhlonokfaaDoorLExactMulti
import Derived.LaidOnce
set_option linter.unusedVariables false
set_option linter.unusedSimpArgs false
namespace Go.Proofs.YtmoecjhlonokfaaDoor.exactMulti
open Go.ChangeShapes Go.WideShapes Go.ChangeAt Go.RowKit Go.Deep

set_option maxRecDepth 100000 in
theorem contract (H : Type) (enc : TypeId × Value → H) (W : World) (base : Nat) (args : Array Value) (ds gs : List (DataW H)) (before : List MemPlace)
    (hval : ∀ (j : Nat) t v, Tryd.f7.params[j]? = some t → args[j]? = some v → Value.okWide Tryd.prog W .any base t v)
    (hW : DataW.Whole enc Tryd.prog Tryd.f7.params.toList Rows.fnExactMultiSpec.vars false W args.toList ds gs before) (hL : laidMetH Tryd.prog Rows.fnExactMultiUptoRow.laid W) (hk : Rows.uptoSmall H (ds ++ gs) = true) :
    Calls Tryd.prog 7 args W fun e W' => ∃ v, e = .returned v ∧ Rows.fnExactMultiSpec.post enc Tryd.prog Tryd.f7 false true false false W args v W' := by
  have hW' := hW
  obtain ⟨p, q, hA, hV, hpq, hfz, hnd⟩ := hW
  rw [Tryd.params7] at hA hval
  obtain ⟨v0, v1, d0, d1, p0, p1, hargs, hds, _, h0, h1⟩ := trodAll_two hA
  obtain rfl : args = #[v0, v1] := by cases args; simp_all
  obtain ⟨a0, l0, c0, rfl⟩ := okWide_slice Tryd.underlying40 (hval 0 40 v0 rfl rfl)
  obtain ⟨fuel0, hf0⟩ := h0
  obtain ⟨A0, ss0, c0', e0, hlc0, hss0, hbs0, hbt0⟩ := open_sources hf0
  obtain ⟨rfl, rfl, rfl⟩ : a0 = A0 ∧ l0 = ss0.length ∧ c0 = c0' := by simpa [Value.cells] using e0
  dsimp only at hbs0 hbt0
  obtain ⟨a1, l1, c1, rfl⟩ := okWide_slice Tryd.underlying41 (hval 1 41 v1 rfl rfl)
  obtain ⟨fuel1, hf1⟩ := h1
  obtain ⟨A1, zs1, c1', e1, _, hz1, hbz1⟩ := open_intsAt hf1
  obtain ⟨rfl, rfl, rfl⟩ : a1 = A1 ∧ l1 = zs1.length ∧ c1 = c1' := by simpa [Value.cells] using e1
  dsimp only at hbz1
  obtain ⟨hE, hv⟩ := errs_of_row hL (by kernel_rfl) (by kernel_rfl) (by kernel_rfl) (by kernel_rfl)
  have hbk := bulk_bound hk
  rw [hds, bulk_append] at hbk
  simp only [Rows.uptoBulkAll] at hbk
  refine (exactMulti_walk hE (Nat.le_refl _) c0 c1 hss0 (by omega) (fun st hst => by obtain ⟨q1, q2⟩ := hbt0 st hst; exact ⟨by omega, fun i hi => by have := q2 i hi; omega⟩) hz1 (by omega)).mono fun e W' ⟨he, hb⟩ => ?_
  refine ⟨.bool true, he, law_post hW' rfl (by kernel_rfl) ?_ ?_ hv hE.glt hb⟩
  · have hg : ∃ g1 g2, gs = [g1, g2] := by
      obtain ⟨_, _, _, _, _, _, _, _, _, _, _, _, hg, _⟩ := trodVars_two hV
      exact ⟨_, _, hg⟩
    obtain ⟨g1, g2, rfl⟩ := hg
    subst hds
    rfl
  · rw [Tryd.params7]
    intro t ht
    simp at ht
    rcases ht with rfl | rfl
    all_goals exact ⟨by kernel_rfl, of_decide_eq_true (by kernel_rfl)⟩

theorem laid_met (os : Os) : laidMet Tryd.prog Rows.fnExactMultiUptoRow.laid ((World.doorLaid Tryd.prog 600 os).forCall (fun _ _ => 0) ⟨#[], #[.slice none 0 0, .slice none 0 0], []⟩).memory :=
  laidMet_of_run' 8 (by kernel_rfl) (by kernel_rfl)

/-- where the witness's two variables point to -/
noncomputable def tokAt (os : Os) {H : Type} (enc : TypeId × Value → H) (k : Nat) : DataW H :=
  tok enc ((((World.doorLaid Tryd.prog 600 os).forCall (fun _ _ => 0) ⟨#[], #[.slice none 0 0, .slice none 0 0], []⟩).memory.cell? ⟨errG k, 0, none⟩).getD (.bool false))

theorem reads (os : Os) {H : Type} (enc : TypeId × Value → H) : ∃ places, DataW.whole enc Tryd.prog ((World.doorLaid Tryd.prog 600 os).forCall (fun _ _ => 0) ⟨#[], #[.slice none 0 0, .slice none 0 0], []⟩).memory Tryd.f7.params.toList Rows.fnExactMultiSpec.vars false
    #[Value.slice none 0 0, .slice none 0 0].toList 8 = some ([.nil, .nil], [tokAt os enc 2, tokAt os enc 3], places) :=
  ⟨[.cell (errG 2) 0, .cell (errG 3) 0], by kernel_rfl⟩

set_option maxRecDepth 100000 in
theorem lifted (os : Os) (started : os.Started) (H : Type) (enc : TypeId × Value → H) (F : Stop.Interp) :
    ReturnsInHanded {} Tryd.checked os 7 .any ((Rows.OpenSpec.upto Rows.fnExactMultiSpec).preRow enc Tryd.prog Tryd.f7 Rows.fnExactMultiUptoRow.domain false Rows.fnExactMultiUptoRow.laid) (((Rows.OpenSpec.upto Rows.fnExactMultiSpec).at F).post enc Tryd.prog Tryd.f7 false true false false) := by
  obtain ⟨places, hx⟩ := reads os enc
  refine returnsInHanded_of_row (C := Tryd.checked) (s := Rows.OpenSpec.upto Rows.fnExactMultiSpec) own started (by kernel_rfl) Tryd.func7
    (witness_row_atRef (enc := enc) (C := Tryd.checked) false (World.doorLaid Tryd.prog 600 os) #[.slice none 0 0, .slice none 0 0] rfl (by kernel_rfl) (by kernel_rfl) (by kernel_rfl)
      (OpenSpec.preRow_of_cond 8 hx (by kernel_rfl) (fun k hk => by cases hk; kernel_rfl) (by kernel_rfl) (laid_met os))) ?_
  intro W base args ds gs before hval hW _ hcond _ hL _ _
  exact contract H enc W base args ds gs before hval hW hL (hcond _ rfl)

theorem said : Rows.FnExactMultiUptoSaid :=
  OpenClaim.holds_of_cond 7 Tryd.f7 rfl rfl rfl rfl rfl rfl rfl ⟨rfl, rfl, rfl, rfl, rfl⟩ rfl rfl rfl rfl rfl (by kernel_rfl) Tryd.func7 (by kernel_rfl)
    (of_decide_eq_true (by kernel_rfl)) (by unfold Func.isWrapper; first | (rw [if_pos (by decide +kernel)]; kernel_rfl) | (rw [if_neg (by decide +kernel)]; exact ⟨rfl, rfl⟩))
    (fun os started H enc _ F => by rw [OpenClaim.pre_eq_preRow]; exact lifted os started H enc F)

theorem plain (f : FuncId) (fn : Func) (hf : Tryd.pinned.checked.prog.funcNamed "loop.example/lib-readerscripts/laws.FnExactMulti" = some f) (hfn : Tryd.pinned.checked.prog.funcs[f]? = some fn) :
    true = Tryd.pinned.checked.prog.looks [] ∧ ∀ (j : Nat) t, fn.params[j]? = some t → Tryd.pinned.checked.prog.wantsStandIn t = false := by
  obtain rfl : f = 7 := Option.some.inj ((show Tryd.prog.funcNamed "loop.example/lib-readerscripts/laws.FnExactMulti" = some 7 by kernel_rfl).symm.trans hf) |>.symm
  obtain rfl : fn = Tryd.f7 := (Option.some.inj (Tryd.func7.symm.trans hfn)).symm
  refine ⟨by kernel_rfl, fun j t ht => ?_⟩
  rw [Tryd.params7] at ht
  have hm := Array.mem_of_getElem? ht
  simp at hm
  rcases hm with rfl | rfl
  · exact (show Tryd.prog.wantsStandIn 40 = false by kernel_rfl)
  · exact (show Tryd.prog.wantsStandIn 41 = false by kernel_rfl)

/-- THE CARD -/
theorem card : Rows.FnExactMultiUptoCardSaid :=
  Claim7.holds_tied_plain_at .later [] _ _ _ _ said (fun _ h => by cases h) (by kernel_rfl) (fun _ h => by cases h) fnExactMultiUpto_row_tie rfl ⟨rfl, rfl⟩ (by kernel_rfl) rfl plain (by kernel_rfl)

end Go.Proofs.YtmoecjhlonokfaaDoor.exactMulti
