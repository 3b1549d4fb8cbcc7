/- FnMultiBroken: for every input the law returns true, and the input reads as before. Conditions: the package-level errors hold what the program's text lays (tied). -/
import Derived.Test.YtmoecjhlonokfaaDoorCards
import Derived.Test.YtmoecjhlonokfaaDoorTie
import Derived.Test.YtmoecjhlonokfaaDoorOpen
import Derived.Test.YtmoecjhlonokfaaDoorLMultiBroken
import Derived.LaidOnce
set_option linter.unusedVariables false
set_option linter.unusedSimpArgs false
namespace Go.Proofs.YtmoecjhlonokfaaDoor.multiBroken
open Go.ChangeShapes Go.WideShapes Go.ChangeAt Go.RowKit Go.Deep

set_option maxRecDepth 100000 in
theorem contract (H : Type) (enc : TypeId × Value → H) (W : World) (base : Nat) (args : Array Value) (ds gs : List (DataW H)) (before : List MemPlace)
    (hval : ∀ (j : Nat) t v, Tryd.f9.params[j]? = some t → args[j]? = some v → Value.okWide Tryd.prog W .any base t v)
    (hW : DataW.Whole enc Tryd.prog Tryd.f9.params.toList Rows.fnMultiBrokenSpec.vars false W args.toList ds gs before) (hL : laidMetH Tryd.prog Rows.fnMultiBrokenRow.laid W) :
    Calls Tryd.prog 9 args W fun e W' => ∃ v, e = .returned v ∧ Rows.fnMultiBrokenSpec.post enc Tryd.prog Tryd.f9 false true false false W args v W' := by
  have hW' := hW
  obtain ⟨p, q, hA, hV, hpq, hfz, hnd⟩ := hW
  rw [Tryd.params9] at hA hval
  obtain ⟨v0, d0, hargs, hds, h0⟩ := trodAll_one hA
  obtain rfl : args = #[v0] := by cases args; simp_all
  obtain ⟨a1, l1, c1, rfl⟩ := okWide_slice Tryd.underlying31 (hval 0 31 v0 rfl rfl)
  obtain ⟨fuel, hf⟩ := h0
  obtain ⟨A1, zs, c1', e1, _, hz, _, hby, _⟩ := open_bytes hf
  obtain ⟨rfl, rfl, rfl⟩ : a1 = A1 ∧ l1 = zs.length ∧ c1 = c1' := by simpa [Value.cells] using e1
  obtain ⟨hE, hv⟩ := errs_of_row hL (by kernel_rfl) (by kernel_rfl) (by kernel_rfl) (by kernel_rfl)
  refine (multiBroken_walk hE (Nat.le_refl _) c1 hz hby).mono fun e W' ⟨he, hb⟩ => ?_
  refine ⟨.bool true, he, law_post hW' rfl (by kernel_rfl) ?_ ?_ hv hE.glt hb⟩
  · have hg : ∃ g1 g2, gs = [g1, g2] := by
      obtain ⟨_, _, _, _, _, _, _, _, _, _, _, _, hg, _⟩ := trodVars_two hV
      exact ⟨_, _, hg⟩
    obtain ⟨g1, g2, rfl⟩ := hg
    subst hds
    rfl
  · rw [Tryd.params9]
    intro t ht
    simp at ht
    subst ht
    exact ⟨by kernel_rfl, of_decide_eq_true (by kernel_rfl)⟩

theorem laid_met (os : Os) : laidMet Tryd.prog Rows.fnMultiBrokenRow.laid ((World.doorLaid Tryd.prog 600 os).forCall (fun _ _ => 0) ⟨#[], #[.slice none 0 0], []⟩).memory :=
  laidMet_of_run' 8 (by kernel_rfl) (by kernel_rfl)

/-- where the witness's two variables point to -/
noncomputable def tokAt (os : Os) {H : Type} (enc : TypeId × Value → H) (k : Nat) : DataW H :=
  tok enc ((((World.doorLaid Tryd.prog 600 os).forCall (fun _ _ => 0) ⟨#[], #[.slice none 0 0], []⟩).memory.cell? ⟨errG k, 0, none⟩).getD (.bool false))

theorem reads (os : Os) {H : Type} (enc : TypeId × Value → H) : ∃ places, DataW.whole enc Tryd.prog ((World.doorLaid Tryd.prog 600 os).forCall (fun _ _ => 0) ⟨#[], #[.slice none 0 0], []⟩).memory Tryd.f9.params.toList Rows.fnMultiBrokenSpec.vars false
    #[Value.slice none 0 0].toList 8 = some ([.nil], [tokAt os enc 2, tokAt os enc 3], places) :=
  ⟨[.cell (errG 2) 0, .cell (errG 3) 0], by kernel_rfl⟩

set_option maxRecDepth 100000 in
theorem lifted (os : Os) (started : os.Started) (H : Type) (enc : TypeId × Value → H) (F : Stop.Interp) :
    ReturnsInHanded {} Tryd.checked os 9 .any ((OpenSpec.ofChange Rows.fnMultiBrokenSpec).preRow enc Tryd.prog Tryd.f9 Rows.fnMultiBrokenRow.domain false Rows.fnMultiBrokenRow.laid) (((OpenSpec.ofChange Rows.fnMultiBrokenSpec).at F).post enc Tryd.prog Tryd.f9 false true false false) := by
  obtain ⟨places, hx⟩ := reads os enc
  refine returnsInHanded_of_row (C := Tryd.checked) (s := OpenSpec.ofChange Rows.fnMultiBrokenSpec) own started (by kernel_rfl) Tryd.func9
    (witness_row_atRef (enc := enc) (C := Tryd.checked) false (World.doorLaid Tryd.prog 600 os) #[.slice none 0 0] rfl (by kernel_rfl) (by kernel_rfl) (by kernel_rfl)
      (OpenSpec.preRow_of_cond 8 hx (by kernel_rfl) (fun k hk => by cases hk) (by kernel_rfl) (laid_met os))) ?_
  intro W base args ds gs before hval hW _ _ _ hL _ _
  exact contract H enc W base args ds gs before hval hW hL

theorem said : Rows.FnMultiBrokenSaid :=
  OpenClaim.holds_of_cond 9 Tryd.f9 rfl rfl rfl rfl rfl rfl rfl ⟨rfl, rfl, rfl, rfl, rfl⟩ rfl rfl rfl rfl rfl (by kernel_rfl) Tryd.func9 (by kernel_rfl)
    (of_decide_eq_true (by kernel_rfl)) (by unfold Func.isWrapper; first | (rw [if_pos (by decide +kernel)]; kernel_rfl) | (rw [if_neg (by decide +kernel)]; exact ⟨rfl, rfl⟩))
    (fun os started H enc _ F => by rw [OpenClaim.pre_eq_preRow]; exact lifted os started H enc F)

theorem plain (f : FuncId) (fn : Func) (hf : Tryd.pinned.checked.prog.funcNamed "loop.example/lib-readerscripts/laws.FnMultiBroken" = some f) (hfn : Tryd.pinned.checked.prog.funcs[f]? = some fn) :
    true = Tryd.pinned.checked.prog.looks [] ∧ ∀ (j : Nat) t, fn.params[j]? = some t → Tryd.pinned.checked.prog.wantsStandIn t = false := by
  obtain rfl : f = 9 := Option.some.inj ((show Tryd.prog.funcNamed "loop.example/lib-readerscripts/laws.FnMultiBroken" = some 9 by kernel_rfl).symm.trans hf) |>.symm
  obtain rfl : fn = Tryd.f9 := (Option.some.inj (Tryd.func9.symm.trans hfn)).symm
  refine ⟨by kernel_rfl, fun j t ht => ?_⟩
  rw [Tryd.params9] at ht
  have hm := Array.mem_of_getElem? ht
  simp at hm
  subst hm
  exact (show Tryd.prog.wantsStandIn 31 = false by kernel_rfl)

/-- THE CARD -/
theorem card : Rows.FnMultiBrokenCardSaid :=
  Claim7.holds_tied_plain_at .later [] _ _ _ _ said (fun _ h => by cases h) (by kernel_rfl) (fun _ h => by cases h) fnMultiBroken_row_tie rfl ⟨rfl, rfl⟩ (by kernel_rfl) rfl plain (by kernel_rfl)

end Go.Proofs.YtmoecjhlonokfaaDoor.multiBroken
