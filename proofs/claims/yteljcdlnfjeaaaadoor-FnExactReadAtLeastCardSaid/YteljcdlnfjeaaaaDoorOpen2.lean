/- How more arguments of the laws read: a number, a sink. -/
import Derived.Test.YteljcdlnfjeaaaaDoorOpen
set_option linter.unusedVariables false
set_option linter.unusedSimpArgs false
namespace Go.Proofs.YteljcdlnfjeaaaaDoor
open Go.ChangeShapes Go.WideShapes Go.ChangeAt Go.RowKit Go.Deep

theorem bounds_i64 {z : Int} (h : (Lit.int .i64 z).wf = true) : -9223372036854775808 ≤ z ∧ z ≤ 9223372036854775807 := by
  simp [Lit.wf, IntKind.min, IntKind.max, IntKind.bits, IntKind.signed] at h
  omega

section
variable {H : Type} {enc : TypeId × Value → H}

set_option maxRecDepth 100000 in
/-- an int that came in -/
theorem open_int {W : World} {base : Nat} {v : Value} {d : DataW H} {p : List MemPlace} (hv : Value.okWide Tryd.prog W .any base 3 v) (h : DataW.Trod enc Tryd.prog W 0 (fun _ => true) true 3 v d p) :
    ∃ z : Int, v = .int .i64 z ∧ -9223372036854775808 ≤ z ∧ z ≤ 9223372036854775807 := by
  obtain ⟨z, rfl⟩ := okWide_int Tryd.underlying3 hv
  obtain ⟨fuel, hf⟩ := h
  obtain ⟨z', e, _, hwf⟩ := DataW.trod_int Tryd.underlying3 hf
  obtain rfl : z = z' := by simpa [Value.cells] using e
  exact ⟨z, rfl, bounds_i64 hwf⟩

set_option maxRecDepth 100000 in
/-- an int64 that came in -/
theorem open_int64 {W : World} {base : Nat} {v : Value} {d : DataW H} {p : List MemPlace} (hv : Value.okWide Tryd.prog W .any base 2 v) (h : DataW.Trod enc Tryd.prog W 0 (fun _ => true) true 2 v d p) :
    ∃ z : Int, v = .int .i64 z ∧ -9223372036854775808 ≤ z ∧ z ≤ 9223372036854775807 := by
  obtain ⟨z, rfl⟩ := okWide_int Tryd.underlying2 hv
  obtain ⟨fuel, hf⟩ := h
  obtain ⟨z', e, _, hwf⟩ := DataW.trod_int Tryd.underlying2 hf
  obtain rfl : z = z' := by simpa [Value.cells] using e
  exact ⟨z, rfl, bounds_i64 hwf⟩

theorem cellsSink : Tryd.prog.cellsOf 27 = 1 := by kernel_rfl

set_option maxRecDepth 100000 in
/-- a sink that came in -/
theorem open_sink {W : World} {base : Nat} {v : Value} {d : DataW H} {p : List MemPlace} (hv : Value.okWide Tryd.prog W .any base 27 v) (h : DataW.Trod enc Tryd.prog W 0 (fun _ => true) true 27 v d p) :
    ∃ z : Int, v = .agg #[.int .i64 z] ∧ -9223372036854775808 ≤ z ∧ z ≤ 9223372036854775807 := by
  obtain ⟨cs, rfl, hsz⟩ := okWide_struct Tryd.underlying27 hv
  rw [cellsSink] at hsz
  obtain ⟨l⟩ := cs
  obtain ⟨c0, rfl⟩ : ∃ c0, l = [c0] := by
    match l, hsz with
    | [c0], _ => exact ⟨c0, rfl⟩
  obtain ⟨fuel, hf⟩ := h
  obtain ⟨y0, n, hx, _, h0⟩ := trod_struct1 Tryd.underlying27 hf
  simp only [cellsInt] at h0
  have h0' : DataW.trod enc Tryd.prog W 0 (fun _ => true) true n 3 [c0] = some y0 := by simpa [Value.cells] using h0
  obtain ⟨z, e, _, hwf⟩ := DataW.trod_int Tryd.underlying3 h0'
  obtain rfl : c0 = .int .i64 z := by simpa using e
  exact ⟨z, rfl, bounds_i64 hwf⟩
end

end Go.Proofs.YteljcdlnfjeaaaaDoor
