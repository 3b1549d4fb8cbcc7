/- How bytes and operations that came in read, and how large they can be. -/
import Derived.Test.YtdlgknaipljhhaaDoorOpen2
import Derived.Test.YtdlgknaipljhhaaDoorEls
import Derived.Deep.Strs
import Derived.SizedLaws
set_option linter.unusedVariables false
set_option linter.unusedSimpArgs false
namespace Go.Proofs.YtdlgknaipljhhaaDoor
open Go.ChangeShapes Go.WideShapes Go.ChangeAt Go.RowKit Go.Deep

section
variable {H : Type} {enc : TypeId × Value → H}

/-- the datum of a slice of n elements -/
def SliceD (d : DataW H) (n : Nat) : Prop := n = 0 ∨ ∃ elems spare, d = .slice elems spare ∧ elems.length = n

theorem sized_of {P : Program} {ts : List TypeId} {ds : List (DataW H)} (h : (DataW.weightsEach P ts ds).all (· ≤ reachBytes) = true) {j : Nat} {t e : TypeId} {d : DataW H} {n : Nat} (ht : ts[j]? = some t) (hd : ds[j]? = some d) (hu : P.underlying t = some (.slice e)) (hs : SliceD d n) : n * P.bytesOf e ≤ 140737488355328 := by
  rcases hs with rfl | ⟨el, sp, rfl, rfl⟩
  · simp
  · have h1 := sized_slice h ht hd hu
    have h2 := reachBytes_lt
    have h3 : el.length * P.bytesOf e ≤ (el.length + sp.length) * P.bytesOf e := Nat.mul_le_mul_right _ (Nat.le_add_right _ _)
    have h4 : (2 : Nat) ^ 47 = 140737488355328 := by decide
    omega

/-- a slice of bytes that came in -/
theorem open_bytesD {W : World} {fuel : Nat} {cs : List Value} {x : DataW H × List MemPlace} (h : DataW.trod enc Tryd.prog W 0 (fun _ => true) true fuel 22 cs = some x) :
    ∃ A l c, cs = [.slice A l.length c] ∧ l.length ≤ c ∧ BytesAt (· < W.heap.size) W A l ∧ SliceD x.1 l.length := by
  rcases open_ints Tryd.underlying22 Tryd.underlying5 cellsU8 h with ⟨rfl, rfl⟩ | ⟨a, len, cap, zs, rfl, _, hlc, hcm, hzl, rfl, hc, hwf⟩
  · exact ⟨none, [], 0, rfl, Nat.le_refl _, BytesAt.nil _ _ _, .inl rfl⟩
  · simp only [if_true] at hzl
    have hl : (zs.take len).length = len := by simp; omega
    refine ⟨some a, zs.take len, cap, by rw [hl], by omega, fun hp => ?_, .inr ⟨_, _, rfl, by simp [lits]⟩⟩
    have h0 : W.cell? a = some (.int .u8 (zs.getD 0 0)) := by simpa [Addr.add] using hc 0 (by omega)
    obtain ⟨b, off, rfl, hb⟩ := addr_lit h0
    refine ⟨b, off, rfl, hb, hb, fun j hj => ?_⟩
    rw [nth_take (by omega), ← hc j (by omega), add_lit_]

theorem cellsOp : Tryd.prog.cellsOf 26 = 3 := by kernel_rfl

set_option maxRecDepth 100000 in
/-- operations that came in -/
theorem open_opsD {W : World} {fuel : Nat} {cs : List Value} {x : DataW H × List MemPlace} (h : DataW.trod enc Tryd.prog W 0 (fun _ => true) true fuel 27 cs = some x) :
    ∃ A ops c, cs = [.slice A ops.length c] ∧ ops.length ≤ c ∧ ElsAt ElP 3 (· < W.heap.size) W A ops ∧ SliceD x.1 ops.length := by
  rcases open_slice Tryd.underlying27 h with ⟨rfl, rfl⟩ | ⟨a, len, cap, m, n, D, Pl, rfl, _, hlc, hcm, hm, rfl, hall⟩
  · exact ⟨none, [], 0, rfl, Nat.le_refl _, ElsAt.nil _ _ _, .inl rfl⟩
  · simp only [if_true] at hm
    subst hm
    have step : ∀ i, i < len → ∃ r : Int × Int × Int, W.cell? (a.add (i * 3)) = some (.int .i64 r.1) ∧ W.cell? ((a.add (i * 3)).add 1) = some (.int .i64 r.2.1) ∧ W.cell? ((a.add (i * 3)).add 2) = some (.int .i64 r.2.2) := fun i hi => by
      obtain ⟨cs', hcs, ht⟩ := hall i (by omega)
      rw [cellsOp] at hcs
      obtain ⟨y0, y1, y2, n', hx, hl', h0, h1, h2⟩ := trod_struct3 Tryd.underlying26 ht
      obtain ⟨_, hcl, hat⟩ := World.cells?_some hcs
      obtain ⟨c0, c1, c2, rfl⟩ : ∃ c0 c1 c2, cs' = [c0, c1, c2] := by
        match cs', hcl with
        | [c0, c1, c2], _ => exact ⟨c0, c1, c2, rfl⟩
      simp only [cellsInt] at h0 h1 h2
      have h0' : DataW.trod enc Tryd.prog W 0 (fun _ => true) true n' 3 [c0] = some y0 := by simpa using h0
      have h1' : DataW.trod enc Tryd.prog W 0 (fun _ => true) true n' 3 [c1] = some y1 := by simpa using h1
      have h2' : DataW.trod enc Tryd.prog W 0 (fun _ => true) true n' 3 [c2] = some y2 := by simpa using h2
      obtain ⟨z0, e0, _, _⟩ := DataW.trod_int Tryd.underlying3 h0'
      obtain ⟨z1, e1, _, _⟩ := DataW.trod_int Tryd.underlying3 h1'
      obtain ⟨z2, e2, _, _⟩ := DataW.trod_int Tryd.underlying3 h2'
      obtain rfl : c0 = .int .i64 z0 := by simpa using e0
      obtain rfl : c1 = .int .i64 z1 := by simpa using e1
      obtain rfl : c2 = .int .i64 z2 := by simpa using e2
      refine ⟨(z0, z1, z2), ?_, ?_, ?_⟩
      · have := hat 0 (by omega)
        simpa [Addr.add] using this
      · have := hat 1 (by omega)
        simpa using this
      · have := hat 2 (by omega)
        simpa using this
    obtain ⟨ops, hst, hp⟩ := exists_list ((0, 0, 0) : Int × Int × Int) step
    refine ⟨some a, ops, m, by rw [hst], by omega, fun hpos => ?_, .inr ⟨_, _, rfl, by simp [hst]⟩⟩
    obtain ⟨q1, _⟩ := hp 0 (by omega)
    have q1' : W.cell? a = some (.int .i64 (ops.getD 0 (0, 0, 0)).1) := by simpa [Addr.add] using q1
    obtain ⟨b, off, rfl, hb⟩ := addr_lit q1'
    refine ⟨b, off, rfl, hb, hb, fun i hi => ?_⟩
    obtain ⟨q1, q2, q3⟩ := hp i (by omega)
    rw [add_lit_] at q1 q2 q3
    rw [add_lit_] at q2 q3
    have e : ops.getD i (0, 0, 0) = ops[i] := by simp [hi]
    rw [e] at q1 q2 q3
    refine ⟨_, rfl, fun j hj => ?_, rfl⟩
    match j, hj with
    | 0, _ => exact q1
    | 1, _ => exact q2
    | 2, _ => exact q3
end

end Go.Proofs.YtdlgknaipljhhaaDoor
