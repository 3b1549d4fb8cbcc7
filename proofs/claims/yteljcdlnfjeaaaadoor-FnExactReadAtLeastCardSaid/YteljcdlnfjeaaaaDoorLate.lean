/- A region that draws its order, whose last store hits a cell that the region loads: the loads may be taken first, if the world keeps what they read behind every operation but the late one, which waits for them. Nothing of the program is named here. -/
import Derived.OrdersHeld
import Derived.StillTail
import Derived.Deep.RegionHeld
import Derived.Deep.DrawnRows
set_option linter.unusedVariables false
set_option linter.unusedSimpArgs false
namespace Go.Proofs.YteljcdlnfjeaaaaDoor
open Go

section
variable {P : Program} {ops : Array Oper} {Q : Exit → Act → World → Prop} {md : Region.Mode} {S : World → Prop} {late : Nat}

/-- whatever order is picked from here on, and S holds behind every operation but the late one -/
def wpAnyR (P : Program) (md : Region.Mode) (ops : Array Oper) (Q : Exit → Act → World → Prop) (S : World → Prop) (late : Nat) : Nat → Array Bool → Act → World → Prop
  | 0, listed, a, w => Region.ready md ops listed = [] ∧ Q .normal a w
  | fuel + 1, listed, a, w =>
    (Region.ready md ops listed = [] → Q .normal a w) ∧
    ∀ i ∈ Region.ready md ops listed, wpOp P ops Q i (fun a' w' => (i ≠ late → S w') ∧ wpAnyR P md ops Q S late fuel (listed.setIfInBounds i true) a' w') a w

theorem wpAny_of_R : ∀ (fuel : Nat) (listed : Array Bool) (a : Act) (w : World), wpAnyR P md ops Q S late fuel listed a w → wpAny P md ops Q fuel listed a w
  | 0, _, _, _, h => h
  | fuel + 1, _, _, _, h => ⟨h.1, fun i hi => wpOp_mono (fun a' w' h' => wpAny_of_R fuel _ a' w' h'.2) (h.2 i hi)⟩

/-- what is not listed yet keeps the late one waiting -/
theorem late_waits {i : Nat} {listed : Array Bool} (hl : Region.waitsFor md ops late i = true) (hun : listed.getD i true = false) : late ∉ Region.ready md ops listed := fun hr => by
  obtain ⟨_, o, ho, hall⟩ := mem_ready.1 hr
  obtain ⟨o', ho', e, he, hb, hon⟩ := Region.waitsFor_spec hl
  obtain rfl : o' = o := Option.some.inj (ho'.symm.trans ho)
  have h2 := hall e he hb
  rw [hon, getD_both hun] at h2
  cases h2

theorem wpAnyR_first {i : Nat} {oi : Oper} {v : Value} (hi : ops[i]? = some oi) (hsel : ∀ (j : Nat) (o : Oper) cs b, ops[j]? = some o → o.op ≠ .select cs b)
    (hQ : ∀ c a w, Q (.panic c) (a.put oi.dst v) w → Q (.panic c) a w) (hl : Region.waitsFor md ops late i = true) :
    ∀ (fuel : Nat) (listed : Array Bool) (a : Act) (w : World),
      (∀ j oj, ops[j]? = some oj → j ≠ i → listed.getD j true = false → (∀ e ∈ oj.after, Region.binds md e = true → e.on ≠ i) → oi.apart ops oj = true) →
      i ∈ Region.ready md ops listed → YieldsIf P ops S oi v a → S w →
      wpAnyR P md ops Q S late fuel (listed.setIfInBounds i true) (a.put oi.dst v) w → wpAnyR P md ops Q S late (fuel + 1) listed a w := by
  intro fuel
  induction fuel with
  | zero =>
    intro listed a w _ hr hy hS H
    refine ⟨fun h => (by rw [h] at hr; cases hr), fun j hj => ?_⟩
    by_cases hji : j = i
    · subst hji; exact hy.wpOp hi hS ⟨fun _ => hS, H⟩
    · have := ready_mono hj hji
      rw [H.1] at this
      cases this
  | succ fuel ih =>
    intro listed a w hfree hr hy hS H
    have hun := (mem_ready.1 hr).1
    refine ⟨fun h => (by rw [h] at hr; cases hr), fun j hj => ?_⟩
    by_cases hji : j = i
    · subst hji; exact hy.wpOp hi hS ⟨fun _ => hS, H⟩
    · have hjl : j ≠ late := fun e => late_waits hl hun (e ▸ hj)
      have h1 := H.2 j (ready_mono hj hji)
      obtain ⟨hjun, oj, hoj, hall⟩ := mem_ready.1 hj
      have hnot : ∀ e ∈ oj.after, Region.binds md e = true → e.on ≠ i := fun e he hb heq => by
        have h1 := hall e he hb
        rw [heq, getD_both hun] at h1
        cases h1
      have h2 := wpOp_putIf hoj (hfree j oj hoj hji hjun hnot) (fun cs b => hsel i oi cs b hi) (fun cs b => hsel j oj cs b hoj) hQ hy h1
      have hfree' : ∀ k ok, ops[k]? = some ok → k ≠ i → (listed.setIfInBounds j true).getD k true = false →
          (∀ e ∈ ok.after, Region.binds md e = true → e.on ≠ i) → oi.apart ops ok = true := fun k ok hk hki hun hno => by
        refine hfree k ok hk hki ?_ hno
        by_cases hjk : j = k
        · subst hjk; exact hjun
        · rw [getD_set_ne true hjk] at hun; exact hun
      refine wpOp_mono (fun a' w' h3 => ⟨fun _ => h3.2.1 hjl, ih (listed.setIfInBounds j true) a' w' hfree' (ready_mono hr (Ne.symm hji)) h3.1 (h3.2.1 hjl) ?_⟩) h2
      rw [Array.setIfInBounds_comm _ _ hji]
      exact h3.2.2

theorem wpAnyR_take {i : Nat} {oi : Oper} {v : Value} {fuel : Nat} {listed : Array Bool} {a : Act} {w : World} (hi : ops[i]? = some oi)
    (hs : Region.noSelect ops = true) (hf : Region.free md ops listed i = true) (hr : (Region.ready md ops listed).contains i = true) (hl : Region.waitsFor md ops late i = true)
    (hQ : ∀ c a w, Q (.panic c) (a.put oi.dst v) w → Q (.panic c) a w) (hS : S w) (hy : YieldsIf P ops S oi v a)
    (h : wpAnyR P md ops Q S late fuel (listed.setIfInBounds i true) (a.put oi.dst v) w) : wpAnyR P md ops Q S late (fuel + 1) listed a w :=
  wpAnyR_first hi (Region.noSelect_spec hs) hQ hl fuel listed a w (Region.free_spec hi hf) (by simpa using hr) hy hS h

/-- the only one that may come up -/
theorem wpAnyR_one {k : Nat} {o : Oper} {fuel : Nat} {listed : Array Bool} {a : Act} {w : World} (ho : ops[k]? = some o) (hr : Region.ready md ops listed = [k])
    (h : ∀ K : Act → World → Prop, Shut (∀ a' w', (k ≠ late → S w') → wpAnyR P md ops Q S late fuel (listed.setIfInBounds k true) a' w' → K a' w') → if Region.wanted o (yielded ops a.tmps) = true then Oper.wp P o a w K Q else K (a.put o.dst undef) w) :
    wpAnyR P md ops Q S late (fuel + 1) listed a w := by
  refine ⟨fun h0 => (by rw [hr] at h0; cases h0), fun i hi => ?_⟩
  rw [hr] at hi
  obtain rfl : i = k := by simpa using hi
  exact wpOp_step ho fun K hK => h K fun a' w' h1 h2 => hK a' w' ⟨h1, h2⟩

theorem wpAnyR_done {listed : Array Bool} {a : Act} {w : World} (hr : Region.ready md ops listed = []) (h : Q .normal a w) : ∀ fuel, wpAnyR P md ops Q S late fuel listed a w
  | 0 => ⟨hr, h⟩
  | _ + 1 => ⟨fun _ => h, by rw [hr]; simp⟩

theorem wp_region_R {id : Nat} {a : Act} {w : World} (hm : P.follows .mixedOrders = true) (h : wpAnyR P .any ops Q S late ops.size (Array.replicate ops.size false) a w.drew) : (Code.region id ops true).wp P Q a w :=
  wp_region_any hm (wpAny_of_R _ _ _ _ h)
end

end Go.Proofs.YteljcdlnfjeaaaaDoor
