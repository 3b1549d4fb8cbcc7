/- From the row's list of variables to the errors' codes; how a law's arguments and variables read behind the call. -/
import Derived.Test.YteljcdlnfjeaaaaDoorErr
import Derived.Test.YteljcdlnfjeaaaaDoorLaw
import Derived.ProofKit
import Derived.LaidLaws
import Derived.LaidMore
import Derived.LaidSub
import Derived.RowKitTokens
import Derived.OpenShut
import Derived.Carry
import Derived.Deep.Slices
import Derived.Deep.DeepHandedRow
import Derived.Deep.DeepWitnessRowRef
set_option linter.unusedVariables false
set_option linter.unusedSimpArgs false
namespace Go.Proofs.YteljcdlnfjeaaaaDoor
open Go.ChangeShapes Go.WideShapes Go.ChangeAt Go.RowKit Go.Deep

theorem own : ownKnob Tryd.prog.godebug = none := by kernel_rfl
theorem cellsES : Tryd.prog.cellsOf 120 = 1 := by kernel_rfl
theorem cellsStr : Tryd.prog.cellsOf 9 = 1 := by kernel_rfl
theorem starES : "*" ++ "errors.errorString" = "*errors.errorString" := by decide
theorem rowES (u : TypeId) (h : Tryd.prog.typeName? 3 u = some "*errors.errorString") : u = 101 :=
  typeName_ptr_named (nm := "errors.errorString") (by rw [starES]; kernel_rfl) (by kernel_rfl) (by decide) u (by rw [starES]; exact h)

/-- an error as errors.New makes it, read through -/
def sent (bs : List UInt8) : DataW Unit := .iface "*errors.errorString" (.ptr (.agg [.lit (.string bs)]))

/-- where a variable of an error points to -/
def ptrOf : Value → Addr
  | .iface _ (.pointer (some a)) => a
  | _ => ⟨0, 0, none⟩
noncomputable def addrOf (W : World) (n : String) : Addr := ptrOf (((W.var? Tryd.prog n).getD #[]).getD 0 (.bool false))

structure SentAt (W : World) (n : String) (ps : List MemPlace) : Prop where
  var : W.var? Tryd.prog n = some #[.iface 101 (.pointer (some (addrOf W n)))]
  mem : MemPlace.cell (addrOf W n).block (addrOf W n).off ∈ ps
  spot : (addrOf W n).spot = none

set_option maxRecDepth 100000 in
theorem laid_sent {W : World} {ps0 : List MemPlace} (hrows : ∀ b off, MemPlace.cell b off ∈ ps0 → (∃ c t, W.heap[b]? = some (.cells c t (0, 0))) ∧ ∀ u v, W.cell? ⟨b, off, none⟩ = some (.iface u v) → Value.okWide Tryd.prog W .any 0 u v) :
    ∀ {l : List (String × DataW Unit)} {ps : List MemPlace}, DataW.LaidVars Tryd.prog W l ps → (∀ p ∈ ps, p ∈ ps0) → ps.Nodup → (∀ x ∈ l, ∃ bs, x.2 = sent bs) →
      (∀ x ∈ l, ∃ g, Tryd.prog.globalNamed x.1 = some g ∧ (Tryd.prog.globals[g]?).map (·.type) = some 62) →
      (∀ x ∈ l, SentAt W x.1 ps) ∧ (∀ x ∈ l, ∀ y ∈ l, addrOf W x.1 = addrOf W y.1 → x.1 = y.1)
  | [], _, _, _, _, _, _ => ⟨(fun x hx => by cases hx), (fun x hx => by cases hx)⟩
  | (n, d) :: r, ps, h, hsub, hnd, hs, hg => by
    obtain ⟨g, t, cs, fuel, p, q, hgn, htn, hv, hd, hr, rfl⟩ := h
    obtain ⟨bs, hbs⟩ := hs (n, d) (by simp)
    simp only at hbs
    subst hbs
    obtain ⟨g', hg', ht'⟩ := hg (n, sent bs) (by simp)
    obtain rfl : g' = g := Option.some.inj (hg'.symm.trans hgn)
    obtain rfl : 62 = t := Option.some.inj (ht'.symm.trans htn)
    obtain ⟨lc⟩ := cs
    have okv : ∀ u v, lc = [.iface u v] → Value.okWide Tryd.prog W .any 0 u v := fun u v e => by
      subst e
      exact (hrows g' 0 (hsub _ (by simp [MemPlace.row]))).2 u v (by simpa using World.var?_cell hgn hv 0)
    obtain ⟨a, s, rfl, hc, _, _, rfl⟩ := errorString_of_trod Tryd.underlying62 rowES Tryd.underlying101 Tryd.underlying120 rfl rfl Tryd.underlying9 cellsES cellsStr hd okv
    have hspot : a.spot = none := by
      cases hsp : a.spot with
      | none => rfl
      | some z =>
        exfalso
        unfold World.cell? at hc
        split at hc
        · simp [hsp] at hc
        · cases hc
    have hadr : addrOf W n = a := by simp [addrOf, hv, ptrOf]
    have hmem : MemPlace.cell a.block a.off ∈ MemPlace.row a 1 := by simp [MemPlace.row]
    obtain ⟨ih1, ih2⟩ := laid_sent hrows hr (fun p hp => hsub p (by simp [hp])) ((List.nodup_append.1 hnd).2.1) (fun x hx => hs x (by simp [hx])) (fun x hx => hg x (by simp [hx]))
    have hfar : ∀ x ∈ r, addrOf W x.1 ≠ a := fun x hx e => by
      have h1 := (ih1 x hx).mem
      rw [e] at h1
      exact (List.nodup_append.1 hnd).2.2 _ (List.mem_append_right _ hmem) _ h1 rfl
    refine ⟨fun x hx => ?_, fun x hx y hy e => ?_⟩
    · rcases List.mem_cons.1 hx with rfl | hx
      · exact ⟨by rw [hadr]; exact hv, by rw [hadr]; simp [hmem], by rw [hadr]; exact hspot⟩
      · have := ih1 x hx
        exact ⟨this.var, by simp [this.mem], this.spot⟩
    · rcases List.mem_cons.1 hx with rfl | hx
      · rcases List.mem_cons.1 hy with rfl | hy
        · rfl
        · simp only at e
          rw [hadr] at e
          exact absurd e.symm (hfar y hy)
      · rcases List.mem_cons.1 hy with rfl | hy
        · simp only at e
          rw [hadr] at e
          exact absurd e (hfar x hx)
        · exact ih2 x hx y hy e

/-- the variable of an error's code -/
def errName : Nat → String
  | 1 => "io.EOF"
  | 2 => "loop.example/lib-readerscripts/impl.errBroken"
  | 3 => "loop.example/lib-readerscripts/impl.errFull"
  | 4 => "io.ErrUnexpectedEOF"
  | 5 => "io.ErrShortBuffer"
  | 6 => "io.ErrShortWrite"
  | _ => ""

theorem errCases {k : Nat} (h : isErr k = true) : k = 1 ∨ k = 2 ∨ k = 3 ∨ k = 4 ∨ k = 5 ∨ k = 6 ∨ (k = 9 ∨ k = 10) ∧ 9 ≤ k := by
  simp [isErr] at h
  omega

theorem errNamed (k : Nat) (h : isErr k = true) : Tryd.prog.globalNamed (errName k) = some (errG k) := by
  rcases errCases h with rfl | rfl | rfl | rfl | rfl | rfl | ⟨rfl | rfl, _⟩
  all_goals first
    | exact absurd h (by decide)
    | kernel_rfl

theorem errs_of_laid {W : World} {l : List (String × DataW Unit)} (h : laidMet Tryd.prog l W) (hs : ∀ x ∈ l, ∃ bs, x.2 = sent bs)
    (hg : ∀ x ∈ l, ∃ g, Tryd.prog.globalNamed x.1 = some g ∧ (Tryd.prog.globals[g]?).map (·.type) = some 62) (hn : ∀ k, isErr k = true → ∃ x ∈ l, x.1 = errName k)
    (hinj : ∀ j k, isErr j = true → isErr k = true → errName j = errName k → j = k) :
    Errs W.heap.size W (fun k => addrOf W (errName k)) ∧ ∀ k, isErr k = true → W.var? Tryd.prog (errName k) = some #[.iface 101 (.pointer (some (addrOf W (errName k))))] := by
  obtain ⟨ps, hl, hnd, hrows⟩ := h
  obtain ⟨h1, h2⟩ := laid_sent hrows hl (fun _ hp => hp) hnd hs hg
  have hv : ∀ k, isErr k = true → SentAt W (errName k) ps := fun k hk => by
    obtain ⟨x, hx, e⟩ := hn k hk
    rw [← e]
    exact h1 x hx
  have hcell : ∀ k, isErr k = true → W.cell? ⟨errG k, 0, none⟩ = some (.iface 101 (.pointer (some (addrOf W (errName k))))) := fun k hk => by
    simpa using World.var?_cell (errNamed k hk) (hv k hk).var 0
  refine ⟨⟨hcell, fun k hk => (hrows _ _ (hv k hk).mem).1, fun k hk => World.block_lt_of_cell? W _ (hcell k hk), fun k hk => ?_, fun j k hj hk e => ?_⟩, fun k hk => (hv k hk).var⟩
  · obtain ⟨c, t, hb⟩ := (hrows _ _ (hv k hk).mem).1
    exact (Array.getElem?_eq_some_iff.1 hb).1
  · obtain ⟨x, hx, ex⟩ := hn j hj
    obtain ⟨y, hy, ey⟩ := hn k hk
    refine hinj j k hj hk ?_
    rw [← ex, ← ey]
    exact h2 x hx y hy (by rw [ex, ey]; exact e)

theorem errName_inj (j k : Nat) (hj : isErr j = true) (hk : isErr k = true) (e : errName j = errName k) : j = k := by
  rcases errCases hj with rfl | rfl | rfl | rfl | rfl | rfl | ⟨rfl | rfl, _⟩ <;> rcases errCases hk with rfl | rfl | rfl | rfl | rfl | rfl | ⟨rfl | rfl, _⟩ <;>
    first
      | rfl
      | exact absurd e (by decide)
      | exact absurd hj (by decide)
      | exact absurd hk (by decide)

/-- the codes of errors, listed -/
def errCodes : List Nat :=
  [1, 2, 3, 4, 5, 6
  ]
theorem isErr_mem {k : Nat} (h : isErr k = true) : k ∈ errCodes := by
  rcases errCases h with rfl | rfl | rfl | rfl | rfl | rfl | ⟨rfl | rfl, _⟩
  all_goals first
    | exact absurd h (by decide)
    | decide

def sentB (l : List (String × DataW Unit)) : Bool := l.all fun x => match x.2 with
  | .iface n (.ptr (.agg [.lit (.string _)])) => n == "*errors.errorString"
  | _ => false
theorem sent_of_B {l : List (String × DataW Unit)} (h : sentB l = true) : ∀ x ∈ l, ∃ bs, x.2 = sent bs := fun x hx => by
  have := List.all_eq_true.1 h x hx
  split at this
  · next n bs e => exact ⟨bs, by rw [e, beq_iff_eq.1 this]; rfl⟩
  · cases this
noncomputable def globB (l : List (String × DataW Unit)) : Bool := l.all fun x => match Tryd.prog.globalNamed x.1 with
  | some g => (Tryd.prog.globals[g]?).map (·.type) == some 62
  | none => false
theorem glob_of_B {l : List (String × DataW Unit)} (h : globB l = true) : ∀ x ∈ l, ∃ g, Tryd.prog.globalNamed x.1 = some g ∧ (Tryd.prog.globals[g]?).map (·.type) = some 62 := fun x hx => by
  have := List.all_eq_true.1 h x hx
  split at this
  · next g e => exact ⟨g, e, beq_iff_eq.1 this⟩
  · cases this
def namesB (l : List (String × DataW Unit)) : Bool := errCodes.all fun k => l.any fun x => x.1 == errName k
theorem names_of_B {l : List (String × DataW Unit)} (h : namesB l = true) : ∀ k, isErr k = true → ∃ x ∈ l, x.1 = errName k := fun k hk => by
  obtain ⟨x, hx, e⟩ := List.any_eq_true.1 (List.all_eq_true.1 h k (isErr_mem hk))
  exact ⟨x, hx, beq_iff_eq.1 e⟩

theorem errs_of_row {W : World} {l : List (String × DataW Unit)} (h : laidMetH Tryd.prog l W) (h0 : (l.all fun x => x.2.handleName?.isNone) = true) (h1 : sentB l = true) (h2 : globB l = true) (h3 : namesB l = true) :
    Errs W.heap.size W (fun k => addrOf W (errName k)) ∧ ∀ k, isErr k = true → W.var? Tryd.prog (errName k) = some #[.iface 101 (.pointer (some (addrOf W (errName k))))] := by
  obtain ⟨h', _⟩ := laidMetH_iff.1 h
  rw [List.filter_eq_self.2 (List.all_eq_true.1 h0)] at h'
  exact errs_of_laid h' (sent_of_B h1) (glob_of_B h2) (names_of_B h3) errName_inj

theorem gTypes (k : Nat) (h : isErr k = true) : (Tryd.prog.globals[errG k]?).map (·.type) = some 62 := by
  rcases errCases h with rfl | rfl | rfl | rfl | rfl | rfl | ⟨rfl | rfl, _⟩
  all_goals first
    | exact absurd h (by decide)
    | kernel_rfl

section
variable {H : Type} {enc : TypeId × Value → H}

/-- the two variables of the program's own, read as tokens -/
theorem vars_read {W : World} {x2 x3 : Value} (h2 : W.var? Tryd.prog (errName 2) = some #[x2]) (h3 : W.var? Tryd.prog (errName 3) = some #[x3]) (i2 : IsIface x2) (i3 : IsIface x3) (sp : Nat → Bool) :
    DataW.TrodVars enc Tryd.prog W sp [errName 2, errName 3] [tok enc x2, tok enc x3] [.cell (errG 2) 0, .cell (errG 3) 0] :=
  ⟨errG 2, 62, #[x2], 1, [], [.cell (errG 3) 0], errNamed 2 rfl, gTypes 2 rfl, h2, trod_held Tryd.underlying62 i2 0, ⟨errG 3, 62, #[x3], 1, [], [], errNamed 3 rfl, gTypes 3 rfl, h3, trod_held Tryd.underlying62 i3 0, rfl, rfl⟩, rfl⟩

theorem var_below {W W' : World} {n : String} {g : Nat} {cs : Array Value} (hb : Below W.heap.size W W') (hg : Tryd.prog.globalNamed n = some g) (hlt : g < W.heap.size) (hv : W.var? Tryd.prog n = some cs) : W'.var? Tryd.prog n = some cs := by
  unfold World.var? at hv ⊢
  rw [hg] at hv ⊢
  simp only [Option.bind_some] at hv ⊢
  rw [hb.block g hlt]
  exact hv

theorem laidOut : laidOutB Tryd.prog = true := by kernel_rfl

theorem trodAll_below {W W' : World} (hb : Below W.heap.size W W') : ∀ {ts : List TypeId} {vs : List Value} {ds : List (DataW H)} {ps : List MemPlace}, DataW.TrodAll enc Tryd.prog W 0 (fun _ => true) true ts vs ds ps →
    (∀ t ∈ ts, Tryd.prog.readableRec t = true ∧ t < Tryd.prog.types.size) → (∀ p ∈ ps, p.block < W.heap.size) → DataW.TrodAll enc Tryd.prog W' 0 (fun b => decide (b < W.heap.size)) true ts vs ds ps
  | [], [], [], _, h, _, _ => h
  | t :: ts, v :: vs, d :: ds, ps, h, hr, hp => by
    obtain ⟨p, q, h1, h2, rfl⟩ := h
    exact ⟨p, q, Below.trod laidOut (hr t (by simp)).1 (hr t (by simp)).2 h1 hb (fun x hx => hp x (by simp [hx])), trodAll_below hb h2 (fun t ht => hr t (by simp [ht])) (fun x hx => hp x (by simp [hx])), rfl⟩
  | [], [], _ :: _, _, h, _, _ => h.elim
  | [], _ :: _, _, _, h, _, _ => h.elim
  | _ :: _, [], _, _, h, _, _ => h.elim
  | _ :: _, _ :: _, [], _, h, _, _ => h.elim

/-- behind a law that returned true and changed nothing that was there -/
theorem law_post {f : Func} {s : ChangeSpec} {W W' : World} {args : Array Value} {ds gs : List (DataW H)} {before : List MemPlace} (hW : DataW.Whole enc Tryd.prog f.params.toList s.vars false W args.toList ds gs before)
    (hvars : s.vars = [errName 2, errName 3]) (hres : f.resultTypes = #[4]) (hfn : s.fn H (ds ++ gs) = { results := [.lit (.bool true)], args := ds, vars := gs })
    (hread : ∀ t ∈ f.params.toList, Tryd.prog.readableRec t = true ∧ t < Tryd.prog.types.size)
    (hv : ∀ k, isErr k = true → W.var? Tryd.prog (errName k) = some #[.iface 101 (.pointer (some (addrOf W (errName k))))]) (hlt : ∀ k, isErr k = true → errG k < W.heap.size) (hb : Below W.heap.size W W') :
    s.post enc Tryd.prog f false true false false W args (.bool true) W' := by
  obtain ⟨p, q, hA, hV, hpq, hfz, hnd⟩ := hW
  have hW' : DataW.Whole enc Tryd.prog f.params.toList s.vars false W args.toList ds gs before := ⟨p, q, hA, hV, hpq, hfz, hnd⟩
  have hg : gs = [tok enc (.iface 101 (.pointer (some (addrOf W (errName 2))))), tok enc (.iface 101 (.pointer (some (addrOf W (errName 3)))))] := by
    rw [hvars] at hV
    exact (hV.unique (vars_read (hv 2 rfl) (hv 3 rfl) trivial trivial _)).1
  refine ⟨ds, gs, before, [], p, [.cell (errG 2) 0, .cell (errG 3) 0], hW', ?_, ?_, ?_, hb.frame _, fun h => by cases h⟩
  · rw [hfn, hres]
    exact trodAll_mk1 (shut_bool Tryd.underlying4 true)
  · rw [hfn]
    exact trodAll_below hb hA hread hA.lt
  · rw [hfn, hvars, hg]
    exact vars_read (var_below hb (errNamed 2 rfl) (hlt 2 rfl) (hv 2 rfl)) (var_below hb (errNamed 3 rfl) (hlt 3 rfl) (hv 3 rfl)) trivial trivial _
end

end Go.Proofs.YteljcdlnfjeaaaaDoor
