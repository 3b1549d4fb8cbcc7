/- impl.Section: operations on a section of bytes, one behind the other. -/
import Derived.Test.YtdlgknaipljhhaaDoorSec3
import Derived.Test.YtdlgknaipljhhaaDoorEls
import Derived.Deep.LoopGhost
import Derived.Deep.RegionLaw
set_option linter.unusedVariables false
set_option linter.unusedSimpArgs false
namespace Go.Proofs.YtdlgknaipljhhaaDoor
open Go.RowKit

theorem infoOp : (Tryd.prog.info? 33).map (fun i => (i.zero, i.size, i.bytes)) = some (some (.agg #[.slice none 0 0, .int .i64 0, .int .i64 0]), 3, 40) := by kernel_rfl

/-- answers of operations, in new memory -/
def OpsPost (R : List (List Int × Int × Int)) (w : World) (e : Ending) (w' : World) : Prop :=
  ∃ A c, e = .returned (.slice A R.length c) ∧ R.length ≤ c ∧ ElsAt ElO 3 (fun j => w.heap.size ≤ j) w' A R ∧ Below w.heap.size w w'

/-- the blocks of the section reader -/
def SX (S : Nat → Prop) (sb rb j : Nat) : Prop := S j ∨ j = sb ∨ j = rb

/-- what holds at the head of a round of impl.Section -/
def SIInv (S : Nat → Prop) (sb rb : Nat) (data : List Int) (off n : Nat) (ops : List (Int × Int × Int)) (w : World) (k : Nat) (A' : Option Addr) (c' : Nat) (wr : World) : Prop :=
  ∃ done xs pos, ElRow ElO 3 33 w.heap.size (SX S sb rb) wr A' k c' done xs ∧ SecAt S wr sb rb data off n pos ∧ opRuns ((data.drop off).take n) ops 0 = done ++ opRuns ((data.drop off).take n) (ops.drop k) pos ∧ Below w.heap.size w wr ∧ pos ≤ data.length + k * 1048576

theorem si_next {S : Nat → Prop} {sb rb : Nat} {data : List Int} {off n : Nat} {ops : List (Int × Int × Int)} {w wr w3 w0 w4 : World} {k c' c2 : Nat} {A' A2 : Option Addr} {done : List (List Int × Int × Int)} {xs vs : List Value} {x : List Int × Int × Int} {pos' : Nat} {D : Nat → Prop}
    (hrow : ElRow ElO 3 33 w.heap.size (SX S sb rb) wr A' k c' done xs) (hb : Below w.heap.size w wr) (hX : ∀ j, SX S sb rb j → w.heap.size ≤ j ∧ j < wr.heap.size) (hk3 : Kept D wr w3) (hD : ∀ j, j < wr.heap.size → D j → j = sb) (hsec : SecAt S w3 sb rb data off n pos')
    (hfut : opRuns ((data.drop off).take n) ops 0 = done ++ (x :: opRuns ((data.drop off).take n) (ops.drop (k + 1)) pos')) (hpos : pos' ≤ data.length + (k + 1) * 1048576) (hw0 : Kept (fun _ => False) w3 w0)
    (hap : Appended w.heap.size 33 3 A2 (k + 1) c2 (xs ++ vs) (Value.slice A' k c').ownBlock w0 w4) (hv : vs.length = 3) (hd : ElO (fun j => wr.heap.size ≤ j) w3 vs x) : SIInv S sb rb data off n ops w (k + 1) A2 c2 w4 := by
  have hlo : ∀ j, (Value.slice A' k c').ownBlock = some j → w.heap.size ≤ j ∧ j < wr.heap.size := fun j e => own_block_lt hrow.own e
  have hz := hk3.size
  have hr3 := hrow.kept mvO hk3 fun j _ hj hX' hDj => hX' (.inr (.inl (hD j hj hDj)))
  have hn := ElRow.snoc mvO (by omega) hr3 hw0 hap (fun j hj hXj => by have := (hX j hXj).2; omega) hv (mvO.mv hd (Nat.le_refl _) fun j _ hj => ⟨⟨by have := hb.size; omega, fun e => by have := (hlo j e.symm).2; omega, fun hXj => by have := (hX j hXj).2; omega⟩, rfl⟩)
  refine ⟨_, _, pos', hn, ?_, by rw [hfut, List.append_assoc]; rfl, ?_, hpos⟩
  · refine (hsec.kept hw0 fun _ _ _ hf => hf).kept hap.kept fun j _ hj hDj => ?_
    exact hrow.nx j hDj.symm hj
  · refine hb.trans ((hk3.below hb.size fun j hj hDj => ?_).trans (((hw0.mono (D' := fun j => some j = (Value.slice A' k c').ownBlock) fun _ _ hf => hf.elim).trans hap.kept fun _ _ h => h).below (by have := hb.size; omega) fun j hj hDj => ?_))
    · have h1 := hD j (by have := hb.size; omega) hDj
      have := (hX j (.inr (.inl h1))).1
      omega
    · have := (hlo j hDj.symm).1; omega

theorem si_done {S : Nat → Prop} {sb rb : Nat} {data : List Int} {off n : Nat} {ops : List (Int × Int × Int)} {w wr : World} {k c' : Nat} {A' : Option Addr} (h : SIInv S sb rb data off n ops w k A' c' wr) (hk : ops.length ≤ k) : OpsPost (opRuns ((data.drop off).take n) ops 0) w (.returned (.slice A' k c')) wr := by
  obtain ⟨done, xs, pos, h1, h2, h3, h4, _⟩ := h
  rw [List.drop_of_length_le hk] at h3
  simp only [opRuns, List.append_nil] at h3
  rw [h3]
  have hl := h1.len
  subst hl
  exact ⟨A', c', rfl, own_cap h1.own, (h1.els mvO).mono mvO fun j _ hj => hj.1, h4⟩

theorem opRuns_at {all : List Int} {ops : List (Int × Int × Int)} {k pos : Nat} (h : k < ops.length) : opRuns all (ops.drop k) pos = (opStep all pos (ops.getD k (0, 0, 0))).1 :: opRuns all (ops.drop (k + 1)) (opStep all pos (ops.getD k (0, 0, 0))).2 := by
  rw [List.drop_eq_getElem_cons h, opRuns]
  simp [h]

end Go.Proofs.YtdlgknaipljhhaaDoor
