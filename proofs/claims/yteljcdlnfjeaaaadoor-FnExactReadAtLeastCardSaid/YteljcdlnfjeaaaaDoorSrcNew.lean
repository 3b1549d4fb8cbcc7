/- newReader over a valid source. -/
import Derived.Test.YteljcdlnfjeaaaaDoorFull
set_option linter.unusedVariables false
set_option linter.unusedSimpArgs false
namespace Go.Proofs.YteljcdlnfjeaaaaDoor
open Go.RowKit

/-- a new reader of a valid source -/
def SrcNew (st : List (List Int × Int)) (L : Int) (w : World) (e : Ending) (w' : World) : Prop :=
  ∃ b g, e = .returned (.pointer (some ⟨b, 0, none⟩)) ∧ w.heap.size ≤ b ∧ w.heap.size ≤ g ∧ b < w'.heap.size ∧ Src (fun j => w.heap.size ≤ j ∧ j < w'.heap.size ∧ j ≠ b ∧ j ≠ g) w' b g st L ∧ Below w.heap.size w w' ∧ g < w'.heap.size

theorem newReader_src {S : Nat → Prop} {w : World} {A : Option Addr} {st : List (List Int × Int)} {L : Int} (c : Nat) (h : RecsAt S w A st) (hn : st.length * 32 ≤ 140737488355328) (hd : ∀ i, i < st.length → (dat st i).length ≤ 140737488355328) (hv : Valid L st) (hL : st = [] → L = 1) :
    Calls Tryd.prog 31 #[.agg #[.slice A st.length c]] w (SrcNew st L w) := by
  refine (newReader_any c h hn hd).mono ?_
  rintro e w' ⟨he, hb, hsz, g, hg, hg', hrd⟩
  have hl : lastOf L st = 1 := by
    unfold lastOf
    split
    · next h0 => exact hL h0
    · rfl
  refine ⟨w.heap.size + 1, g, he, by omega, by omega, by omega, ⟨hv, ?_, fun i hi => by have := hd i hi; omega⟩, hb, hg'⟩
  · rw [hl]
    obtain ⟨A', c', h1, h2, h3⟩ := hrd
    refine ⟨A', c', h1, h2, fun hp => ?_⟩
    obtain ⟨off, hA, cur, hgb, hall⟩ := h3 hp
    refine ⟨off, hA, cur, hgb, fun i hi => ?_⟩
    obtain ⟨Ai, ci, q1, q2, q3, q4⟩ := hall i hi
    exact ⟨Ai, ci, q1, q2, q3, q4.mono fun j _ hS => ⟨by omega, hS.2.1, by omega, hS.2.2⟩⟩

theorem codeI_small {c : Int} (h : c = 0 ∨ c = 1 ∨ c = 2 ∨ c = 4 ∨ c = 5) : codeI c = c := by rcases h with rfl | rfl | rfl | rfl | rfl <;> rfl
theorem isErr_small {c : Int} (h : c = 0 ∨ c = 1 ∨ c = 2 ∨ c = 4 ∨ c = 5) : c = 0 ∨ ∃ k : Nat, c = k ∧ isErr k = true := by
  rcases h with rfl | rfl | rfl | rfl | rfl
  · exact .inl rfl
  · exact .inr ⟨1, rfl, rfl⟩
  · exact .inr ⟨2, rfl, rfl⟩
  · exact .inr ⟨4, rfl, rfl⟩
  · exact .inr ⟨5, rfl, rfl⟩

end Go.Proofs.YteljcdlnfjeaaaaDoor
