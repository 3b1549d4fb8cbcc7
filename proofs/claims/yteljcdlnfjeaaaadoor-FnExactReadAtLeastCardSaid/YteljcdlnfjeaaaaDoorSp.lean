/- The reference's source as a state: what is left of it, and how it ends; what one read of it gives. -/
import Derived.Test.YteljcdlnfjeaaaaDoorSRead
import Derived.Test.YteljcdlnfjeaaaaDoorFull
import Derived.Deep.RegionHeld3
set_option linter.unusedVariables false
set_option linter.unusedSimpArgs false
namespace Go.Proofs.YteljcdlnfjeaaaaDoor
open Go.RowKit

/-- the state of the reference's source: what is left of it, and how it ends -/
def SpAt (S : Nat → Prop) (w : World) (sb : Nat) (rem : List (List Int × Int)) (L : Int) : Prop :=
  ∃ A c st step given, StAt S w sb A c st step given ∧ remOf st step given = rem ∧ lastErr st = L

theorem SpAt.kept {D S : Nat → Prop} {w w' : World} {sb : Nat} {rem : List (List Int × Int)} {L : Int} (h : SpAt S w sb rem L) (hk : Kept D w w') (hd : ∀ k, k < w.heap.size → (S k ∨ k = sb) → ¬ D k) : SpAt S w' sb rem L := by
  obtain ⟨A, c, st, step, given, h1, h2, h3⟩ := h
  exact ⟨A, c, st, step, given, h1.kept hk hd, h2, h3⟩
theorem SpAt.lt {S : Nat → Prop} {w : World} {sb : Nat} {rem : List (List Int × Int)} {L : Int} (h : SpAt S w sb rem L) : sb < w.heap.size := by
  obtain ⟨A, c, st, step, given, h1, h2, h3⟩ := h
  exact h1.blk.lt
theorem SpAt.apart {S : Nat → Prop} {w : World} {sb : Nat} {rem : List (List Int × Int)} {L : Int} (h : SpAt S w sb rem L) : ∀ k, S k → k ≠ sb := by
  obtain ⟨A, c, st, step, given, h1, h2, h3⟩ := h
  exact h1.apart
theorem SpAt.blk {S : Nat → Prop} {w : World} {sb : Nat} {rem : List (List Int × Int)} {L : Int} (h : SpAt S w sb rem L) : ∃ cs, Blk w sb 73 cs := by
  obtain ⟨A, c, st, step, given, h1, h2, h3⟩ := h
  exact ⟨_, h1.blk⟩

/-- an answer by value, its bytes in new memory; the state goes on to rem' -/
def GotPost (S : Nat → Prop) (sb : Nat) (data : List Int) (x : Int) (rem' : List (List Int × Int)) (L : Int) (w : World) (e : Ending) (w' : World) : Prop :=
  ∃ A' c', e = .returned (.agg #[.slice A' data.length c', .int .i64 x]) ∧ data.length ≤ c' ∧ BytesAt (fun j => w.heap.size ≤ j) w' A' data ∧ SpAt S w' sb rem' L ∧ Kept (· = sb) w w'

theorem sp_read {S : Nat → Prop} {w : World} {sb : Nat} {rem : List (List Int × Int)} {L : Int} (m : Nat) (h : SpAt S w sb rem L) :
    Calls Tryd.prog 41 #[.pointer (some ⟨sb, 0, none⟩), .int .i64 m] w (GotPost S sb (rd L rem m).1.1 (rd L rem m).1.2 (rd L rem m).2 L w) := by
  obtain ⟨A, c, st, step, given, h1, h2, h3⟩ := h
  refine (sread_any m h1).mono ?_
  rintro e w' ⟨A', c', step', given', he, hc, hb, hst, hr, hk⟩
  rw [h2, h3] at he hc hb hr
  exact ⟨A', c', he, hc, hb, ⟨A, c, st, step', given', hst, hr, h3⟩, hk⟩

theorem own_kept {D : Nat → Prop} {w w' : World} {base : Nat} {e : TypeId} {size : Nat} {v : Value} {n : Nat} {xs : List Value} (h : w.ownsRow base e size v n xs) (hk : Kept D w w') (hd : ∀ g, base ≤ g → g < w.heap.size → ¬ D g) : w'.ownsRow base e size v n xs := by
  refine ⟨h.1, ?_⟩
  rcases h.2 with h2 | ⟨g, cap, cur, hv, hg, hh, r⟩
  · exact Or.inl h2
  · have hlt := (Array.getElem?_eq_some_iff.1 hh).1
    exact Or.inr ⟨g, cap, cur, hv, hg, by rw [hk.block g hlt (hd g hg hlt)]; exact hh, r⟩

theorem sp_new {S : Nat → Prop} {w : World} {A : Option Addr} {c : Nat} {st : List (List Int × Int)} (h : RecsAt S w A st) (hS : ∀ j, S j → j < w.heap.size) (hn : st.length ≤ 281474976710656) (hd : ∀ i, i < st.length → (dat st i).length ≤ 140737488355328) :
    SpAt S (w.alloc (.cells #[.slice A st.length c, .int .i64 0, .int .i64 0] 73)) w.heap.size st (lastErr st) := by
  refine ⟨A, c, st, 0, 0, ⟨?_, h.alloc _, Nat.zero_le _, fun _ => Nat.zero_le _, fun _ => rfl, hn, hd, fun k hk e => by have := hS k hk; omega⟩, remOf_zero, rfl⟩
  exact Blk.new w _ _

end Go.Proofs.YteljcdlnfjeaaaaDoor
