/- The reader of a valid source: what it is in memory, and what a read of it leaves. -/
import Derived.Test.YteljcdlnfjeaaaaDoorRead
import Derived.Deep.RegionWith
import Derived.Deep.LoopGhost
import Derived.Deep.DrawnRows
set_option linter.unusedVariables false
set_option linter.unusedSimpArgs false
namespace Go.Proofs.YteljcdlnfjeaaaaDoor
open Go.RowKit

/-- the reader of a valid source: what is left of it, and how it ends -/
def Src (S : Nat → Prop) (w : World) (b g : Nat) (st : List (List Int × Int)) (L : Int) : Prop :=
  Valid L st ∧ Rd S w b g st (lastOf L st) ∧ ∀ i, i < st.length → (dat st i).length ≤ 281474976710656

def SrcPost (S : Nat → Prop) (E : Nat → Addr) (b g pb poff : Nat) (pc : List Value) (st : List (List Int × Int)) (L : Int) (m : Nat) (w : World) (e : Ending) (w' : World) : Prop :=
  e = .returned (.tuple #[.int .i64 (rd L st m).1.1.length, errV E (rd L st m).1.2]) ∧ Src S w' b g (rd L st m).2 L ∧
    Blk w' pb 5 (splice pc poff (bytesV (rd L st m).1.1)).toArray ∧ Kept (fun k => k = b ∨ k = g ∨ k = pb) w w'

theorem rd_small (L : Int) (n : Nat) {st : List (List Int × Int)} (h : ∀ i, i < st.length → (dat st i).length ≤ 281474976710656) : ∀ i, i < (rd L st n).2.length → (dat (rd L st n).2 i).length ≤ 281474976710656 := by
  match st, h with
  | [], _ => intro i hi; simp [rd_nil] at hi
  | (d, e) :: r, h =>
    intro i hi
    rw [rd_cons] at hi ⊢
    by_cases hlt : n < d.length
    · rw [if_pos hlt] at hi ⊢
      rcases i with _ | i
      · have := h 0 (by simp)
        rw [dat_zero] at this ⊢
        simp; omega
      · have := h (i + 1) (by simpa using hi)
        rw [dat_succ] at this ⊢
        exact this
    · rw [if_neg hlt] at hi ⊢
      have := h (i + 1) (by simp; simpa using hi)
      rw [dat_succ] at this
      exact this

theorem src_read {B : Nat} {S : Nat → Prop} {w : World} {E : Nat → Addr} (hE : Errs B w E) {b g pb : Nat} (hBb : B ≤ b) (hBg : B ≤ g) (hBp : B ≤ pb) (hBw : B ≤ w.heap.size) {st : List (List Int × Int)} {L : Int} (h : Src S w b g st L)
    (hS : ∀ k, S k → k ≠ b ∧ k ≠ g ∧ k ≠ pb) {pc : List Value} (hp : Blk w pb 5 pc.toArray) {P : Option Addr} {m poff : Nat} (c : Nat) (hfit : poff + m ≤ pc.length) (hd : 0 < m → P = some ⟨pb, poff, none⟩) :
    Calls Tryd.prog 59 #[.pointer (some ⟨b, 0, none⟩), .slice P m c] w (SrcPost S E b g pb poff pc st L m w) := by
  refine (read_any hE hBb hBg hBp hBw h.2.1 hS hp c hfit hd h.2.2).mono fun e w' hpost => ?_
  unfold RdPost at hpost
  rw [rdI_valid h.1 m] at hpost
  exact ⟨hpost.1, ⟨h.1.rd m, hpost.2.1, rd_small L m h.2.2⟩, hpost.2.2⟩

theorem Src.keep {S : Nat → Prop} {w w' : World} {b g : Nat} {st : List (List Int × Int)} {L : Int} (h : Src S w b g st L) (hsz : w.heap.size ≤ w'.heap.size) (hk : ∀ k, k < w.heap.size → (S k ∨ k = b ∨ k = g) → w'.heap[k]? = w.heap[k]?) : Src S w' b g st L := by
  obtain ⟨hv, ⟨A, c, hb, hc, hr⟩, hs⟩ := h
  refine ⟨hv, ⟨A, c, hb.keep (hk b hb.lt (.inr (.inl rfl))), hc, fun hpos => ?_⟩, hs⟩
  obtain ⟨off, hA, cur, hg, hall⟩ := hr hpos
  refine ⟨off, hA, cur, hg.keep (hk g hg.lt (.inr (.inr rfl))), fun i hi => ?_⟩
  obtain ⟨Ai, ci, q1, q2, q3, q4⟩ := hall i hi
  exact ⟨Ai, ci, q1, q2, q3, q4.keep hsz fun k hk' hS => hk k hk' (.inl hS)⟩
theorem Src.drew {S : Nat → Prop} {w : World} {b g : Nat} {st : List (List Int × Int)} {L : Int} (h : Src S w b g st L) : Src S w.drew b g st L := h.keep (Nat.le_refl _) fun _ _ _ => rfl
theorem Src.drewN {S : Nat → Prop} {w : World} {b g : Nat} {st : List (List Int × Int)} {L : Int} (h : Src S w b g st L) (n : Nat) : Src S (w.drewN n) b g st L := h.keep (Nat.le_refl _) fun _ _ _ => rfl
theorem Src.kept {D S : Nat → Prop} {w w' : World} {b g : Nat} {st : List (List Int × Int)} {L : Int} (h : Src S w b g st L) (hb : Kept D w w') (hd : ∀ k, k < w.heap.size → (S k ∨ k = b ∨ k = g) → ¬ D k) : Src S w' b g st L :=
  h.keep hb.size fun k hk hS => hb.block k hk (hd k hk hS)

theorem nilAhead_read (a : Addr) (w : World) : (nilAhead 223 65 (.pointer (some a)) "Read").run Tryd.prog w = .ok (some false) w := by kernel_rfl
theorem method_read (a : Addr) (w : World) : (method 223 65 (.pointer (some a)) "Read").run Tryd.prog w = .ok (59, .pointer (some a)) w := by kernel_rfl

end Go.Proofs.YteljcdlnfjeaaaaDoor
