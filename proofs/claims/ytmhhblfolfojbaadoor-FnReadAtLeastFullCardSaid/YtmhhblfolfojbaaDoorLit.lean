/- The only byte of a source that stands in a law's text; plain laws on filling one buffer. -/
import Derived.Test.YtmhhblfolfojbaaDoorFullW
import Derived.Test.YtmhhblfolfojbaaDoorJoin
import Derived.Test.YtmhhblfolfojbaaDoorJoinP
set_option linter.unusedVariables false
set_option linter.unusedSimpArgs false
namespace Go.Proofs.YtmhhblfolfojbaaDoor
open Go.RowKit

theorem atLeast_take {L : Int} {z : Nat} {st : List (List Int × Int)} (hv : Valid L st) : (atLeast L z z st).1.1 = (joinD st).take z := by
  by_cases hz : z ≤ (joinD st).length
  · exact (atLeast_full hv hz).1
  · have h1 := atLeast_join (L := L) (size := z) (least := z) st
    have h3 := fill_ends (L := L) (Nat.le_refl z) (st.length + 1) st [] 0 hv.ends (fun _ => Nat.le_refl _)
    have h4 := fill_fin (L := L) (size := z) (least := z) (st.length + 1) st [] 0 hv (fun h => absurd rfl h)
    have hd : (atLeast L z z st).1.1 = (fill L z z (st.length + 1) st [] 0).1.1 := by unfold atLeast; rw [if_neg (by omega)]
    have hs : (atLeast L z z st).2 = (fill L z z (st.length + 1) st [] 0).2 := by unfold atLeast; rw [if_neg (by omega)]
    have hl := congrArg List.length h1
    rw [List.length_append] at hl
    have h5 : (atLeast L z z st).2 = [] := by
      rw [hs]
      refine h4 ?_
      rcases h3 with h3 | h3
      · rw [← hd] at h3; omega
      · exact h3
    rw [h5, joinD_nil, List.append_nil] at h1
    rw [h1, List.take_of_length_le (by omega)]

theorem readFulls_one {L : Int} {z : Nat} {st : List (List Int × Int)} (hv : Valid L st) : joinD (readFulls L [(z : Int)] st) = (joinD st).take z := by
  rw [readFulls, readFulls, joinD_cons, joinD_nil, List.append_nil, Int.toNat_natCast]
  exact atLeast_take hv

theorem sizes_one {t : Nat} (h : t ≤ 1048576) : SizesOK [(t : Int)] := by
  refine ⟨fun i hi => ?_, by simp; omega⟩
  obtain rfl : i = 0 := by simpa using hi
  simp
  omega

theorem ints_one (w : World) (t : TypeId) (z : Int) : IntsAt (fun j => w.heap.size ≤ j) (w.alloc (.cells #[.int .i64 z] t)) (some ⟨w.heap.size, 0, none⟩) [z] := fun _ => by
  refine ⟨w.heap.size, 0, rfl, Nat.le_refl _, by simp, fun j hj => ?_⟩
  obtain rfl : j = 0 := by simpa using hj
  rw [(Blk.new w t _).cell]
  rfl

/-- the source with one byte that stands in the text -/
theorem lit_recs (w : World) : RecsAt (fun j => w.heap.size ≤ j) ((w.alloc (.cells #[.int .u8 7] 5)).alloc (.cells #[.slice (some ⟨w.heap.size, 0, none⟩) 1 1, .int .i64 0] 40)) (some ⟨w.heap.size + 1, 0, none⟩) [([7], 0)] := fun _ => by
  refine ⟨w.heap.size + 1, 0, rfl, by omega, by simp, fun i hi => ?_⟩
  obtain rfl : i = 0 := by simpa using hi
  have b := Blk.new (w.alloc (.cells #[.int .u8 7] 5)) 40 #[.slice (some ⟨w.heap.size, 0, none⟩) 1 1, .int .i64 0]
  simp at b
  refine ⟨some ⟨w.heap.size, 0, none⟩, 1, by simp [dat], by simp [err], by simp [dat], fun _ => ⟨w.heap.size, 0, rfl, by omega, by simp; omega, fun j hj => ?_⟩⟩
  obtain rfl : j = 0 := by simpa [dat] using hj
  have b0 := (Blk.new w 5 #[.int .u8 7]).alloc (.cells #[.slice (some ⟨w.heap.size, 0, none⟩) 1 1, .int .i64 0] 40)
  exact (b0.cell 0)

theorem lit_valid : Valid 1 [([7], 0)] := .inl ⟨rfl, rfl⟩

/-- filling a buffer of one byte from it -/
theorem lit_full {B : Nat} {w : World} {E : Nat → Addr} (hE : Errs B w E) (hBw : B ≤ w.heap.size) :
    Calls Tryd.prog 19 #[.agg #[.slice (some ⟨w.heap.size + 1, 0, none⟩) 1 1], .slice (some ⟨w.heap.size + 2, 0, none⟩) 1 1]
      (((w.alloc (.cells #[.int .u8 7] 5)).alloc (.cells #[.slice (some ⟨w.heap.size, 0, none⟩) 1 1, .int .i64 0] 40)).alloc (.cells #[.int .i64 1] 3))
      fun e w' => ∃ A c, e = .returned (.slice A 1 c) ∧ RecsAt (fun j => w.heap.size ≤ j) w' A [([7], 0)] ∧ Below w.heap.size w w' := by
  have hb : Below w.heap.size w (((w.alloc (.cells #[.int .u8 7] 5)).alloc (.cells #[.slice (some ⟨w.heap.size, 0, none⟩) 1 1, .int .i64 0] 40)).alloc (.cells #[.int .i64 1] 3)) :=
    (((Below.refl _ _).alloc (Nat.le_refl _) _).alloc (by simp) _).alloc (by simp; omega) _
  have hz := ints_one ((w.alloc (.cells #[.int .u8 7] 5)).alloc (.cells #[.slice (some ⟨w.heap.size, 0, none⟩) 1 1, .int .i64 0] 40)) 3 1
  simp only [World.size_alloc] at hz
  have C := implReadFull_any (L := 1) (st := [([7], 0)]) (zs := [((1 : Nat) : Int)]) (hE.below (hb.mono hBw)) (Nat.le_trans hBw hb.size) 1 1 ((lit_recs w).alloc (.cells #[.int .i64 1] 3)) (by simp) (fun i hi => by
    have : i = 0 := by simpa using hi
    subst this
    simp [dat]) lit_valid (fun h => by cases h) hz (sizes_one (by omega)) (by simp)
  refine Calls.mono C ?_
  rintro e w' ⟨A, c, he, _, hr, hb'⟩
  exact ⟨A, c, he, hr.mono (fun k _ hk => by simp at hk; omega), hb.trans (hb'.mono (by simp; omega))⟩

end Go.Proofs.YtmhhblfolfojbaaDoor
