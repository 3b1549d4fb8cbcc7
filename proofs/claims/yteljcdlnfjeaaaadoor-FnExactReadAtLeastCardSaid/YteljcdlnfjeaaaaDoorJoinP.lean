/- Plain laws of reading: buffers that are filled have the bytes of the source, from the beginning on. No program is named here. -/
import Derived.Test.YteljcdlnfjeaaaaDoorIff
set_option linter.unusedVariables false
set_option linter.unusedSimpArgs false
namespace Go.Proofs.YteljcdlnfjeaaaaDoor

theorem rd_join (L : Int) (st : List (List Int × Int)) (n : Nat) : (rd L st n).1.1 ++ joinD (rd L st n).2 = joinD st := by
  match st with
  | [] => simp [rd, joinD]
  | (d, e) :: r =>
    rw [rd_cons]
    split
    · simp [joinD]
      rw [← List.append_assoc, List.take_append_drop]
    · simp [joinD]

theorem rd_fin {L : Int} {st : List (List Int × Int)} (h : Valid L st) (n : Nat) (he : (rd L st n).1.2 ≠ 0) : (rd L st n).2 = [] := by
  match st, h with
  | [], _ => rfl
  | (d, e) :: r, h =>
    rw [rd_cons] at he ⊢
    split at he
    · exact absurd rfl he
    · next hlt =>
      rw [if_neg hlt]
      simp only at he ⊢
      by_cases hr : r = []
      · exact hr
      · exact absurd (h.head.2.1 hr) he

theorem fill_join {L : Int} {size least : Nat} : ∀ (f : Nat) (st : List (List Int × Int)) (data : List Int) (err : Int), (fill L size least f st data err).1.1 ++ joinD (fill L size least f st data err).2 = data ++ joinD st
  | 0, _, _, _ => rfl
  | f + 1, st, data, err => by
    rw [fill]
    split
    · rw [fill_join f, List.append_assoc, rd_join]
    · rfl

theorem fill_fin {L : Int} {size least : Nat} : ∀ (f : Nat) (st : List (List Int × Int)) (data : List Int) (err : Int), Valid L st → (err ≠ 0 → st = []) → (fill L size least f st data err).1.2 ≠ 0 → (fill L size least f st data err).2 = []
  | 0, _, _, _, _, h, he => h he
  | f + 1, st, data, err, hv, h, he => by
    rw [fill] at he ⊢
    split at he
    · next hc =>
      rw [if_pos hc]
      exact fill_fin f _ _ _ (hv.rd _) (fun hn => rd_fin hv _ hn) he
    · next hc =>
      rw [if_neg hc]
      exact h he

theorem atLeast_join {L : Int} {size least : Nat} (st : List (List Int × Int)) : (atLeast L size least st).1.1 ++ joinD (atLeast L size least st).2 = joinD st := by
  unfold atLeast
  split
  · rfl
  · exact fill_join _ _ _ _

/-- where there are as many bytes, the buffer has just them -/
theorem atLeast_full {L : Int} {z : Nat} {st : List (List Int × Int)} (hv : Valid L st) (hz : z ≤ (joinD st).length) : (atLeast L z z st).1.1 = (joinD st).take z ∧ joinD (atLeast L z z st).2 = (joinD st).drop z := by
  have h1 := atLeast_join (L := L) (size := z) (least := z) st
  have h2 := atLeast_len L z z st
  have h3 := fill_ends (L := L) (Nat.le_refl z) (st.length + 1) st [] 0 hv.ends (fun _ => Nat.le_refl _)
  have h4 := fill_fin (L := L) (size := z) (least := z) (st.length + 1) st [] 0 hv (fun h => absurd rfl h)
  have hd : (atLeast L z z st).1.1 = (fill L z z (st.length + 1) st [] 0).1.1 := by unfold atLeast; rw [if_neg (by omega)]
  have hs : (atLeast L z z st).2 = (fill L z z (st.length + 1) st [] 0).2 := by unfold atLeast; rw [if_neg (by omega)]
  have hlen : (atLeast L z z st).1.1.length = z := by
    rcases h3 with h3 | h3
    · rw [hd] at h2 ⊢; omega
    · have h5 := h4 h3
      rw [← hs] at h5
      have h6 := congrArg List.length h1
      rw [h5, joinD_nil, List.append_nil] at h6
      omega
  rw [← h1]
  exact ⟨by rw [List.take_left' hlen], by rw [List.drop_left' hlen]⟩

theorem readFulls_join {L : Int} : ∀ {zs : List Int} {st : List (List Int × Int)}, Valid L st → (∀ z ∈ zs, 0 ≤ z) → zs.sum ≤ ((joinD st).length : Int) → joinD (readFulls L zs st) = (joinD st).take zs.sum.toNat
  | [], st, _, _, _ => by simp [readFulls, joinD]
  | z :: zs, st, hv, hp, hs => by
    have hz : 0 ≤ z := hp z (by simp)
    have hsum : 0 ≤ zs.sum := by
      clear hs
      have : ∀ l : List Int, (∀ z ∈ l, 0 ≤ z) → 0 ≤ l.sum := by
        intro l
        induction l with
        | nil => simp
        | cons a r ih => intro h; have := h a (by simp); have := ih fun z hz => h z (by simp [hz]); rw [List.sum_cons]; omega
      exact this zs fun z hz => hp z (by simp [hz])
    rw [List.sum_cons] at hs ⊢
    obtain ⟨h1, h2⟩ := atLeast_full (z := z.toNat) hv (by omega)
    have ih := readFulls_join (zs := zs) (atLeast_valid z.toNat z.toNat hv) (fun y hy => hp y (by simp [hy])) (by rw [h2, List.length_drop]; omega)
    rw [readFulls, joinD_cons, ih, h1, h2, show (z + zs.sum).toNat = z.toNat + zs.sum.toNat by omega, List.take_add]

end Go.Proofs.YteljcdlnfjeaaaaDoor
