/- Plain laws of reading at least some bytes: when there is no error, and which error there is. No program is named here. -/
import Derived.Test.YteljcdlnfjeaaaaDoorPlain
import Derived.Test.YteljcdlnfjeaaaaDoorWords
set_option linter.unusedVariables false
set_option linter.unusedSimpArgs false
namespace Go.Proofs.YteljcdlnfjeaaaaDoor

theorem fill_ends {L : Int} {size least : Nat} (hs : least ≤ size) : ∀ (f : Nat) (st : List (List Int × Int)) (data : List Int) (err : Int), (L = 1 ∨ L = 2) → Room size least f st data err →
    least ≤ (fill L size least f st data err).1.1.length ∨ (fill L size least f st data err).1.2 ≠ 0
  | 0, st, data, err, _, hr => by
    rw [fill]
    by_cases h : data.length < least ∧ err = 0
    · exact absurd (hr h) (by omega)
    · simp only
      by_cases h1 : data.length < least
      · exact .inr fun h2 => h ⟨h1, h2⟩
      · exact .inl (by omega)
  | f + 1, st, data, err, hL, hr => by
    by_cases h : data.length < least ∧ err = 0
    · obtain ⟨f', e, h1, h2⟩ := fill_go (L := L) hL hs h.1 h.2 hr
      obtain rfl : f = f' := by omega
      rw [h1]
      exact fill_ends hs f _ _ _ hL h2
    · rw [fill_stop h]
      simp only
      by_cases h1 : data.length < least
      · exact .inr fun h2 => h ⟨h1, h2⟩
      · exact .inl (by omega)

theorem atLeast_iff {L : Int} {size least : Nat} {st : List (List Int × Int)} (hv : Valid L st) (hs : least ≤ size) :
    (least ≤ (atLeast L size least st).1.1.length ↔ (atLeast L size least st).1.2 = 0) ∧ ((atLeast L size least st).1.2 = 1 → (atLeast L size least st).1.1.length = 0) ∧ ((atLeast L size least st).1.2 = 4 → (atLeast L size least st).1.1.length ≠ 0) ∧
      ((atLeast L size least st).1.2 = 0 ∨ (atLeast L size least st).1.2 = 1 ∨ (atLeast L size least st).1.2 = 2 ∨ (atLeast L size least st).1.2 = 4) := by
  have h1 := fill_ends (L := L) hs (st.length + 1) st [] 0 hv.ends (fun _ => Nat.le_refl _)
  have h2 := fill_err (L := L) (size := size) (least := least) (st.length + 1) st [] 0 hv (.inl rfl)
  unfold atLeast
  rw [if_neg (by omega)]
  generalize fill L size least (st.length + 1) st [] 0 = r at *
  obtain ⟨⟨d, e⟩, s⟩ := r
  simp only at h1 h2 ⊢
  split
  · next h => exact ⟨⟨fun _ => rfl, fun _ => h⟩, fun h => by omega, fun h => by omega, .inl rfl⟩
  · next h =>
    split
    · next h' => exact ⟨⟨fun h => by omega, fun h => by omega⟩, fun h => by omega, fun _ => by omega, .inr (.inr (.inr rfl))⟩
    · next h' => exact ⟨⟨fun h => by omega, fun h => by omega⟩, fun h => by omega, fun h => by omega, by omega⟩

/-- each answer of readFulls is one of atLeast -/
theorem readFulls_at {L : Int} : ∀ {zs : List Int} {st : List (List Int × Int)} {i : Nat}, Valid L st → i < zs.length → ∃ sti, Valid L sti ∧ dat (readFulls L zs st) i = (atLeast L (nth zs i).toNat (nth zs i).toNat sti).1.1 ∧ err (readFulls L zs st) i = (atLeast L (nth zs i).toNat (nth zs i).toNat sti).1.2
  | [], _, _, _, h => by simp at h
  | z :: zs, st, 0, hv, _ => ⟨st, hv, rfl, rfl⟩
  | z :: zs, st, i + 1, hv, h => readFulls_at (zs := zs) (st := (atLeast L z.toNat z.toNat st).2) (i := i) (atLeast_valid _ _ hv) (by simpa using h)

/-- what FnReadFullIff asks of an answer -/
def IffOK (k : Nat) (z x : Int) : Prop := (x = 0 ∧ (k : Int) = z) ∨ (x = 1 ∧ k = 0 ∧ (k : Int) ≠ z) ∨ (x = 4 ∧ k ≠ 0 ∧ (k : Int) ≠ z) ∨ (x = 2 ∧ (k : Int) ≠ z)

theorem readFulls_iff {L : Int} {zs : List Int} {st : List (List Int × Int)} {i : Nat} (hv : Valid L st) (hi : i < zs.length) (hz : 0 ≤ nth zs i) : IffOK (dat (readFulls L zs st) i).length (nth zs i) (err (readFulls L zs st) i) := by
  obtain ⟨sti, h1, h2, h3⟩ := readFulls_at hv hi
  rw [h2, h3]
  obtain ⟨zn, hzn⟩ : ∃ zn : Nat, nth zs i = (zn : Int) := ⟨(nth zs i).toNat, by omega⟩
  rw [hzn, Int.toNat_natCast]
  obtain ⟨a, b, c, d⟩ := atLeast_iff h1 (Nat.le_refl zn)
  have e := atLeast_len L zn zn sti
  unfold IffOK
  omega

end Go.Proofs.YteljcdlnfjeaaaaDoor
