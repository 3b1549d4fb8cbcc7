/- The plain mathematics of sources: lists of steps (bytes, error), what one read of them gives, and what reading at least some bytes gives. No program is named here. -/
set_option linter.unusedVariables false
set_option linter.unusedSimpArgs false
namespace Go.Proofs.YteljcdlnfjeaaaaDoor

/-- the code of the error that toError makes of a number -/
def norm (n : Int) : Int := if n = 0 then 0 else if n = 1 then 1 else 2

/-- one read with a buffer of n bytes, as the reader does it: its steps left and its last error -/
def rdI : List (List Int × Int) → Int → Nat → (List Int × Int) × List (List Int × Int) × Int
  | [], last, _ => (([], norm last), [], last)
  | (d, e) :: r, last, n => if n < d.length then ((d.take n, 0), (d.drop n, e) :: r, last) else ((d, norm e), r, if e = 0 then last else e)

/-- one read with a buffer of n bytes of a source that ends with L -/
def rd (L : Int) : List (List Int × Int) → Nat → (List Int × Int) × List (List Int × Int)
  | [], _ => (([], L), [])
  | (d, e) :: r, n => if n < d.length then ((d.take n, 0), (d.drop n, e) :: r) else ((d, e), r)

theorem rd_nil (L : Int) (n : Nat) : rd L [] n = (([], L), []) := rfl
theorem rd_cons (L : Int) (d : List Int) (e : Int) (r : List (List Int × Int)) (n : Nat) : rd L ((d, e) :: r) n = if n < d.length then ((d.take n, 0), (d.drop n, e) :: r) else ((d, e), r) := rfl

/-- a valid source (what is left of one), that ends with L -/
def Valid (L : Int) : List (List Int × Int) → Prop
  | [] => L = 1 ∨ L = 2
  | (_, e) :: r => match r with
    | [] => (e = 0 ∧ L = 1) ∨ (e = L ∧ (L = 1 ∨ L = 2))
    | _ :: _ => e = 0 ∧ Valid L r

theorem Valid.ends {L : Int} : ∀ {st : List (List Int × Int)}, Valid L st → L = 1 ∨ L = 2
  | [], h => h
  | [_], h => by
    simp only [Valid] at h
    omega
  | _ :: y :: r, h => Valid.ends (st := y :: r) h.2

theorem Valid.head {L : Int} {d : List Int} {e : Int} {r : List (List Int × Int)} (h : Valid L ((d, e) :: r)) : (e = 0 ∨ e = 1 ∨ e = 2) ∧ (r ≠ [] → e = 0) ∧ (r = [] → (e = 0 ∧ L = 1) ∨ e = L) := by
  match r, h with
  | [], h =>
    simp only [Valid] at h
    refine ⟨by omega, fun h' => absurd rfl h', fun _ => ?_⟩
    omega
  | _ :: _, h => exact ⟨.inl h.1, fun _ => h.1, fun h' => by cases h'⟩

theorem Valid.tail {L : Int} {x : List Int × Int} {r : List (List Int × Int)} (h : Valid L (x :: r)) : Valid L r := by
  obtain ⟨d, e⟩ := x
  match r, h with
  | [], h => exact h.ends
  | _ :: _, h => exact h.2

theorem Valid.cut {L : Int} {d d' : List Int} {e : Int} {r : List (List Int × Int)} (h : Valid L ((d, e) :: r)) : Valid L ((d', e) :: r) := by
  match r, h with
  | [], h => exact h
  | _ :: _, h => exact h

theorem Valid.rd {L : Int} {st : List (List Int × Int)} (h : Valid L st) (n : Nat) : Valid L (rd L st n).2 := by
  match st, h with
  | [], h => exact h
  | (d, e) :: r, h =>
    rw [rd_cons]
    split
    · exact h.cut
    · exact h.tail

theorem Valid.err {L : Int} {st : List (List Int × Int)} (h : Valid L st) (n : Nat) : (Proofs.YteljcdlnfjeaaaaDoor.rd L st n).1.2 = 0 ∨ (Proofs.YteljcdlnfjeaaaaDoor.rd L st n).1.2 = 1 ∨ (Proofs.YteljcdlnfjeaaaaDoor.rd L st n).1.2 = 2 := by
  match st, h with
  | [], h => exact .inr h
  | (d, e) :: r, h =>
    rw [rd_cons]
    split
    · exact .inl rfl
    · exact h.head.1

/-- the reader's last error, at a valid source -/
def lastOf (L : Int) (st : List (List Int × Int)) : Int := if st = [] then L else 1

theorem norm_of {e : Int} (h : e = 0 ∨ e = 1 ∨ e = 2) : norm e = e := by
  rcases h with rfl | rfl | rfl <;> rfl

theorem rdI_valid {L : Int} {st : List (List Int × Int)} (h : Valid L st) (n : Nat) : rdI st (lastOf L st) n = ((rd L st n).1, (rd L st n).2, lastOf L (rd L st n).2) := by
  match st, h with
  | [], h =>
    have := norm_of (e := L) (.inr h)
    simp [rdI, rd, lastOf, this]
  | (d, e) :: r, h =>
    have hn := norm_of h.head.1
    simp only [rdI, rd]
    split
    · simp [lastOf]
    · simp only [hn, lastOf, reduceCtorEq, if_false]
      by_cases hr : r = []
      · have h2 := h.head.2.2 hr
        rw [if_pos hr]
        by_cases he : e = 0
        · rw [if_pos he]
          have := h.ends
          have : L = 1 := by omega
          rw [this]
        · rw [if_neg he]
          have : e = L := by omega
          rw [this]
      · rw [if_neg hr, if_pos (h.head.2.1 hr)]

theorem rd_len (L : Int) (st : List (List Int × Int)) (n : Nat) : (rd L st n).1.1.length ≤ n := by
  match st with
  | [] => simp [rd]
  | (d, e) :: r =>
    rw [rd_cons]
    split
    · simp; omega
    · simp; omega

/-- reading on until there are some bytes; 'f' rounds at most -/
def fill (L : Int) (size least : Nat) : Nat → List (List Int × Int) → List Int → Int → (List Int × Int) × List (List Int × Int)
  | 0, st, data, err => ((data, err), st)
  | f + 1, st, data, err => if data.length < least ∧ err = 0 then fill L size least f (rd L st (size - data.length)).2 (data ++ (rd L st (size - data.length)).1.1) (rd L st (size - data.length)).1.2 else ((data, err), st)

/-- at least some bytes, with a buffer of a size -/
def atLeast (L : Int) (size least : Nat) (st : List (List Int × Int)) : (List Int × Int) × List (List Int × Int) :=
  if size < least then (([], 5), st) else
  (((fill L size least (st.length + 1) st [] 0).1.1,
    if least ≤ (fill L size least (st.length + 1) st [] 0).1.1.length then 0 else if 0 < (fill L size least (st.length + 1) st [] 0).1.1.length ∧ (fill L size least (st.length + 1) st [] 0).1.2 = 1 then 4 else (fill L size least (st.length + 1) st [] 0).1.2),
   (fill L size least (st.length + 1) st [] 0).2)

theorem fill_stop {L : Int} {size least f : Nat} {st : List (List Int × Int)} {data : List Int} {err : Int} (h : ¬ (data.length < least ∧ err = 0)) : fill L size least f st data err = ((data, err), st) := by
  cases f with
  | zero => rfl
  | succ f => rw [fill, if_neg h]

/-- enough rounds are left -/
def Room (size least f : Nat) (st : List (List Int × Int)) (data : List Int) (err : Int) : Prop := data.length < least ∧ err = 0 → st.length + 1 ≤ f

theorem fill_go {L : Int} {size least f : Nat} {st : List (List Int × Int)} {data : List Int} {err : Int} (hL : L = 1 ∨ L = 2) (hs : least ≤ size) (hd : data.length < least) (he : err = 0) (hr : Room size least f st data err) :
    ∃ f', f = f' + 1 ∧ fill L size least f st data err = fill L size least f' (rd L st (size - data.length)).2 (data ++ (rd L st (size - data.length)).1.1) (rd L st (size - data.length)).1.2 ∧
      Room size least f' (rd L st (size - data.length)).2 (data ++ (rd L st (size - data.length)).1.1) (rd L st (size - data.length)).1.2 := by
  have h1 := hr ⟨hd, he⟩
  obtain ⟨f', rfl⟩ : ∃ f', f = f' + 1 := ⟨f - 1, by omega⟩
  refine ⟨f', rfl, by rw [fill, if_pos ⟨hd, he⟩], ?_⟩
  intro ⟨hd', he'⟩
  match st with
  | [] =>
    simp only [rd] at he'
    omega
  | (d, e) :: r =>
    rw [rd_cons] at hd' he' ⊢
    by_cases hlt : size - data.length < d.length
    · rw [if_pos hlt] at hd'
      simp only [List.length_append, List.length_take] at hd'
      omega
    · rw [if_neg hlt]
      simp only [List.length_cons] at h1
      show r.length + 1 ≤ f'
      omega

theorem atLeast_of {L : Int} {size least : Nat} {st st' : List (List Int × Int)} {data : List Int} {err : Int} (h : least ≤ size) (hf : fill L size least (st.length + 1) st [] 0 = ((data, err), st')) :
    atLeast L size least st = ((data, if least ≤ data.length then 0 else if 0 < data.length ∧ err = 1 then 4 else err), st') := by
  unfold atLeast
  rw [if_neg (by omega), hf]

theorem atLeast_short {L : Int} {size least : Nat} {st : List (List Int × Int)} (h : size < least) : atLeast L size least st = (([], 5), st) := by
  unfold atLeast
  rw [if_pos h]

theorem fill_len {L : Int} {size least : Nat} : ∀ (f : Nat) (st : List (List Int × Int)) (data : List Int) (err : Int), data.length ≤ size → (fill L size least f st data err).1.1.length ≤ size
  | 0, _, _, _, h => h
  | f + 1, st, data, err, h => by
    rw [fill]
    split
    · have := rd_len L st (size - data.length)
      exact fill_len f _ _ _ (by rw [List.length_append]; omega)
    · exact h

theorem fill_err {L : Int} {size least : Nat} : ∀ (f : Nat) (st : List (List Int × Int)) (data : List Int) (err : Int), Valid L st → (err = 0 ∨ err = 1 ∨ err = 2) →
    ((fill L size least f st data err).1.2 = 0 ∨ (fill L size least f st data err).1.2 = 1 ∨ (fill L size least f st data err).1.2 = 2)
  | 0, _, _, _, _, h => h
  | f + 1, st, data, err, hv, h => by
    rw [fill]
    split
    · exact fill_err f _ _ _ (hv.rd _) (hv.err _)
    · exact h

theorem fill_valid {L : Int} {size least : Nat} : ∀ (f : Nat) (st : List (List Int × Int)) (data : List Int) (err : Int), Valid L st → Valid L (fill L size least f st data err).2
  | 0, _, _, _, hv => hv
  | f + 1, st, data, err, hv => by
    rw [fill]
    split
    · exact fill_valid f _ _ _ (hv.rd _)
    · exact hv

theorem atLeast_len (L : Int) (size least : Nat) (st : List (List Int × Int)) : (atLeast L size least st).1.1.length ≤ size := by
  unfold atLeast
  split
  · simp
  · exact fill_len _ _ _ _ (by simp)

theorem atLeast_err {L : Int} (size least : Nat) {st : List (List Int × Int)} (hv : Valid L st) :
    (atLeast L size least st).1.2 = 0 ∨ (atLeast L size least st).1.2 = 1 ∨ (atLeast L size least st).1.2 = 2 ∨ (atLeast L size least st).1.2 = 4 ∨ (atLeast L size least st).1.2 = 5 := by
  unfold atLeast
  split
  · simp
  · have := fill_err (L := L) (size := size) (least := least) (st.length + 1) st [] 0 hv (.inl rfl)
    simp only
    split
    · exact .inl rfl
    · split
      · exact .inr (.inr (.inr (.inl rfl)))
      · omega

theorem atLeast_valid {L : Int} (size least : Nat) {st : List (List Int × Int)} (hv : Valid L st) : Valid L (atLeast L size least st).2 := by
  unfold atLeast
  split
  · exact hv
  · exact fill_valid _ _ _ _ hv

/-- buffers filled one after the other -/
def readFulls (L : Int) : List Int → List (List Int × Int) → List (List Int × Int)
  | [], _ => []
  | z :: zs, st => (atLeast L z.toNat z.toNat st).1 :: readFulls L zs (atLeast L z.toNat z.toNat st).2
theorem readFulls_length (L : Int) : ∀ (zs : List Int) (st : List (List Int × Int)), (readFulls L zs st).length = zs.length
  | [], _ => rfl
  | _ :: zs, _ => by simp [readFulls, readFulls_length L zs]

/-- the number of a step, by its place -/
def errAt (l : List (List Int × Int)) (i : Nat) : Int := (l.getD i ([], 0)).2

/-- the error with which a source ends -/
def lastErr (st : List (List Int × Int)) : Int := if st.length = 0 then 1 else if errAt st (st.length - 1) = 0 then 1 else errAt st (st.length - 1)

/-- what ValidSource asks of a step -/
def okStep (st : List (List Int × Int)) (i : Nat) : Prop := errAt st i = 0 ∨ (i + 1 = st.length ∧ (errAt st i = 1 ∨ errAt st i = 2))

theorem valid_of {st : List (List Int × Int)} (h : ∀ i, i < st.length → okStep st i) : Valid (lastErr st) st := by
  induction st with
  | nil => exact .inl rfl
  | cons x r ih =>
    obtain ⟨d, e⟩ := x
    match r, ih, h with
    | [], _, h =>
      have h0 := h 0 (by simp)
      simp only [okStep, errAt, List.getD_cons_zero] at h0
      simp only [Valid, lastErr, errAt, List.length_cons, List.length_nil]
      simp only [Nat.zero_add, Nat.one_ne_zero, if_false, Nat.sub_self, List.getD_cons_zero]
      by_cases he : e = 0
      · rw [if_pos he]; exact .inl ⟨he, rfl⟩
      · rw [if_neg he]; exact .inr ⟨rfl, by omega⟩
    | y :: r, ih, h =>
      have h0 := h 0 (by simp)
      simp only [okStep, errAt, List.getD_cons_zero, List.length_cons] at h0
      have hl : lastErr ((d, e) :: y :: r) = lastErr (y :: r) := by
        simp [lastErr, errAt]
      rw [hl]
      refine ⟨by omega, ih fun i hi => ?_⟩
      have := h (i + 1) (by simpa using hi)
      simp only [okStep, errAt, List.getD_cons_succ, List.length_cons] at this ⊢
      omega

/-- all bytes of a list of pairs, one behind the other -/
def joinD (l : List (List Int × Int)) : List Int := (l.map (·.1)).flatten
theorem joinD_nil : joinD [] = [] := rfl
theorem joinD_cons (x : List Int × Int) (l : List (List Int × Int)) : joinD (x :: l) = x.1 ++ joinD l := by simp [joinD]
theorem joinD_append (l r : List (List Int × Int)) : joinD (l ++ r) = joinD l ++ joinD r := by simp [joinD]
theorem joinD_take {l : List (List Int × Int)} {k : Nat} (h : k < l.length) : joinD (l.take (k + 1)) = joinD (l.take k) ++ (l.getD k ([], 0)).1 := by
  rw [List.take_succ_eq_append_getElem h, joinD_append]
  simp [joinD, h]
theorem joinD_take_le (l : List (List Int × Int)) (k : Nat) : (joinD (l.take k)).length ≤ (joinD l).length := by
  have : joinD l = joinD (l.take k) ++ joinD (l.drop k) := by rw [← joinD_append, List.take_append_drop]
  rw [this, List.length_append]; omega

/-- what ValidSizes asks of sizes -/
def SizesOK (zs : List Int) : Prop := (∀ i, i < zs.length → 0 ≤ zs.getD i 0 ∧ zs.getD i 0 ≤ 1048576) ∧ zs.sum ≤ 1048576

end Go.Proofs.YteljcdlnfjeaaaaDoor
