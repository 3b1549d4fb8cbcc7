/- Plain laws of operations on a section of bytes. No program is named here. -/
import Derived.Test.YtdlgknaipljhhaaDoorPlain
set_option linter.unusedVariables false
set_option linter.unusedSimpArgs false
namespace Go.Proofs.YtdlgknaipljhhaaDoor

/-- where a seek goes -/
def seekTo (all : List Int) (pos : Nat) (op : Int × Int × Int) : Int := op.2.1 + (if op.2.2 = 1 then (pos : Int) else if op.2.2 = 2 then (all.length : Int) else 0)

/-- some bytes at an offset, as many as there are, up to a size -/
def partOf (all : List Int) (off n : Nat) : List Int := (all.drop off).take n

/-- what one operation on a section gives, and where the section stands behind it -/
def opStep (all : List Int) (pos : Nat) (op : Int × Int × Int) : (List Int × Int × Int) × Nat :=
  if op.1 = 0 then ((partOf all pos op.2.1.toNat, ((partOf all pos op.2.1.toNat).length : Int), if all.length ≤ pos then 1 else 0), pos + (partOf all pos op.2.1.toNat).length)
  else if op.1 = 1 then ((partOf all op.2.2.toNat op.2.1.toNat, ((partOf all op.2.2.toNat op.2.1.toNat).length : Int), if ((partOf all op.2.2.toNat op.2.1.toNat).length : Int) < op.2.1 ∨ (all.length : Int) ≤ op.2.2 then 1 else 0), pos)
  else if op.1 = 2 then (if op.2.2 < 0 ∨ 2 < op.2.2 ∨ seekTo all pos op < 0 then (([], 0, 7), pos) else (([], seekTo all pos op, 0), (seekTo all pos op).toNat))
  else (([], (all.length : Int), 0), pos)

/-- one operation behind the other -/
def opRuns (all : List Int) : List (Int × Int × Int) → Nat → List (List Int × Int × Int)
  | [], _ => []
  | op :: r, pos => (opStep all pos op).1 :: opRuns all r (opStep all pos op).2

theorem opRuns_length (all : List Int) : ∀ (ops : List (Int × Int × Int)) (pos : Nat), (opRuns all ops pos).length = ops.length
  | [], _ => rfl
  | _ :: r, _ => by simp [opRuns, opRuns_length all r]

/-- what ValidOps asks of an operation -/
def OpOK (op : Int × Int × Int) : Prop :=
  (op.1 = 0 ∧ 0 ≤ op.2.1 ∧ op.2.1 ≤ 1048576) ∨ (op.1 = 1 ∧ 0 ≤ op.2.1 ∧ op.2.1 ≤ 1048576 ∧ 0 ≤ op.2.2 ∧ op.2.2 ≤ 1048576) ∨ (op.1 = 2 ∧ -1048576 ≤ op.2.1 ∧ op.2.1 ≤ 1048576) ∨ op.1 = 3

theorem partOf_len (all : List Int) (off n : Nat) : (partOf all off n).length = min n (all.length - off) := by simp [partOf]
theorem partOf_le (all : List Int) (off n : Nat) : (partOf all off n).length ≤ n := by rw [partOf_len]; omega
theorem partOf_end {all : List Int} {off : Nat} (n : Nat) (h : all.length ≤ off) : partOf all off n = [] := by simp [partOf, List.drop_of_length_le h]

theorem opStep_small {all : List Int} {pos : Nat} {op : Int × Int × Int} (h : OpOK op) : (opStep all pos op).1.1.length ≤ 1048576 := by
  unfold opStep
  rcases h with ⟨h, h1, h2⟩ | ⟨h, h1, h2, _⟩ | ⟨h, _⟩ | h
  · rw [if_pos h]
    have := partOf_le all pos op.2.1.toNat
    simp only
    omega
  · rw [if_neg (by omega), if_pos h]
    have := partOf_le all op.2.2.toNat op.2.1.toNat
    simp only
    omega
  · rw [if_neg (by omega), if_neg (by omega), if_pos h]
    split <;> simp
  · rw [if_neg (by omega), if_neg (by omega), if_neg (by omega)]
    simp

theorem opStep_pos {all : List Int} {pos : Nat} {op : Int × Int × Int} (h : OpOK op) : (opStep all pos op).2 ≤ max pos all.length + 1048576 := by
  unfold opStep
  rcases h with ⟨h, h1, h2⟩ | ⟨h, h1, h2, _⟩ | ⟨h, h1, h2⟩ | h
  · rw [if_pos h]
    have := partOf_le all pos op.2.1.toNat
    simp only
    omega
  · rw [if_neg (by omega), if_pos h]
    simp only
    omega
  · rw [if_neg (by omega), if_neg (by omega), if_pos h]
    split
    · simp only; omega
    · simp only
      unfold seekTo
      split
      · omega
      · split <;> omega
  · rw [if_neg (by omega), if_neg (by omega), if_neg (by omega)]
    simp only
    omega

theorem opRuns_small {all : List Int} : ∀ {ops : List (Int × Int × Int)} {pos : Nat}, (∀ op ∈ ops, OpOK op) → ∀ x ∈ opRuns all ops pos, x.1.length ≤ 1048576
  | [], _, _, x, hx => by cases hx
  | op :: r, pos, h, x, hx => by
    rw [opRuns] at hx
    rcases List.mem_cons.1 hx with rfl | hx
    · exact opStep_small (h op List.mem_cons_self)
    · exact opRuns_small (fun o ho => h o (List.mem_cons_of_mem _ ho)) x hx

/-- all bytes of answers, one behind the other -/
def joinO (l : List (List Int × Int × Int)) : List Int := (l.map (·.1)).flatten
theorem joinO_cons (x : List Int × Int × Int) (l : List (List Int × Int × Int)) : joinO (x :: l) = x.1 ++ joinO l := by simp [joinO]
theorem joinO_append (l r : List (List Int × Int × Int)) : joinO (l ++ r) = joinO l ++ joinO r := by simp [joinO]
theorem joinO_take {l : List (List Int × Int × Int)} {k : Nat} (h : k < l.length) : joinO (l.take (k + 1)) = joinO (l.take k) ++ (l.getD k ([], 0, 0)).1 := by
  rw [List.take_succ_eq_append_getElem h, joinO_append]
  simp [joinO, h]
theorem joinO_take_le (l : List (List Int × Int × Int)) (k : Nat) : (joinO (l.take k)).length ≤ (joinO l).length := by
  have : joinO l = joinO (l.take k) ++ joinO (l.drop k) := by rw [← joinO_append, List.take_append_drop]
  rw [this, List.length_append]; omega

/-- reads alone: the bytes from where the section stands on -/
theorem reads_join (all : List Int) : ∀ (ops : List (Int × Int × Int)) (pos : Nat), (∀ op ∈ ops, op.1 = 0) → ∃ pos', joinO (opRuns all ops pos) ++ all.drop pos' = all.drop pos
  | [], pos, _ => ⟨pos, by simp [opRuns, joinO]⟩
  | op :: r, pos, h => by
    have h0 := h op List.mem_cons_self
    obtain ⟨p', hp⟩ := reads_join all r (opStep all pos op).2 fun o ho => h o (List.mem_cons_of_mem _ ho)
    refine ⟨p', ?_⟩
    rw [opRuns, joinO_cons, List.append_assoc, hp]
    unfold opStep
    rw [if_pos h0]
    simp only
    have e : all.drop (pos + (partOf all pos op.2.1.toNat).length) = (all.drop pos).drop op.2.1.toNat := by
      rw [partOf_len, List.drop_drop]
      by_cases hle : op.2.1.toNat ≤ all.length - pos
      · rw [Nat.min_eq_left hle]
      · rw [Nat.min_eq_right (by omega), List.drop_of_length_le (by omega), List.drop_of_length_le (by omega)]
    rw [e]
    exact List.take_append_drop _ _

theorem reads_prefix {all : List Int} {ops : List (Int × Int × Int)} (h : ∀ op ∈ ops, op.1 = 0) : joinO (opRuns all ops 0) = all.take (joinO (opRuns all ops 0)).length ∧ (joinO (opRuns all ops 0)).length ≤ all.length := by
  obtain ⟨p, hp⟩ := reads_join all ops 0 h
  rw [List.drop_zero] at hp
  constructor
  · generalize joinO (opRuns all ops 0) = j at *
    rw [← hp, List.take_append_of_le_length (Nat.le_refl _), List.take_length]
  · have := congrArg List.length hp
    rw [List.length_append] at this
    omega

/-- is it a read or a seek -/
def moves (op : Int × Int × Int) : Bool := op.1 == 0 || op.1 == 2

/-- reading at an offset, and asking for the size, move nothing -/
theorem stays (all : List Int) : ∀ (ops : List (Int × Int × Int)) (pos : Nat), opRuns all (((ops.zip (opRuns all ops pos)).filter fun x => moves x.1).map (·.1)) pos = ((ops.zip (opRuns all ops pos)).filter fun x => moves x.1).map (·.2)
  | [], _ => rfl
  | op :: r, pos => by
    rw [opRuns, List.zip_cons_cons]
    by_cases hm : moves op = true
    · rw [List.filter_cons_of_pos (by simpa using hm), List.map_cons, List.map_cons, opRuns, stays all r]
    · have hp : (opStep all pos op).2 = pos := by
        simp [moves] at hm
        unfold opStep
        rw [if_neg hm.1]
        split
        · rfl
        · rw [if_neg hm.2]
      rw [List.filter_cons_of_neg (by simpa using hm), hp, stays all r]

end Go.Proofs.YtdlgknaipljhhaaDoor
