/- Plain laws of writes to several sinks. -/
import Derived.Test.YtmoecjhlonokfaaDoorPlain
set_option linter.unusedVariables false
set_option linter.unusedSimpArgs false
namespace Go.Proofs.YtmoecjhlonokfaaDoor

/-- one write to several sinks (the room that each has, what each took): what is told, and the sinks behind it -/
def mwStep : List (Nat × List Int) → List Int → (Nat × Int) × List (Nat × List Int)
  | [], p => ((p.length, 0), [])
  | (left, data) :: r, p => if left < p.length then ((left, 3), (left - (p.take left).length, data ++ p.take left) :: r) else ((mwStep r p).1, (left - p.length, data ++ p) :: (mwStep r p).2)

/-- one write behind the other -/
def mwRuns : List (List Int) → List (Nat × List Int) → List (Nat × Int) × List (Nat × List Int)
  | [], s => ([], s)
  | p :: ps, s => ((mwStep s p).1 :: (mwRuns ps (mwStep s p).2).1, (mwRuns ps (mwStep s p).2).2)

theorem mwStep_length : ∀ (s : List (Nat × List Int)) (p : List Int), (mwStep s p).2.length = s.length
  | [], _ => rfl
  | (left, data) :: r, p => by
    unfold mwStep
    split
    · rfl
    · simp [mwStep_length r p]
theorem mwRuns_len1 : ∀ (ps : List (List Int)) (s : List (Nat × List Int)), (mwRuns ps s).1.length = ps.length
  | [], _ => rfl
  | p :: ps, s => by simp [mwRuns, mwRuns_len1 ps]
theorem mwRuns_len2 : ∀ (ps : List (List Int)) (s : List (Nat × List Int)), (mwRuns ps s).2.length = s.length
  | [], _ => rfl
  | p :: ps, s => by simp [mwRuns, mwRuns_len2 ps, mwStep_length]

/-- all sinks have room for n bytes -/
def MwRoom (n : Nat) (s : List (Nat × List Int)) : Prop := ∀ t ∈ s, n ≤ t.1

theorem mwStep_room : ∀ {s : List (Nat × List Int)} {p : List Int}, MwRoom p.length s → mwStep s p = ((p.length, 0), s.map fun t => (t.1 - p.length, t.2 ++ p))
  | [], _, _ => rfl
  | (left, data) :: r, p, h => by
    have h1 : p.length ≤ left := h (left, data) List.mem_cons_self
    unfold mwStep
    rw [if_neg (by omega), mwStep_room fun t ht => h t (List.mem_cons_of_mem _ ht)]
    rfl

theorem mwRuns_room : ∀ {ps : List (List Int)} {s : List (Nat × List Int)}, MwRoom ps.flatten.length s → (mwRuns ps s).1 = ps.map (fun p => (p.length, (0 : Int))) ∧ (mwRuns ps s).2.map (·.2) = s.map fun t => t.2 ++ ps.flatten
  | [], s, _ => by simp [mwRuns]
  | p :: ps, s, h => by
    rw [List.flatten_cons, List.length_append] at h
    have e := mwStep_room (s := s) (p := p) fun t ht => by have := h t ht; omega
    have ih := mwRuns_room (ps := ps) (s := s.map fun t => (t.1 - p.length, t.2 ++ p)) fun t ht => by
      obtain ⟨t', ht', rfl⟩ := List.mem_map.1 ht
      have := h t' ht'
      simp only
      omega
    rw [mwRuns, e]
    simp only
    rw [ih.1, ih.2]
    refine ⟨rfl, ?_⟩
    rw [List.map_map]
    apply List.map_congr_left
    intro t _
    simp [List.append_assoc]

/-- is there a sink with no room for n bytes -/
def full (n : Nat) (ls : List Nat) : Bool := ls.any fun l => l < n

/-- what each sink takes of one write -/
def takes (p : List Int) : List Nat → List (List Int)
  | [] => []
  | l :: r => p.take l :: (if l < p.length then r.map fun _ => [] else takes p r)

theorem mwStep_takes : ∀ (ls : List Nat) (p : List Int), (mwStep (ls.map fun l => (l, [])) p).2.map (·.2) = takes p ls ∧ (mwStep (ls.map fun l => (l, [])) p).1.2 = if full p.length ls then 3 else 0
  | [], _ => ⟨rfl, rfl⟩
  | l :: r, p => by
    obtain ⟨i1, i2⟩ := mwStep_takes r p
    rw [List.map_cons]
    unfold mwStep takes full
    rw [List.any_cons]
    by_cases h : l < p.length
    · rw [if_pos h, if_pos h]
      simp [h]
    · rw [if_neg h, if_neg h]
      unfold full at i2
      simp only [List.map_cons, i1, i2, List.nil_append, h, decide_false, Bool.false_or]
      rw [List.take_of_length_le (by omega)]
      exact ⟨rfl, by first | rfl | trivial⟩

end Go.Proofs.YtmoecjhlonokfaaDoor
