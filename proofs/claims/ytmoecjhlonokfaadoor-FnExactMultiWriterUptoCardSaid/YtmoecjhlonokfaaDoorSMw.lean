/- spec.MultiWriter, its plain part: the rows of bytes that are taken. -/
import Derived.Test.YtmoecjhlonokfaaDoorMwI
import Derived.Test.YtmoecjhlonokfaaDoorLate
set_option linter.unusedVariables false
set_option linter.unusedSimpArgs false
namespace Go.Proofs.YtmoecjhlonokfaaDoor
open Go.RowKit

theorem own_type {w : World} {base : Nat} {e : TypeId} {size : Nat} {v : Value} {n : Nat} {xs : List Value} (h : w.ownsRow base e size v n xs) {g : Nat} (hg : v.ownBlock = some g) : ∃ cs, Blk w g e cs := by
  rcases h.2 with ⟨hv, _⟩ | ⟨g', cap, cur, hv, _, hh, _⟩
  · rw [hv] at hg; cases hg
  · rw [hv] at hg
    have e1 : g' = g := by injection hg
    subst e1
    exact ⟨cur, hh⟩

/-- the rows of bytes, and the row of them in block tb -/
structure Tk (base tb : Nat) (TA : Nat → Option Addr) (TC : Nat → Nat) (ds : List (List Int)) (w : World) : Prop where
  blk : 0 < ds.length → ∃ cur : List Value, Blk w tb 31 cur.toArray ∧ ∀ i, i < ds.length → cur[i]? = some (.slice (TA i) (ds.getD i []).length (TC i))
  own : ∀ i, i < ds.length → w.ownsRow base 5 1 (.slice (TA i) (ds.getD i []).length (TC i)) (ds.getD i []).length (bytesV (ds.getD i []))
  dis : ∀ i j, i < ds.length → j < ds.length → i ≠ j → ∀ b, (Value.slice (TA i) (ds.getD i []).length (TC i)).ownBlock = some b → (Value.slice (TA j) (ds.getD j []).length (TC j)).ownBlock ≠ some b

/-- the blocks of the rows of bytes -/
def TkB (TA : Nat → Option Addr) (TC : Nat → Nat) (ds : List (List Int)) (b : Nat) : Prop := ∃ i, i < ds.length ∧ (Value.slice (TA i) (ds.getD i []).length (TC i)).ownBlock = some b

theorem Tk.kept {base tb : Nat} {TA : Nat → Option Addr} {TC : Nat → Nat} {ds : List (List Int)} {D : Nat → Prop} {w w' : World} (h : Tk base tb TA TC ds w) (hk : Kept D w w') (h1 : 0 < ds.length → ¬ D tb) (h2 : ∀ b, TkB TA TC ds b → ¬ D b) : Tk base tb TA TC ds w' := by
  refine ⟨fun hp => ?_, fun i hi => own_keptP (h.own i hi) hk fun g hg => h2 g ⟨i, hi, hg⟩, h.dis⟩
  obtain ⟨cur, hb, hc⟩ := h.blk hp
  exact ⟨cur, hb.kept hk (h1 hp), hc⟩
theorem Tk.lt {base tb : Nat} {TA : Nat → Option Addr} {TC : Nat → Nat} {ds : List (List Int)} {w : World} (h : Tk base tb TA TC ds w) {b : Nat} (hb : TkB TA TC ds b) : base ≤ b ∧ b < w.heap.size := by
  obtain ⟨i, hi, he⟩ := hb
  exact own_block_lt (h.own i hi) he
theorem Tk.ne {base tb : Nat} {TA : Nat → Option Addr} {TC : Nat → Nat} {ds : List (List Int)} {w : World} (h : Tk base tb TA TC ds w) {b : Nat} (hb : TkB TA TC ds b) {g : Nat} {t : TypeId} {cs : Array Value} (hg : Blk w g t cs) (ht : t ≠ 5) : b ≠ g := by
  obtain ⟨i, hi, he⟩ := hb
  obtain ⟨cs', hb'⟩ := own_type (h.own i hi) he
  exact hb'.ne_of hg (fun e => ht e.symm)

/-- one more of the bytes are taken by one of them -/
theorem Tk.put {base tb : Nat} {TA : Nat → Option Addr} {TC : Nat → Nat} {ds : List (List Int)} {w w0 w2 : World} {k : Nat} {A2 : Option Addr} {c2 m : Nat} {d t : List Int} (h : Tk base tb TA TC ds w) (hk : k < ds.length) (hd : ds.getD k [] = d) (hw0 : Kept (fun _ => False) w w0) (hm : m = d.length + t.length)
    (hap : Appended base 5 1 A2 m c2 (bytesV d ++ bytesV t) (Value.slice (TA k) d.length (TC k)).ownBlock w0 w2) :
    Tk base tb (fun i => if i = k then A2 else TA i) (fun i => if i = k then c2 else TC i) (ds.set k (d ++ t)) (w2.setCell ⟨tb, k, none⟩ (.slice A2 m c2)) ∧ Kept (fun j => j = tb ∨ TkB TA TC ds j) w (w2.setCell ⟨tb, k, none⟩ (.slice A2 m c2)) ∧
      ∀ b, TkB (fun i => if i = k then A2 else TA i) (fun i => if i = k then c2 else TC i) (ds.set k (d ++ t)) b → TkB TA TC ds b ∨ w.heap.size ≤ b := by
  obtain ⟨cur, hbk, hcur⟩ := h.blk (by omega)
  have hsz := hw0.size
  have hs2 := hap.sizeLe
  have hml : (d ++ t).length = m := by rw [List.length_append]; omega
  have hkB : ∀ b, (Value.slice (TA k) d.length (TC k)).ownBlock = some b → TkB TA TC ds b := fun b e => ⟨k, hk, by rw [hd]; exact e⟩
  have hA2 : ∀ b, (Value.slice A2 m c2).ownBlock = some b → (Value.slice (TA k) d.length (TC k)).ownBlock = some b ∨ w0.heap.size ≤ b := fun b e => by
    rcases hap.2.2 with h' | h'
    · exact .inl (by rw [← h', e])
    · rw [e] at h'; injection h' with h'; exact .inr (by omega)
  have K2 : Kept (fun j => some j = (Value.slice (TA k) d.length (TC k)).ownBlock) w w2 := (hw0.mono fun _ _ hf => hf.elim).trans hap.kept fun _ _ e => e
  have htb : ∀ b, TkB TA TC ds b → b ≠ tb := fun b hb => h.ne hb hbk (by decide)
  have hA2tb : ∀ b, (Value.slice A2 m c2).ownBlock = some b → b ≠ tb := fun b e => by
    rcases hA2 b e with h' | h'
    · exact htb b (hkB b h')
    · have := hbk.lt; omega
  have hgd : ∀ i, (ds.set k (d ++ t)).getD i [] = if i = k then d ++ t else ds.getD i [] := fun i => getD_set hk
  have hb2 : Blk w2 tb 31 cur.toArray := hbk.kept K2 fun e => htb tb (hkB tb e.symm) rfl
  refine ⟨⟨fun _ => ⟨cur.set k (.slice A2 m c2), by simpa using hb2.put k (.slice A2 m c2), fun i hi => ?_⟩, fun i hi => ?_, fun i j hi hj hij b e e' => ?_⟩, (K2.mono fun j _ e => .inr (hkB j e.symm)).setCell (p := ⟨tb, k, none⟩) (fun _ => .inl rfl) _, fun b hb => ?_⟩
  · rw [List.length_set] at hi
    rw [hgd]
    by_cases hik : i = k
    · subst hik
      have hkc : i < cur.length := by
        rcases Nat.lt_or_ge i cur.length with h' | h'
        · exact h'
        · have := hcur i hi; rw [List.getElem?_eq_none h'] at this; cases this
      simp only [if_true, hml]
      simp [hkc]
    · simp only [if_neg hik]
      rw [List.getElem?_set, if_neg (fun e => hik e.symm)]
      exact hcur i hi
  · rw [List.length_set] at hi
    rw [hgd]
    by_cases hik : i = k
    · subst hik
      simp only [if_true, hml]
      have := hap.own
      rw [← bytesV_append] at this
      exact own_keptP this ((Kept.refl (· = tb) w2).setCell (p := ⟨tb, i, none⟩) (fun _ => rfl) _) fun g hg e => hA2tb g hg e
    · simp only [if_neg hik]
      exact own_keptP (own_keptP (h.own i hi) K2 fun g hg e => h.dis i k hi hk hik g hg (by rw [hd]; exact e.symm)) ((Kept.refl (· = tb) w2).setCell (p := ⟨tb, k, none⟩) (fun _ => rfl) _) fun g hg e => htb g ⟨i, hi, hg⟩ e
  · rw [List.length_set] at hi hj
    rw [hgd] at e e'
    by_cases hik : i = k
    · subst hik
      simp only [if_true, hml] at e
      simp only [if_neg (show ¬ j = i from fun e => hij e.symm)] at e'
      rcases hA2 b e with h' | h'
      · exact h.dis i j hi hj hij b (by rw [hd]; exact h') e'
      · have := (own_block_lt (h.own j hj) e').2; omega
    · simp only [if_neg hik] at e
      by_cases hjk : j = k
      · subst hjk
        simp only [if_true, hml] at e'
        rcases hA2 b e' with h' | h'
        · exact h.dis i j hi hj hij b e (by rw [hd]; exact h')
        · have := (own_block_lt (h.own i hi) e).2; omega
      · simp only [if_neg hjk] at e'
        exact h.dis i j hi hj hij b e e'
  · obtain ⟨i, hi, e⟩ := hb
    rw [List.length_set] at hi
    rw [hgd] at e
    by_cases hik : i = k
    · subst hik
      simp only [if_true, hml] at e
      rcases hA2 b e with h' | h'
      · exact .inl (hkB b h')
      · exact .inr (by omega)
    · simp only [if_neg hik] at e
      exact .inl ⟨i, hi, e⟩

/-- the rows as a slice of slices -/
theorem Tk.els {base tb : Nat} {TA : Nat → Option Addr} {TC : Nat → Nat} {ds : List (List Int)} {w : World} {A : Option Addr} (h : Tk base tb TA TC ds w) (hA : 0 < ds.length → A = some ⟨tb, 0, none⟩ ∧ base ≤ tb) : ElsAt ElB 1 (fun j => base ≤ j) w A ds := fun hl => by
  obtain ⟨cur, hbk, hcur⟩ := h.blk hl
  refine ⟨tb, 0, (hA hl).1, (hA hl).2, hbk.lt, fun i hi => ?_⟩
  have e1 : ds.getD i [] = ds[i] := by simp [hi]
  have h1 := hcur i hi
  have h2 := h.own i hi
  rw [e1] at h1 h2
  refine ⟨[.slice (TA i) (ds[i]).length (TC i)], rfl, fun j hj => ?_, TA i, TC i, rfl, own_cap h2, (own_bytes h2).mono fun j _ e => (own_block_lt h2 e).1⟩
  obtain rfl : j = 0 := by omega
  rw [Nat.zero_add, Nat.add_zero, Nat.mul_one, hbk.cell]
  simpa using h1

/-- the rows, just made: all empty -/
theorem tk_new {base n c : Nat} {A : Option Addr} {TB : Nat → Nat} {w : World} (hr : w.ownsRow base 31 1 (.slice A n c) n ((List.range n).map fun i => .slice (some ⟨TB i, 0, none⟩) 0 0)) (ho : ∀ i, i < n → w.ownsRow base 5 1 (.slice (some ⟨TB i, 0, none⟩) 0 0) 0 []) (hd : ∀ i j, i < n → j < n → i ≠ j → TB i ≠ TB j) :
    ∃ tb, (0 < n → A = some ⟨tb, 0, none⟩ ∧ base ≤ tb) ∧ Tk base tb (fun i => some ⟨TB i, 0, none⟩) (fun _ => 0) (List.replicate n []) w := by
  have hgd : ∀ i, i < n → (List.replicate n ([] : List Int)).getD i [] = [] := fun i hi => by rw [List.getD_eq_getElem?_getD, List.getElem?_replicate, if_pos hi]; rfl
  by_cases hn : 0 < n
  · rcases hr.2 with ⟨_, h0⟩ | ⟨g, cap, cur, hv, hg1, hg, hnc, _, hcs, ht⟩
    · omega
    · obtain ⟨rfl, rfl⟩ : A = some ⟨g, 0, none⟩ ∧ c = cap := by injection hv with h1 _ h3; exact ⟨h1, h3⟩
      refine ⟨g, fun _ => ⟨rfl, hg1⟩, fun _ => ⟨cur.toList, hg, fun i hi => ?_⟩, fun i hi => ?_, fun i j hi hj hij b e e' => ?_⟩
      · rw [List.length_replicate] at hi
        rw [hgd i hi]
        have e : cur.toList[i]? = ((List.range n).map fun i => Value.slice (some ⟨TB i, 0, none⟩) 0 0)[i]? := by rw [← ht, List.getElem?_take, if_pos (by omega)]
        rw [e]
        simp [hi]
      · rw [List.length_replicate] at hi
        rw [hgd i hi]
        exact ho i hi
      · rw [List.length_replicate] at hi hj
        have e1 : TB i = b := by injection e
        have e2 : TB j = b := by injection e'
        exact hd i j hi hj hij (e1.trans e2.symm)
  · obtain rfl : n = 0 := by omega
    exact ⟨0, fun h => absurd h hn, fun h => by simp at h, fun i hi => by simp at hi, fun i j hi => by simp at hi⟩

theorem own_lit {g j n c : Nat} (e : (Value.slice (some ⟨g, 0, none⟩) n c).ownBlock = some j) : g = j := by injection e

theorem getD_map2 {l : List (Nat × List Int)} {m : Nat} (h : m < l.length) : (l.map (·.2)).getD m [] = (l.getD m (0, [])).2 := by
  simp [h]

theorem mwStep_len : ∀ {ss : List (Nat × List Int)} {p : List Int} {b : Nat}, (∀ x ∈ ss, x.2.length ≤ b) → ∀ x ∈ (mwStep ss p).2, x.2.length ≤ b + p.length
  | [], _, _, _, x, hx => by cases hx
  | (left, data) :: r, p, b, h, x, hx => by
    have h0 := h (left, data) List.mem_cons_self
    simp only at h0
    unfold mwStep at hx
    by_cases hl : left < p.length
    · rw [if_pos hl] at hx
      rcases List.mem_cons.1 hx with rfl | hx
      · simp only [List.length_append, List.length_take]
        omega
      · have := h x (List.mem_cons_of_mem _ hx)
        omega
    · rw [if_neg hl] at hx
      rcases List.mem_cons.1 hx with rfl | hx
      · simp only [List.length_append]
        omega
      · exact mwStep_len (fun y hy => h y (List.mem_cons_of_mem _ hy)) x hx

theorem drop_flatten_le (ps : List (List Int)) (q : Nat) : (ps.drop q).flatten.length ≤ ps.flatten.length := by
  conv => rhs; rw [← List.take_append_drop q ps, List.flatten_append, List.length_append]
  omega

/-- the room that each sink has, and what it took, are its limit -/
def SumIs (lims : List Int) (ss : List (Nat × List Int)) : Prop := ∀ i, i < ss.length → ((ss.getD i (0, [])).1 : Int) + ((ss.getD i (0, [])).2.length : Int) = nth lims i

theorem mwStep_getD : ∀ {ss : List (Nat × List Int)} {p : List Int} {i : Nat}, i < ss.length → ∃ t : List Int, (mwStep ss p).2.getD i (0, []) = ((ss.getD i (0, [])).1 - t.length, (ss.getD i (0, [])).2 ++ t) ∧ t.length ≤ (ss.getD i (0, [])).1
  | (left, data) :: r, p, i, h => by
    unfold mwStep
    by_cases hl : left < p.length
    · rw [if_pos hl]
      cases i with
      | zero => exact ⟨p.take left, rfl, by simp [List.length_take]; omega⟩
      | succ i => exact ⟨[], by simp, Nat.zero_le _⟩
    · rw [if_neg hl]
      cases i with
      | zero => exact ⟨p, rfl, by simp; omega⟩
      | succ i => exact mwStep_getD (ss := r) (by simpa using h)

theorem SumIs.step {lims : List Int} {ss : List (Nat × List Int)} (h : SumIs lims ss) (p : List Int) : SumIs lims (mwStep ss p).2 := fun i hi => by
  rw [mwStep_length] at hi
  obtain ⟨t, ht, hl⟩ := mwStep_getD (p := p) hi
  have := h i hi
  rw [ht]
  simp only [List.length_append]
  omega

end Go.Proofs.YtmoecjhlonokfaaDoor
