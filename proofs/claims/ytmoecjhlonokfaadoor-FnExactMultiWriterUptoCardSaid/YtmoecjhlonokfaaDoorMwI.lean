/- impl.MultiWriter, its plain part: what each round adds to memory. -/
import Derived.Test.YtmoecjhlonokfaaDoorMwM
import Derived.Test.YtmoecjhlonokfaaDoorSrcNew
import Derived.Deep.RegionWith
import Derived.Deep.RegionLaw
set_option linter.unusedVariables false
set_option linter.unusedSimpArgs false
namespace Go.Proofs.YtmoecjhlonokfaaDoor
open Go.RowKit

theorem infoPW : (Tryd.prog.info? 60).map (fun i => (i.zero, i.size, i.bytes)) = some (some (.pointer none), 1, 8) := by kernel_rfl
theorem infoOpG : (Tryd.prog.info? 38).map (fun i => (i.zero, i.size, i.bytes)) = some (some (.agg #[.slice none 0 0, .int .i64 0, .int .i64 0]), 3, 40) := by kernel_rfl
theorem infoBs : (Tryd.prog.info? 31).map (fun i => (i.zero, i.size, i.bytes)) = some (some (.slice none 0 0), 1, 24) := by kernel_rfl

theorem Sinks.mono {B B' : Nat} {sb : Nat → Nat} {G : Nat → Nat → Prop} {ss : List (Nat × List Int)} {w : World} (h : Sinks B sb G ss w) (hB : B' ≤ B) : Sinks B' sb G ss w := ⟨h.wr, fun i hi k hk => Nat.le_trans hB (h.lo i hi k hk), h.dis⟩

theorem own_keptP {D : Nat → Prop} {w w' : World} {base : Nat} {e : TypeId} {size : Nat} {v : Value} {n : Nat} {xs : List Value} (h : w.ownsRow base e size v n xs) (hk : Kept D w w') (hd : ∀ g, v.ownBlock = some g → ¬ D g) : w'.ownsRow base e size v n xs := by
  refine ⟨h.1, ?_⟩
  rcases h.2 with h2 | ⟨g, cap, cur, hv, hg, hh, r⟩
  · exact Or.inl h2
  · have hlt := (Array.getElem?_eq_some_iff.1 hh).1
    exact Or.inr ⟨g, cap, cur, hv, hg, by rw [hk.block g hlt (hd g (by rw [hv]; rfl))]; exact hh, r⟩

/-- the sinks so far, and the two rows of them -/
structure MI (w : World) (sb : Nat → Nat) (ls : List Nat) (k : Nat) (As Aw : Option Addr) (cs cw : Nat) (wr : World) : Prop where
  len : ls.length = k
  s : wr.ownsRow w.heap.size 60 1 (.slice As k cs) k (ptrV sb k)
  v : wr.ownsRow w.heap.size 64 1 (.slice Aw k cw) k (mwV sb k)
  sk : Sinks w.heap.size sb (fun i j => j = sb i) (ls.map fun l => (l, [])) wr
  sv : ∀ j, (Value.slice As k cs).ownBlock = some j → (Value.slice Aw k cw).ownBlock = some j → False
  ss : ∀ j, (Value.slice As k cs).ownBlock = some j → ∀ i, i < k → j ≠ sb i
  vs : ∀ j, (Value.slice Aw k cw).ownBlock = some j → ∀ i, i < k → j ≠ sb i
  bl : Below w.heap.size w wr

theorem mi_next {w wr w2 w3 : World} {sb : Nat → Nat} {ls : List Nat} {k : Nat} {As Aw As2 Aw2 : Option Addr} {cs cw cs2 cw2 l : Nat} {o1 o2 o3 : Obj} (h : MI w sb ls k As Aw cs cw wr)
    (hap1 : Appended w.heap.size 60 1 As2 (k + 1) cs2 (ptrV sb k ++ [.pointer (some ⟨wr.heap.size + 1, 0, none⟩)]) (Value.slice As k cs).ownBlock (((wr.alloc o1).alloc (.cells #[.int .i64 (l : Int), .slice none 0 0] 62)).alloc o2) w2)
    (hap2 : Appended w.heap.size 64 1 Aw2 (k + 1) cw2 (mwV sb k ++ [.iface 60 (.pointer (some ⟨wr.heap.size + 1, 0, none⟩))]) (Value.slice Aw k cw).ownBlock (w2.alloc o3) w3) :
    MI w (fun i => if i = k then wr.heap.size + 1 else sb i) (ls ++ [l]) (k + 1) As2 Aw2 cs2 cw2 w3 := by
  have hbz := h.bl.size
  have z1 := hap1.sizeLe
  have z2 := hap2.sizeLe
  simp at z1 z2
  have hlS : ∀ j, (Value.slice As k cs).ownBlock = some j → w.heap.size ≤ j ∧ j < wr.heap.size := fun j e => own_block_lt h.s e
  have hlV : ∀ j, (Value.slice Aw k cw).ownBlock = some j → w.heap.size ≤ j ∧ j < wr.heap.size := fun j e => own_block_lt h.v e
  have hS2 : ∀ j, (Value.slice As2 (k + 1) cs2).ownBlock = some j → (Value.slice As k cs).ownBlock = some j ∨ (wr.heap.size + 3 ≤ j ∧ j < w2.heap.size) := fun j e => by
    have hlt := (own_block_lt hap1.own e).2
    rcases hap1.2.2 with h' | h'
    · exact .inl (by rw [← h', e])
    · rw [e] at h'; injection h' with h'; simp at h'; exact .inr (by omega)
  have hV2 : ∀ j, (Value.slice Aw2 (k + 1) cw2).ownBlock = some j → (Value.slice Aw k cw).ownBlock = some j ∨ w2.heap.size + 1 ≤ j := fun j e => by
    rcases hap2.2.2 with h' | h'
    · exact .inl (by rw [← h', e])
    · rw [e] at h'; injection h' with h'; simp at h'; exact .inr (by omega)
  have K2 : Kept (fun j => some j = (Value.slice As k cs).ownBlock) ((wr.alloc o1).alloc (.cells #[.int .i64 (l : Int), .slice none 0 0] 62)) w2 := ((Kept.refl _ _).alloc o2).trans hap1.kept fun _ _ e => e
  have K3 : Kept (fun j => some j = (Value.slice Aw k cw).ownBlock) w2 w3 := ((Kept.refl _ _).alloc o3).trans hap2.kept fun _ _ e => e
  have K1 : Kept (fun _ => False) wr ((wr.alloc o1).alloc (.cells #[.int .i64 (l : Int), .slice none 0 0] 62)) := ((Kept.refl _ _).alloc _).alloc _
  have hcg : ∀ i, i < k → sb i = (fun i => if i = k then wr.heap.size + 1 else sb i) i := fun i hi => by simp only; rw [if_neg (by omega)]
  have hkl : (ls.map fun l => (l, ([] : List Int))).length = k := by rw [List.length_map, h.len]
  have hsbl : ∀ i, i < k → sb i < wr.heap.size := fun i hi => h.sk.flt (by rw [hkl]; exact hi) rfl
  have hsb0 : ∀ i, i < k → w.heap.size ≤ sb i := fun i hi => h.sk.lo i (by rw [hkl]; exact hi) _ rfl
  have hnew := wr_new (wr.alloc o1) l
  simp only [World.size_alloc] at hnew
  refine ⟨by simp [h.len], ?_, ?_, ⟨fun i hi => ?_, fun i hi j hj => ?_, fun i j hi hj hij q hq hq' => ?_⟩, fun j e e' => ?_, fun j e i hi => ?_, fun j e i hi => ?_, ?_⟩
  · rw [ptrV_succ, ← ptrV_congr hcg]
    simp only [if_true]
    exact own_keptP hap1.own K3 fun g hg e => by
      rcases hS2 g hg with h' | h'
      · exact h.sv g h' e.symm
      · have := (hlV g e.symm).2; omega
  · rw [mwV_succ, ← mwV_congr hcg]
    simp only [if_true]
    exact hap2.own
  · have hi' : i < k + 1 := by simp [h.len] at hi; omega
    by_cases hik : i = k
    · subst hik
      have e1 : ((ls ++ [l]).map fun l => (l, ([] : List Int))).getD i (0, []) = (l, []) := by
        rw [List.map_append, List.getD_eq_getElem?_getD, List.getElem?_append_right (by omega), hkl]; simp
      rw [e1]
      simp only [if_true]
      exact (hnew.kept K2 fun j _ hj e => by have := (hlS j e.symm).2; omega).kept K3 fun j _ hj e => by have := (hlV j e.symm).2; omega
    · have e1 : ((ls ++ [l]).map fun l => (l, ([] : List Int))).getD i (0, []) = (ls.map fun l => (l, ([] : List Int))).getD i (0, []) := by
        rw [List.map_append, List.getD_eq_getElem?_getD, List.getElem?_append_left (by omega), ← List.getD_eq_getElem?_getD]
      rw [e1]
      simp only [if_neg hik]
      have h0 := h.sk.wr i (by omega)
      exact ((h0.kept K1 fun _ _ _ hf => hf).kept K2 fun j _ hj e => h.ss j e.symm i (by omega) hj).kept K3 fun j _ hj e => h.vs j e.symm i (by omega) hj
  · have hi' : i < k + 1 := by simp [h.len] at hi; omega
    subst hj
    by_cases hik : i = k
    · rw [if_pos hik]; omega
    · rw [if_neg hik]; exact hsb0 i (by omega)
  · have hi' : i < k + 1 := by simp [h.len] at hi; omega
    have hj' : j < k + 1 := by simp [h.len] at hj; omega
    subst hq
    by_cases hik : i = k
    · rw [if_pos hik, if_neg (by omega)] at hq'
      have := hsbl j (by omega)
      omega
    · rw [if_neg hik] at hq'
      by_cases hjk : j = k
      · rw [if_pos hjk] at hq'
        have := hsbl i (by omega)
        omega
      · rw [if_neg hjk] at hq'
        exact h.sk.dis i j (by omega) (by omega) hij _ rfl hq'
  · rcases hS2 j e with h' | h'
    · rcases hV2 j e' with h2 | h2
      · exact h.sv j h' h2
      · have := (hlS j h').2; omega
    · rcases hV2 j e' with h2 | h2
      · have := (hlV j h2).2; omega
      · omega
  · rcases hS2 j e with h' | h'
    · have := (hlS j h').2
      by_cases hik : i = k
      · rw [if_pos hik]; omega
      · rw [if_neg hik]; exact h.ss j h' i (by omega)
    · by_cases hik : i = k
      · rw [if_pos hik]; omega
      · rw [if_neg hik]; have := hsbl i (by omega); omega
  · rcases hV2 j e with h' | h'
    · have := (hlV j h').2
      by_cases hik : i = k
      · rw [if_pos hik]; omega
      · rw [if_neg hik]; exact h.vs j h' i (by omega)
    · by_cases hik : i = k
      · rw [if_pos hik]; omega
      · rw [if_neg hik]; have := hsbl i (by omega); omega
  · refine h.bl.trans ((K1.below hbz fun _ _ hf => hf).trans ((K2.below (by simp; omega) fun j hj e => ?_).trans (K3.below (by omega) fun j hj e => ?_)))
    · have := (hlS j e.symm).1; omega
    · have := (hlV j e.symm).1; omega

/-- the bounds of the sinks behind a write -/
theorem mwStep_bound : ∀ {ss : List (Nat × List Int)} {p : List Int} {b M : Nat}, (∀ x ∈ ss, x.2.length ≤ b ∧ x.1 ≤ M) → ∀ x ∈ (mwStep ss p).2, x.2.length ≤ b + p.length ∧ x.1 ≤ M
  | [], _, _, _, _, x, hx => by cases hx
  | (left, data) :: r, p, b, M, h, x, hx => by
    have h0 := h (left, data) List.mem_cons_self
    simp only at h0
    unfold mwStep at hx
    by_cases hl : left < p.length
    · rw [if_pos hl] at hx
      rcases List.mem_cons.1 hx with rfl | hx
      · simp only [List.length_append, List.length_take]
        omega
      · have := h x (List.mem_cons_of_mem _ hx)
        omega
    · rw [if_neg hl] at hx
      rcases List.mem_cons.1 hx with rfl | hx
      · simp only [List.length_append]
        omega
      · exact mwStep_bound (fun y hy => h y (List.mem_cons_of_mem _ hy)) x hx

theorem mwStep_err : ∀ (ss : List (Nat × List Int)) (p : List Int), (mwStep ss p).1.2 = 0 ∨ (mwStep ss p).1.2 = 3
  | [], _ => .inl rfl
  | (left, data) :: r, p => by
    unfold mwStep
    split
    · exact .inr rfl
    · exact mwStep_err r p

theorem mwStep_n : ∀ (ss : List (Nat × List Int)) (p : List Int), (mwStep ss p).1.1 ≤ p.length
  | [], _ => Nat.le_refl _
  | (left, data) :: r, p => by
    unfold mwStep
    split
    · next h => simp only; omega
    · exact mwStep_n r p

/-- one write behind the other, from the end -/
theorem mwRuns_drop {ps : List (List Int)} {k : Nat} (h : k < ps.length) (s : List (Nat × List Int)) : mwRuns (ps.drop k) s = ((mwStep s (ps.getD k [])).1 :: (mwRuns (ps.drop (k + 1)) (mwStep s (ps.getD k [])).2).1, (mwRuns (ps.drop (k + 1)) (mwStep s (ps.getD k [])).2).2) := by
  rw [List.drop_eq_getElem_cons h, mwRuns]
  simp [h]

theorem flatten_drop {ps : List (List Int)} {k : Nat} (h : k < ps.length) : (ps.drop k).flatten.length = (ps.getD k []).length + (ps.drop (k + 1)).flatten.length := by
  rw [List.drop_eq_getElem_cons h, List.flatten_cons, List.length_append]
  simp [h]

end Go.Proofs.YtmoecjhlonokfaaDoor
