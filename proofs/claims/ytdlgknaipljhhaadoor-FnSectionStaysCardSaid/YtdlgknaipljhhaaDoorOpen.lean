/- How the arguments of the laws read: bytes, ints, a source; and how large they are, by the bulk of the reading. -/
import Derived.Test.YtdlgknaipljhhaaDoorRows
import Derived.Test.YtdlgknaipljhhaaDoorTop
set_option linter.unusedVariables false
set_option linter.unusedSimpArgs false
namespace Go.Proofs.YtdlgknaipljhhaaDoor
open Go.ChangeShapes Go.WideShapes Go.ChangeAt Go.RowKit Go.Deep

theorem bulk_one {H : Type} (d : DataW H) : 1 ≤ Rows.uptoBulk d := by
  cases d with
  | lit l => cases l <;> simp [Rows.uptoBulk]
  | nil => simp [Rows.uptoBulk]
  | ptr d => simp [Rows.uptoBulk]
  | slice elems spare => simp [Rows.uptoBulk]
  | agg parts => simp [Rows.uptoBulk]
  | iface t d => simp [Rows.uptoBulk]
  | map entries => simp [Rows.uptoBulk]
  | held h => simp [Rows.uptoBulk]
theorem bulk_mem {H : Type} {d : DataW H} : ∀ {l : List (DataW H)}, d ∈ l → Rows.uptoBulk d ≤ Rows.uptoBulkAll l
  | x :: r, h => by
    simp only [Rows.uptoBulkAll]
    rcases List.mem_cons.1 h with rfl | h
    · omega
    · have := bulk_mem h; omega
theorem bulk_len {H : Type} : ∀ (l : List (DataW H)), l.length ≤ Rows.uptoBulkAll l
  | [] => by simp [Rows.uptoBulkAll]
  | x :: r => by have := bulk_one x; have := bulk_len r; simp only [Rows.uptoBulkAll, List.length_cons]; omega
theorem bulk_append {H : Type} : ∀ (l r : List (DataW H)), Rows.uptoBulkAll (l ++ r) = Rows.uptoBulkAll l + Rows.uptoBulkAll r
  | [], r => by simp [Rows.uptoBulkAll]
  | x :: l, r => by simp only [List.cons_append, Rows.uptoBulkAll, bulk_append l r]; omega
theorem bulk_bound {H : Type} {l : List (DataW H)} (hk : Rows.uptoSmall H l = true) : Rows.uptoBulkAll l ≤ 1048576 := of_decide_eq_true hk

theorem exists_list {α : Type} (d0 : α) {P : Nat → α → Prop} : ∀ {n : Nat}, (∀ i, i < n → ∃ x, P i x) → ∃ l : List α, l.length = n ∧ ∀ i, i < n → P i (l.getD i d0)
  | 0, _ => ⟨[], rfl, fun i hi => absurd hi (by omega)⟩
  | n + 1, h => by
    obtain ⟨l, hl, hp⟩ := exists_list d0 (n := n) fun i hi => h i (by omega)
    obtain ⟨x, hx⟩ := h n (by omega)
    refine ⟨l ++ [x], by simp [hl], fun i hi => ?_⟩
    by_cases hin : i < n
    · have := hp i hin
      rw [List.getD_eq_getElem?_getD, List.getElem?_append_left (by omega), ← List.getD_eq_getElem?_getD]
      exact this
    · obtain rfl : i = n := by omega
      rw [List.getD_eq_getElem?_getD, List.getElem?_append_right (by omega), hl]
      simpa using hx

theorem addr_lit {W : World} {a : Addr} {v : Value} (h : W.cell? a = some v) : ∃ b off, a = ⟨b, off, none⟩ ∧ b < W.heap.size := by
  obtain ⟨b, off, sp⟩ := a
  have hlt := World.block_lt_of_cell? W _ h
  cases sp with
  | none => exact ⟨b, off, rfl, hlt⟩
  | some z =>
    exfalso
    unfold World.cell? at h
    split at h
    · simp at h
    · cases h

theorem add_lit_ (b off n : Nat) : (⟨b, off, none⟩ : Addr).add n = ⟨b, off + n, none⟩ := by
  unfold Addr.add
  split
  · next e => subst e; rfl
  · rfl

theorem nth_take {zs : List Int} {len j : Nat} (h : j < len) : nth (zs.take len) j = zs.getD j 0 := by simp [nth, List.getElem?_take, h]

section
variable {H : Type} {enc : TypeId × Value → H}

theorem cellsU8 : Tryd.prog.cellsOf 5 = 1 := by kernel_rfl
theorem cellsInt : Tryd.prog.cellsOf 3 = 1 := by kernel_rfl

/-- a slice of bytes that came in -/
theorem open_bytes {W : World} {fuel : Nat} {cs : List Value} {x : DataW H × List MemPlace} (h : DataW.trod enc Tryd.prog W 0 (fun _ => true) true fuel 22 cs = some x) :
    ∃ A l c, cs = [.slice A l.length c] ∧ l.length ≤ c ∧ BytesAt (· < W.heap.size) W A l ∧ l.length + 1 ≤ Rows.uptoBulk x.1 ∧ (∀ j, 0 ≤ nth l j ∧ nth l j ≤ 255) ∧ c ≤ maxLen := by
  rcases open_ints Tryd.underlying22 Tryd.underlying5 cellsU8 h with ⟨rfl, rfl⟩ | ⟨a, len, cap, zs, rfl, _, hlc, hcm, hzl, rfl, hc, hwf⟩
  · exact ⟨none, [], 0, rfl, Nat.le_refl _, BytesAt.nil _ _ _, by simp [Rows.uptoBulk], fun j => by simp [nth], by simp⟩
  · simp only [if_true] at hzl
    have hl : (zs.take len).length = len := by simp; omega
    refine ⟨some a, zs.take len, cap, by rw [hl], by omega, fun hp => ?_, ?_, fun j => ?_, hcm⟩
    · have h0 : W.cell? a = some (.int .u8 (zs.getD 0 0)) := by simpa [Addr.add] using hc 0 (by omega)
      obtain ⟨b, off, rfl, hb⟩ := addr_lit h0
      refine ⟨b, off, rfl, hb, hb, fun j hj => ?_⟩
      rw [nth_take (by omega), ← hc j (by omega), add_lit_]
    · have h1 := bulk_len (H := H) (lits .u8 (zs.take len))
      simp only [lits, List.length_map] at h1
      simp only [Rows.uptoBulk, lits]
      omega
    · by_cases hj : j < (zs.take len).length
      · rw [nth_get hj]
        exact bounds_u8 (hwf _ (List.mem_of_mem_take (List.getElem_mem hj)))
      · simp [nth, List.getElem?_eq_none (Nat.le_of_not_lt hj)]

/-- a slice of ints that came in -/
theorem open_intsAt {W : World} {fuel : Nat} {cs : List Value} {x : DataW H × List MemPlace} (h : DataW.trod enc Tryd.prog W 0 (fun _ => true) true fuel 57 cs = some x) :
    ∃ A l c, cs = [.slice A l.length c] ∧ l.length ≤ c ∧ IntsAt (· < W.heap.size) W A l ∧ l.length + 1 ≤ Rows.uptoBulk x.1 := by
  rcases open_ints Tryd.underlying57 Tryd.underlying3 cellsInt h with ⟨rfl, rfl⟩ | ⟨a, len, cap, zs, rfl, _, hlc, hcm, hzl, rfl, hc, hwf⟩
  · exact ⟨none, [], 0, rfl, Nat.le_refl _, IntsAt.nil _ _ _, by simp [Rows.uptoBulk]⟩
  · simp only [if_true] at hzl
    have hl : (zs.take len).length = len := by simp; omega
    refine ⟨some a, zs.take len, cap, by rw [hl], by omega, fun hp => ?_, ?_⟩
    · have h0 : W.cell? a = some (.int .i64 (zs.getD 0 0)) := by simpa [Addr.add] using hc 0 (by omega)
      obtain ⟨b, off, rfl, hb⟩ := addr_lit h0
      refine ⟨b, off, rfl, hb, hb, fun j hj => ?_⟩
      rw [nth_take (by omega), ← hc j (by omega), add_lit_]
    · have h1 := bulk_len (H := H) (lits .i64 (zs.take len))
      simp only [lits, List.length_map] at h1
      simp only [Rows.uptoBulk, lits]
      omega

theorem cellsBytes : Tryd.prog.cellsOf 22 = 1 := by kernel_rfl
end

end Go.Proofs.YtdlgknaipljhhaaDoor
