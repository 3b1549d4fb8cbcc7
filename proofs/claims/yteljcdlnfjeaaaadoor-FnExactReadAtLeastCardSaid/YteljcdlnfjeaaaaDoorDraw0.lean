/- The reference's own draws: the drawer just made; one of some numbers. -/
import Derived.Test.YteljcdlnfjeaaaaDoorSource
set_option linter.unusedVariables false
set_option linter.unusedSimpArgs false
namespace Go.Proofs.YteljcdlnfjeaaaaDoor
open Go.RowKit

theorem joinD_len_le {B : Nat} : ∀ {l : List (List Int × Int)}, (∀ i, i < l.length → (dat l i).length ≤ B) → (joinD l).length ≤ l.length * B
  | [], _ => by simp [joinD]
  | (d, e) :: r, h => by
    have h0 := h 0 (by simp)
    have ih := joinD_len_le (B := B) (l := r) fun i hi => h (i + 1) (by simpa using hi)
    rw [dat_zero] at h0
    rw [joinD_cons, List.length_append, List.length_cons, Nat.add_mul]
    simp only
    omega

/-- the drawer, just made over the bytes of an input -/
theorem rd_new {S : Nat → Prop} {w : World} {A : Option Addr} {l : List Int} (c : Nat) (h : BytesAt S w A l) (hl : l.length ≤ 1048576) (hb : ∀ j, j < l.length → 0 ≤ nth l j ∧ nth l j ≤ 255) (o : Obj) :
    RdAt (· < w.heap.size) ((w.alloc o).alloc (.cells #[.slice A l.length c, .int .i64 0] 55)) (w.heap.size + 1) 0 := by
  refine ⟨A, c, 0, l, ?_, ((h.mono fun k hk _ => hk).alloc _).alloc _, hl, Nat.le_refl _, hb, fun k hk => by omega⟩
  have := Blk.new (w.alloc o) 55 #[.slice A l.length c, .int .i64 0]
  simpa using this

/-- one of some numbers, of which all have p -/
def OnePost' (S : Nat → Prop) (rb q : Nat) (p : Int → Prop) (w : World) (e : Ending) (w' : World) : Prop :=
  ∃ z, p z ∧ e = .returned (.int .i64 z) ∧ RdAt S w' rb (q + 1) ∧ Kept (· = rb) w w'

/-- one of some numbers that stand in a block that is known whole -/
theorem one_blk {S : Nat → Prop} {w : World} {rb q : Nat} (p : Int → Prop) (h : RdAt S w rb q) (hq : q ≤ 1000000000) {len c : Nat} {t : TypeId} (h0 : 0 < len) (h1 : len ≤ 1000) {b : Nat} {cs : Array Value} (hb : Blk w b t cs) (hcs : ∀ j, j < len → ∃ z, cs[j]? = some (.int .i64 z) ∧ p z) (hne : b ≠ rb) :
    Calls Tryd.prog 29 #[.pointer (some ⟨rb, 0, none⟩), .slice (some ⟨b, 0, none⟩) len c] w (OnePost' S rb q p w) := by
  obtain ⟨zs, hl, hz⟩ : ∃ zs : List Int, zs.length = len ∧ ∀ j, j < len → cs[j]? = some (.int .i64 (nth zs j)) ∧ p (nth zs j) := by
    have : ∀ n, n ≤ len → ∃ zs : List Int, zs.length = n ∧ ∀ j, j < n → cs[j]? = some (.int .i64 (nth zs j)) ∧ p (nth zs j) := by
      intro n
      induction n with
      | zero => exact fun _ => ⟨[], rfl, fun j hj => by omega⟩
      | succ n ih =>
        intro hn
        obtain ⟨zs, h1, h2⟩ := ih (by omega)
        obtain ⟨z, h3, h4⟩ := hcs n (by omega)
        refine ⟨zs ++ [z], by simp [h1], fun j hj => ?_⟩
        by_cases hjn : j < n
        · have e : nth (zs ++ [z]) j = nth zs j := by simp [nth, List.getElem?_append_left (show j < zs.length by omega)]
          rw [e]; exact h2 j hjn
        · obtain rfl : j = n := by omega
          have e : nth (zs ++ [z]) j = z := by simp [nth, ← h1]
          rw [e]; exact ⟨h3, h4⟩
    exact this len (Nat.le_refl _)
  refine (one_any h hq c len hl h0 h1 (S1 := (· = b)) (fun hl' => ⟨b, 0, rfl, rfl, hb.lt, fun j hj => ?_⟩) (fun k hk => by subst hk; exact hne)).mono ?_
  · rw [Nat.zero_add, hb.cell]; exact (hz j (by omega)).1
  · rintro e w' ⟨z, hm, he, hr, hk⟩
    obtain ⟨i, hi, rfl⟩ := List.getElem_of_mem hm
    refine ⟨_, ?_, he, hr, hk⟩
    have := (hz i (by omega)).2
    rwa [nth_get hi] at this

theorem blk_new2 (w : World) (o : Obj) (t : TypeId) (cs : Array Value) {b : Nat} (hb : b = w.heap.size + 1) : Blk ((w.alloc o).alloc (.cells cs t)) b t cs := by
  subst hb
  have := Blk.new (w.alloc o) t cs
  simpa using this

end Go.Proofs.YteljcdlnfjeaaaaDoor
