/- A reader behind an interface, whatever it is: its state in memory, and the contract of its Read; the source's own reader is one. -/
import Derived.Test.YtmoecjhlonokfaaDoorWrite
import Derived.Test.YtmoecjhlonokfaaDoorSrcNew
set_option linter.unusedVariables false
set_option linter.unusedSimpArgs false
namespace Go.Proofs.YtmoecjhlonokfaaDoor
open Go.RowKit

theorem neqE {B : Nat} {w : World} {E : Nat → Addr} (hE : Errs B w E) (j k : Nat) (hj : isErr j = true) (hk : isErr k = true) :
    (binOp .neq 67 (.iface 103 (.pointer (some (E j)))) (.iface 103 (.pointer (some (E k))))).run Tryd.prog w = .ok (.bool (!decide (j = k))) w := by
  have h := eqlE hE j k hj hk
  simp only [binOp, Sem.run_bind] at h ⊢
  cases hr : (Op.equal 67 (.iface 103 (.pointer (some (E j)))) (.iface 103 (.pointer (some (E k))))).run Tryd.prog w with
  | ok v w' =>
    rw [hr] at h
    simp at h ⊢
    obtain ⟨h1, h2⟩ := h
    simp [h1, h2]
  | _ => rw [hr] at h; simp at h

/-- what a read leaves -/
def ReadPost {τ : Type} (I : τ → (Nat → Prop) → World → Prop) (E : Nat → Addr) (F : Nat → Prop) (pb poff : Nat) (pc : List Value) (r : (List Int × Int) × τ) (w : World) (e : Ending) (w' : World) : Prop :=
  e = .returned (.tuple #[.int .i64 r.1.1.length, errV E r.1.2]) ∧ (∃ F', I r.2 F' w' ∧ ∀ k, F' k → F k ∨ w.heap.size ≤ k) ∧ Blk w' pb 5 (splice pc poff (bytesV r.1.1)).toArray ∧ Kept (fun k => F k ∨ k = pb) w w'

/-- a reader: its type, its block and its Read; its state I (F: its blocks), and what a read of m bytes gives -/
structure Rdr {τ : Type} (B : Nat) (E : Nat → Addr) (ty : TypeId) (rb : Nat) (f : FuncId) (I : τ → (Nat → Prop) → World → Prop) (step : τ → Nat → (List Int × Int) × τ) : Prop where
  nil : ∀ w, (nilAhead 229 ty (.pointer (some ⟨rb, 0, none⟩)) "Read").run Tryd.prog w = .ok (some false) w
  met : ∀ w, (method 229 ty (.pointer (some ⟨rb, 0, none⟩)) "Read").run Tryd.prog w = .ok (f, .pointer (some ⟨rb, 0, none⟩)) w
  ent : ∀ args w, (callFunc f args).run Tryd.prog w = .ok (.enter f args) w
  keep : ∀ {t F w w'}, I t F w → w.heap.size ≤ w'.heap.size → (∀ k, k < w.heap.size → F k → w'.heap[k]? = w.heap[k]?) → I t F w'
  lo : ∀ {t F w k}, I t F w → F k → B ≤ k ∧ k < w.heap.size
  len : ∀ t m, (step t m).1.1.length ≤ m
  err : ∀ {t F w} m, I t F w → (step t m).1.2 = 0 ∨ (step t m).1.2 = 1 ∨ (step t m).1.2 = 2 ∨ (step t m).1.2 = 3
  read : ∀ {t F w pb pc P m poff} (c : Nat), I t F w → Errs B w E → B ≤ w.heap.size → Blk w pb 5 (List.toArray pc) → ¬ F pb → B ≤ pb → poff + m ≤ pc.length → (0 < m → P = some ⟨pb, poff, none⟩) → m ≤ c → m ≤ 281474976710656 →
    Calls Tryd.prog f #[.pointer (some ⟨rb, 0, none⟩), .slice P m c] w (ReadPost I E F pb poff pc (step t m) w)

theorem Rdr.kept {τ : Type} {B : Nat} {E : Nat → Addr} {ty : TypeId} {rb : Nat} {f : FuncId} {I : τ → (Nat → Prop) → World → Prop} {step : τ → Nat → (List Int × Int) × τ} (R : Rdr B E ty rb f I step) {t : τ} {F D : Nat → Prop} {w w' : World} (h : I t F w) (hk : Kept D w w') (hd : ∀ k, k < w.heap.size → F k → ¬ D k) : I t F w' :=
  R.keep h hk.size fun k hk' hF => hk.block k hk' (hd k hk' hF)

/-- the source's own reader as one -/
def SrcI (B : Nat) (L : Int) (b g : Nat) (st : List (List Int × Int)) (F : Nat → Prop) (w : World) : Prop :=
  ∃ S, Src S w b g st L ∧ (∀ k, F k ↔ (S k ∨ k = b ∨ k = g)) ∧ (∀ k, F k → B ≤ k ∧ k < w.heap.size) ∧ ∀ k, S k → k ≠ b ∧ k ≠ g

theorem src_rdr (B : Nat) (E : Nat → Addr) (L : Int) (b g : Nat) : Rdr B E 80 b 57 (SrcI B L b g) (rd L) where
  nil := fun w => nilAhead_read ⟨b, 0, none⟩ w
  met := fun w => method_read ⟨b, 0, none⟩ w
  ent := fun args w => by kernel_rfl
  keep := fun ⟨S, h1, h2, h3, h4⟩ hsz hk => ⟨S, h1.keep hsz fun k hk' hS => hk k hk' ((h2 k).2 hS), h2, fun k hF => ⟨(h3 k hF).1, Nat.lt_of_lt_of_le (h3 k hF).2 hsz⟩, h4⟩
  lo := fun ⟨S, h1, h2, h3, h4⟩ hF => h3 _ hF
  len := fun t m => rd_len L t m
  err := fun m ⟨S, h1, _⟩ => by have := h1.1.err m; omega
  read := by
    rintro st F w pb pc P m poff c ⟨S, h1, h2, h3, h4⟩ hE hBw hp hFp hBp hfit hd hc _
    have hb := h3 b ((h2 b).2 (.inr (.inl rfl)))
    have hg := h3 g ((h2 g).2 (.inr (.inr rfl)))
    refine (src_read hE hb.1 hg.1 hBp hBw h1 (fun k hS => ⟨(h4 k hS).1, (h4 k hS).2, fun e => hFp ((h2 pb).2 (.inl (e ▸ hS)))⟩) hp c hfit hd).mono ?_
    rintro e w' ⟨he, hs, hb', hk⟩
    have hk' : Kept (fun k => F k ∨ k = pb) w w' := hk.mono fun k _ hD => by
      rcases hD with h | h | h
      · exact .inl ((h2 k).2 (.inr (.inl h)))
      · exact .inl ((h2 k).2 (.inr (.inr h)))
      · exact .inr h
    exact ⟨he, ⟨F, ⟨S, hs, h2, fun k hF => ⟨(h3 k hF).1, Nat.lt_of_lt_of_le (h3 k hF).2 hk.size⟩, h4⟩, fun k hF => .inl hF⟩, hb', hk'⟩

/-- a new reader of a valid source, as one -/
theorem srcI_new {B : Nat} {st : List (List Int × Int)} {L : Int} {w w' : World} {e : Ending} (h : SrcNew st L w e w') (hB : B ≤ w.heap.size) : ∃ b g F, e = .returned (.pointer (some ⟨b, 0, none⟩)) ∧ SrcI B L b g st F w' ∧ (∀ k, F k → w.heap.size ≤ k ∧ k < w'.heap.size) ∧ F b ∧ Below w.heap.size w w' := by
  obtain ⟨b, g, he, hb, hg, hb2, hs, hbel, hg2⟩ := h
  refine ⟨b, g, fun k => (w.heap.size ≤ k ∧ k < w'.heap.size ∧ k ≠ b ∧ k ≠ g) ∨ k = b ∨ k = g, he, ⟨_, hs, fun k => Iff.rfl, fun k hk => ?_, fun k hk => hk.2.2⟩, fun k hk => ?_, .inr (.inl rfl), hbel⟩
  · rcases hk with h | rfl | rfl <;> omega
  · rcases hk with h | rfl | rfl <;> omega

end Go.Proofs.YtmoecjhlonokfaaDoor
