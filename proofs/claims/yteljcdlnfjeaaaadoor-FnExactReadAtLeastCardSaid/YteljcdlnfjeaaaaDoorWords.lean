/- Words for memory: a frame by a set of blocks, a block that is known whole, a slice of bytes that reads as a list, a slice of pairs (bytes, number) that reads as a list. Nothing of the program is named here. -/
import Derived.WalkKit
import Derived.WalkLawsBesides
import Derived.WalkSpells
import Derived.Lib.Hide
import Derived.Deep.Draws
import Derived.Laws.OwnMore
import Derived.Laws.Rows
import Derived.Laws.CopyOwn
import Derived.Laws.IdiomCopy
set_option linter.unusedVariables false
set_option linter.unusedSimpArgs false
namespace Go.Proofs.YteljcdlnfjeaaaaDoor
open Go.RowKit

/-- w' is w but for the blocks in D, and new ones -/
structure Kept (D : Nat → Prop) (w w' : World) : Prop where
  os : w'.os = w.os
  tape : w'.tape = w.tape
  output : w'.output = w.output
  size : w.heap.size ≤ w'.heap.size
  block : ∀ k, k < w.heap.size → ¬ D k → w'.heap[k]? = w.heap[k]?

theorem Kept.refl (D : Nat → Prop) (w : World) : Kept D w w := ⟨rfl, rfl, rfl, Nat.le_refl _, fun _ _ _ => rfl⟩
theorem Kept.mono {D D' : Nat → Prop} {w w' : World} (h : Kept D w w') (hd : ∀ k, k < w.heap.size → D k → D' k) : Kept D' w w' :=
  ⟨h.os, h.tape, h.output, h.size, fun k hk hn => h.block k hk fun hD => hn (hd k hk hD)⟩
theorem Kept.trans {D D' : Nat → Prop} {a b c : World} (h : Kept D a b) (k : Kept D' b c) (hd : ∀ i, i < a.heap.size → D' i → D i) : Kept D a c :=
  ⟨k.os.trans h.os, k.tape.trans h.tape, k.output.trans h.output, Nat.le_trans h.size k.size, fun i hi hn =>
    (k.block i (Nat.lt_of_lt_of_le hi h.size) fun hD => hn (hd i hi hD)).trans (h.block i hi hn)⟩
theorem Kept.drew {D : Nat → Prop} {a w : World} (h : Kept D a w) : Kept D a w.drew := ⟨h.os, h.tape, h.output, h.size, h.block⟩
theorem Kept.drewN {D : Nat → Prop} {a w : World} (h : Kept D a w) (n : Nat) : Kept D a (w.drewN n) := ⟨h.os, h.tape, h.output, h.size, h.block⟩
theorem Kept.alloc {D : Nat → Prop} {a w : World} (h : Kept D a w) (o : Obj) : Kept D a (w.alloc o) :=
  h.trans (D' := fun _ => False) ⟨rfl, rfl, rfl, by simp, fun k hk _ => Below.heap_alloc _ _ _ hk⟩ fun _ _ hf => hf.elim
theorem Kept.setCell {D : Nat → Prop} {a w : World} (h : Kept D a w) {p : Addr} (hp : p.block < a.heap.size → D p.block) (u : Value) : Kept D a (w.setCell p u) :=
  h.trans (D' := fun k => k = p.block) ⟨rfl, rfl, rfl, by simp [World.setCell], fun k _ hn => Below.heap_setCell _ _ _ _ hn⟩ fun i hi e => by subst e; exact hp hi
theorem Kept.grown {D : Nat → Prop} {a w w' : World} {row : Option Nat} (h : Kept D a w) (hg : w.grownBy w' row) (hr : ∀ k, row = some k → k < a.heap.size → D k) : Kept D a w' :=
  h.trans (D' := fun k => row = some k) ⟨hg.os, hg.tape, hg.output, hg.size, fun k hk hn => hg.block k hk fun e => hn e.symm⟩ fun i hi e => hr i e hi
theorem Kept.of_below {D : Nat → Prop} {a w w' : World} (h : Kept D a w) (hb : Below w.heap.size w w') : Kept D a w' :=
  h.trans (D' := fun _ => False) ⟨hb.os, hb.tape, hb.output, hb.size, fun k hk _ => hb.block k hk⟩ fun _ _ hf => hf.elim
theorem Kept.below {D : Nat → Prop} {w w' : World} (h : Kept D w w') {B : Nat} (hB : B ≤ w.heap.size) (hd : ∀ k, k < B → ¬ D k) : Below B w w' :=
  ⟨h.os, h.tape, h.output, h.size, fun k hk => h.block k (Nat.lt_of_lt_of_le hk hB) (hd k hk)⟩
theorem Kept.cell {D : Nat → Prop} {w w' : World} (h : Kept D w w') {p : Addr} (hp : p.block < w.heap.size) (hd : ¬ D p.block) : w'.cell? p = w.cell? p := World.cell?_of_block (h.block _ hp hd)
theorem below_drewN {B : Nat} {a w : World} (h : Below B a w) (n : Nat) : Below B a (w.drewN n) := ⟨h.os, h.tape, h.output, h.size, h.block⟩

/-- block g is just the cells cs of type t, none frozen -/
def Blk (w : World) (g : Nat) (t : TypeId) (cs : Array Value) : Prop := w.heap[g]? = some (.cells cs t (0, 0))
section
variable {w w' : World} {g : Nat} {t : TypeId} {cs : Array Value}
theorem Blk.lt (h : Blk w g t cs) : g < w.heap.size := (Array.getElem?_eq_some_iff.1 h).1
theorem Blk.cell (h : Blk w g t cs) (i : Nat) : w.cell? ⟨g, i, none⟩ = cs[i]? := cell_of_row w g i cs t (0, 0) h
theorem Blk.frozen (h : Blk w g t cs) (i : Nat) : w.frozen? ⟨g, i, none⟩ = false := by
  unfold Blk at h
  simp [World.frozen?, h]
theorem Blk.new (w : World) (t : TypeId) (cs : Array Value) : Blk (w.alloc (.cells cs t)) w.heap.size t cs := heap_alloc_new w _
theorem Blk.keep (h : Blk w g t cs) (hk : w'.heap[g]? = w.heap[g]?) : Blk w' g t cs := hk.trans h
theorem Blk.drew (h : Blk w g t cs) : Blk w.drew g t cs := h
theorem Blk.drewN (h : Blk w g t cs) (n : Nat) : Blk (w.drewN n) g t cs := h
theorem Blk.alloc (h : Blk w g t cs) (o : Obj) : Blk (w.alloc o) g t cs := h.keep (Below.heap_alloc w o g h.lt)
theorem Blk.put (h : Blk w g t cs) (i : Nat) (u : Value) : Blk (w.setCell ⟨g, i, none⟩ u) g t (cs.setIfInBounds i u) := by
  unfold Blk at h ⊢
  simp [World.setCell, Array.getElem?_modify, h]
theorem Blk.far (h : Blk w g t cs) {p : Addr} (hp : g ≠ p.block) (u : Value) : Blk (w.setCell p u) g t cs := h.keep (Below.heap_setCell w p u g hp)
theorem Blk.below {B : Nat} (h : Blk w g t cs) (hb : Below B w w') (hg : g < B) : Blk w' g t cs := h.keep (hb.block g hg)
theorem Blk.kept {D : Nat → Prop} (h : Blk w g t cs) (hb : Kept D w w') (hg : ¬ D g) : Blk w' g t cs := h.keep (hb.block g h.lt hg)
theorem Blk.grown {row : Option Nat} (h : Blk w g t cs) (hb : w.grownBy w' row) (hg : some g ≠ row) : Blk w' g t cs := h.keep (hb.block g h.lt hg)
theorem Blk.ne_of {g' : Nat} {t' : TypeId} {cs' : Array Value} (h : Blk w g t cs) (h' : Blk w g' t' cs') (hne : t ≠ t') : g ≠ g' := by
  rintro rfl
  unfold Blk at h h'
  rw [h] at h'
  injection h' with h'
  injection h' with _ ht
  exact hne ht
end

/-- the element of a list of numbers -/
def nth (l : List Int) (j : Nat) : Int := l.getD j 0
theorem nth_get {l : List Int} {j : Nat} (h : j < l.length) : nth l j = l[j] := by simp [nth, h]

/-- the slice at A reads as the bytes l; its block is one of S -/
def BytesAt (S : Nat → Prop) (w : World) (A : Option Addr) (l : List Int) : Prop :=
  0 < l.length → ∃ b off, A = some ⟨b, off, none⟩ ∧ S b ∧ b < w.heap.size ∧ ∀ j, j < l.length → w.cell? ⟨b, off + j, none⟩ = some (.int .u8 (nth l j))
section
variable {S S' : Nat → Prop} {w w' : World} {A : Option Addr} {l : List Int}
theorem BytesAt.nil (S : Nat → Prop) (w : World) (A : Option Addr) : BytesAt S w A [] := fun h => absurd h (by simp)
theorem BytesAt.keep (h : BytesAt S w A l) (hsz : w.heap.size ≤ w'.heap.size) (hk : ∀ k, k < w.heap.size → S k → w'.heap[k]? = w.heap[k]?) : BytesAt S w' A l := fun hl => by
  obtain ⟨b, off, e, hS, hb, hc⟩ := h hl
  exact ⟨b, off, e, hS, Nat.lt_of_lt_of_le hb hsz, fun j hj => (World.cell?_of_block (w := w) (a := ⟨b, off + j, none⟩) (hk b hb hS)).trans (hc j hj)⟩
theorem BytesAt.mono (h : BytesAt S w A l) (hs : ∀ k, k < w.heap.size → S k → S' k) : BytesAt S' w A l := fun hl => by
  obtain ⟨b, off, e, hS, hb, hc⟩ := h hl
  exact ⟨b, off, e, hs b hb hS, hb, hc⟩
theorem BytesAt.move (h : BytesAt S w A l) (hsz : w.heap.size ≤ w'.heap.size) (hk : ∀ k, k < w.heap.size → S k → S' k ∧ w'.heap[k]? = w.heap[k]?) : BytesAt S' w' A l := fun hl => by
  obtain ⟨b, off, e, hS, hb, hc⟩ := h hl
  exact ⟨b, off, e, (hk b hb hS).1, Nat.lt_of_lt_of_le hb hsz, fun j hj => (World.cell?_of_block (w := w) (a := ⟨b, off + j, none⟩) (hk b hb hS).2).trans (hc j hj)⟩
theorem BytesAt.drewN (h : BytesAt S w A l) (n : Nat) : BytesAt S (w.drewN n) A l := h
theorem BytesAt.drew (h : BytesAt S w A l) : BytesAt S w.drew A l := h
theorem BytesAt.kept {D : Nat → Prop} (h : BytesAt S w A l) (hb : Kept D w w') (hd : ∀ k, k < w.heap.size → S k → ¬ D k) : BytesAt S w' A l :=
  h.keep hb.size fun k hk hS => hb.block k hk (hd k hk hS)
theorem BytesAt.below {B : Nat} (h : BytesAt (· < B) w A l) (hb : Below B w w') : BytesAt (· < B) w' A l :=
  h.keep hb.size fun k _ hS => hb.block k hS
theorem BytesAt.alloc (h : BytesAt S w A l) (o : Obj) : BytesAt S (w.alloc o) A l :=
  h.keep (by simp) fun k hk _ => Below.heap_alloc w o k hk
theorem BytesAt.setCell (h : BytesAt S w A l) {p : Addr} (hp : ¬ S p.block) (u : Value) : BytesAt S (w.setCell p u) A l :=
  h.keep (by simp [World.setCell]) fun k _ hS => Below.heap_setCell w p u k (fun e => hp (e ▸ hS))
theorem BytesAt.grown {row : Option Nat} (h : BytesAt S w A l) (hg : w.grownBy w' row) (hr : ∀ k, row = some k → ¬ S k) : BytesAt S w' A l :=
  h.keep hg.size fun k hk hS => hg.block k hk fun e => hr k e.symm hS

theorem BytesAt.take (h : BytesAt S w A l) (n : Nat) : BytesAt S w A (l.take n) := fun hl => by
  simp only [List.length_take] at hl
  obtain ⟨b, off, e, hS, hb, hc⟩ := h (by omega)
  refine ⟨b, off, e, hS, hb, fun j hj => ?_⟩
  simp only [List.length_take] at hj
  rw [hc j (by omega), nth_get (by omega), nth_get (by simp; omega)]
  simp
theorem BytesAt.drop (h : BytesAt S w A l) (n : Nat) : BytesAt S w (A.map (·.add n)) (l.drop n) := fun hl => by
  simp only [List.length_drop] at hl
  obtain ⟨b, off, e, hS, hb, hc⟩ := h (by omega)
  subst e
  refine ⟨b, off + n, ?_, hS, hb, fun j hj => ?_⟩
  · simp only [Option.map_some]
    unfold Addr.add
    split
    · next e => subst e; rfl
    · rfl
  · simp only [List.length_drop] at hj
    rw [Nat.add_assoc, hc (n + j) (by omega), nth_get (by omega), nth_get (by simp; omega)]
    simp
end

/-- the slice at A reads as the ints l; its block is one of S -/
def IntsAt (S : Nat → Prop) (w : World) (A : Option Addr) (l : List Int) : Prop :=
  0 < l.length → ∃ b off, A = some ⟨b, off, none⟩ ∧ S b ∧ b < w.heap.size ∧ ∀ j, j < l.length → w.cell? ⟨b, off + j, none⟩ = some (.int .i64 (nth l j))
section
variable {S S' : Nat → Prop} {w w' : World} {A : Option Addr} {l : List Int}
theorem IntsAt.nil (S : Nat → Prop) (w : World) (A : Option Addr) : IntsAt S w A [] := fun h => absurd h (by simp)
theorem IntsAt.move (h : IntsAt S w A l) (hsz : w.heap.size ≤ w'.heap.size) (hk : ∀ k, k < w.heap.size → S k → S' k ∧ w'.heap[k]? = w.heap[k]?) : IntsAt S' w' A l := fun hl => by
  obtain ⟨b, off, e, hS, hb, hc⟩ := h hl
  exact ⟨b, off, e, (hk b hb hS).1, Nat.lt_of_lt_of_le hb hsz, fun j hj => (World.cell?_of_block (w := w) (a := ⟨b, off + j, none⟩) (hk b hb hS).2).trans (hc j hj)⟩
theorem IntsAt.keep (h : IntsAt S w A l) (hsz : w.heap.size ≤ w'.heap.size) (hk : ∀ k, k < w.heap.size → S k → w'.heap[k]? = w.heap[k]?) : IntsAt S w' A l := h.move hsz fun k hk' hS => ⟨hS, hk k hk' hS⟩
theorem IntsAt.mono (h : IntsAt S w A l) (hs : ∀ k, k < w.heap.size → S k → S' k) : IntsAt S' w A l := h.move (Nat.le_refl _) fun k hk hS => ⟨hs k hk hS, rfl⟩
theorem IntsAt.below {B : Nat} (h : IntsAt (· < B) w A l) (hb : Below B w w') : IntsAt (· < B) w' A l := h.keep hb.size fun k _ hS => hb.block k hS
theorem IntsAt.drew (h : IntsAt S w A l) : IntsAt S w.drew A l := h
theorem IntsAt.drewN (h : IntsAt S w A l) (n : Nat) : IntsAt S (w.drewN n) A l := h
theorem IntsAt.alloc (h : IntsAt S w A l) (o : Obj) : IntsAt S (w.alloc o) A l := h.keep (by simp) fun k hk _ => Below.heap_alloc w o k hk
end

/-- the bytes, and the number, of an element of a list of pairs -/
def dat (l : List (List Int × Int)) (i : Nat) : List Int := (l.getD i ([], 0)).1
def err (l : List (List Int × Int)) (i : Nat) : Int := (l.getD i ([], 0)).2
theorem dat_get {l : List (List Int × Int)} {i : Nat} (h : i < l.length) : dat l i = l[i].1 := by simp [dat, h]
theorem err_get {l : List (List Int × Int)} {i : Nat} (h : i < l.length) : err l i = l[i].2 := by simp [err, h]

theorem dat_zero (d : List Int) (e : Int) (r : List (List Int × Int)) : dat ((d, e) :: r) 0 = d := rfl
theorem err_zero (d : List Int) (e : Int) (r : List (List Int × Int)) : err ((d, e) :: r) 0 = e := rfl
theorem dat_succ (x : List Int × Int) (r : List (List Int × Int)) (i : Nat) : dat (x :: r) (i + 1) = dat r i := rfl
theorem err_succ (x : List Int × Int) (r : List (List Int × Int)) (i : Nat) : err (x :: r) (i + 1) = err r i := rfl

/-- the slice at A reads as pairs of bytes and a number; all blocks are of S -/
def RecsAt (S : Nat → Prop) (w : World) (A : Option Addr) (l : List (List Int × Int)) : Prop :=
  0 < l.length → ∃ b off, A = some ⟨b, off, none⟩ ∧ S b ∧ b < w.heap.size ∧ ∀ i, i < l.length → ∃ Ai ci, w.cell? ⟨b, off + i * 2, none⟩ = some (.slice Ai (dat l i).length ci) ∧
    w.cell? ⟨b, off + i * 2 + 1, none⟩ = some (.int .i64 (err l i)) ∧ (dat l i).length ≤ ci ∧ BytesAt S w Ai (dat l i)
section
variable {S S' : Nat → Prop} {w w' : World} {A : Option Addr} {l : List (List Int × Int)}
theorem RecsAt.nil (S : Nat → Prop) (w : World) (A : Option Addr) : RecsAt S w A [] := fun h => absurd h (by simp)
theorem RecsAt.keep (h : RecsAt S w A l) (hsz : w.heap.size ≤ w'.heap.size) (hk : ∀ k, k < w.heap.size → S k → w'.heap[k]? = w.heap[k]?) : RecsAt S w' A l := fun hl => by
  obtain ⟨b, off, e, hS, hb, hc⟩ := h hl
  refine ⟨b, off, e, hS, Nat.lt_of_lt_of_le hb hsz, fun i hi => ?_⟩
  obtain ⟨Ai, ci, h1, h2, h3, h4⟩ := hc i hi
  exact ⟨Ai, ci, (World.cell?_of_block (w := w) (a := ⟨b, off + i * 2, none⟩) (hk b hb hS)).trans h1, (World.cell?_of_block (w := w) (a := ⟨b, off + i * 2 + 1, none⟩) (hk b hb hS)).trans h2, h3, h4.keep hsz hk⟩
theorem RecsAt.mono (h : RecsAt S w A l) (hs : ∀ k, k < w.heap.size → S k → S' k) : RecsAt S' w A l := fun hl => by
  obtain ⟨b, off, e, hS, hb, hc⟩ := h hl
  refine ⟨b, off, e, hs b hb hS, hb, fun i hi => ?_⟩
  obtain ⟨Ai, ci, h1, h2, h3, h4⟩ := hc i hi
  exact ⟨Ai, ci, h1, h2, h3, h4.mono hs⟩
theorem RecsAt.drewN (h : RecsAt S w A l) (n : Nat) : RecsAt S (w.drewN n) A l := h
theorem RecsAt.drew (h : RecsAt S w A l) : RecsAt S w.drew A l := h
theorem RecsAt.kept {D : Nat → Prop} (h : RecsAt S w A l) (hb : Kept D w w') (hd : ∀ k, k < w.heap.size → S k → ¬ D k) : RecsAt S w' A l :=
  h.keep hb.size fun k hk hS => hb.block k hk (hd k hk hS)
theorem RecsAt.below {B : Nat} (h : RecsAt (· < B) w A l) (hb : Below B w w') : RecsAt (· < B) w' A l :=
  h.keep hb.size fun k _ hS => hb.block k hS
theorem RecsAt.alloc (h : RecsAt S w A l) (o : Obj) : RecsAt S (w.alloc o) A l :=
  h.keep (by simp) fun k hk _ => Below.heap_alloc w o k hk
theorem RecsAt.setCell (h : RecsAt S w A l) {p : Addr} (hp : ¬ S p.block) (u : Value) : RecsAt S (w.setCell p u) A l :=
  h.keep (by simp [World.setCell]) fun k _ hS => Below.heap_setCell w p u k (fun e => hp (e ▸ hS))
theorem RecsAt.grown {row : Option Nat} (h : RecsAt S w A l) (hg : w.grownBy w' row) (hr : ∀ k, row = some k → ¬ S k) : RecsAt S w' A l :=
  h.keep hg.size fun k hk hS => hg.block k hk fun e => hr k e.symm hS
end

/-- bytes as cells -/
def bytesV (l : List Int) : List Value := l.map (Value.int .u8)
theorem bytesV_length (l : List Int) : (bytesV l).length = l.length := by simp [bytesV]
theorem bytesV_get {l : List Int} {j : Nat} {u : Value} (h : (bytesV l)[j]? = some u) : j < l.length ∧ u = .int .u8 (nth l j) := by
  have hj : j < l.length := by
    rcases Nat.lt_or_ge j l.length with h' | h'
    · exact h'
    · simp [bytesV, h'] at h
  refine ⟨hj, ?_⟩
  simp [bytesV, hj] at h
  rw [nth_get hj, ← h]
theorem bytesV_one (l : List Int) : ∀ u ∈ bytesV l, u.oneCell' = true := by
  intro u hu
  obtain ⟨x, _, rfl⟩ := List.mem_map.1 hu
  rfl

theorem kept_setRow (w : World) (g : Nat) (cs : Array Value) : Kept (· = g) w (w.setRow g cs) :=
  ⟨rfl, rfl, rfl, by simp [World.setRow], fun k _ hn => setRow_other w g k cs hn⟩

/-- copy of bytes into a block that is known whole -/
theorem run_copy_kept {P : Program} {w : World} (dT ty elem : TypeId) (hu : P.underlying dT = some (.slice elem)) (hsz : (P.info? elem).map (·.size) = some 1)
    (dp sp : Option Addr) (dLen dCap sLen sCap : Nat) (g off : Nat) (cur : List Value) (t : TypeId) (hg : Blk w g t cur.toArray) (l : List Int) (hn : l.length = min sLen dLen)
    (hd : 0 < l.length → dp = some ⟨g, off, none⟩) (S : Nat → Prop) (hs : BytesAt S w sp l) (hfit : off + l.length ≤ cur.length) :
    ∃ w', (Builtin.copy_ #[dT, dT] ty #[.slice dp dLen dCap, .slice sp sLen sCap]).run P w = .ok (goInt l.length) w' ∧ Blk w' g t (splice cur off (bytesV l)).toArray ∧ Kept (· = g) w w' := by
  by_cases h0 : l.length = 0
  · obtain rfl : l = [] := List.eq_nil_of_length_eq_zero h0
    refine ⟨w, run_copy_none (P := P) w dT dT ty elem dp sp dLen dCap sLen sCap hu hsz (by simpa using hn.symm), ?_, Kept.refl _ _⟩
    simpa [splice, bytesV] using hg
  · have hp : 0 < l.length := by omega
    obtain ⟨b, o, rfl, _, _, hc⟩ := hs hp
    obtain rfl := hd hp
    have hrun := run_copy_row (P := P) w dT dT ty elem g off dLen dCap ⟨b, o, none⟩ sLen sCap cur.toArray t (bytesV l) hu hsz hg (by rw [bytesV_length]; exact hn)
      (fun j v hv => by
        obtain ⟨hj, rfl⟩ := bytesV_get hv
        have := hc j hj
        rw [← this]
        unfold Addr.add
        split
        · next e => subst e; rfl
        · rfl) (by rw [bytesV_length]; simpa using hfit) (bytesV_one l)
    rw [bytesV_length] at hrun
    refine ⟨_, hrun, ?_, kept_setRow _ _ _⟩
    have := setRow_heap w g _ (cur.toArray.toList.take off ++ bytesV l ++ cur.toArray.toList.drop (off + l.length)).toArray t _ hg
    unfold Blk
    rw [this]
    simp [splice, bytesV_length]

theorem wpList_copy_kept {P : Program} {w : World} {ops : Array Oper} {rest : List Oper} {o : Oper} {a : Act} {Q : Exit → Act → World → Prop} (hgd : o.guard = none) (d s : Operand) (dT elem : TypeId)
    (ho : o.op = .call { callee := .builtin .copy, args := #[d, s], argTypes := #[dT, dT] }) (hu : P.underlying dT = some (.slice elem)) (hsz : (P.info? elem).map (·.size) = some 1)
    (dp sp : Option Addr) (dLen dCap sLen sCap : Nat) (hed : a.eval d = .slice dp dLen dCap) (hes : a.eval s = .slice sp sLen sCap)
    (g off : Nat) (cur : List Value) (t : TypeId) (hg : Blk w g t cur.toArray) (l : List Int) (hn : l.length = min sLen dLen)
    (hd : 0 < l.length → dp = some ⟨g, off, none⟩) (S : Nat → Prop) (hs : BytesAt S w sp l) (hfit : off + l.length ≤ cur.length)
    (h : ∀ w', Hid (Blk w' g t (splice cur off (bytesV l)).toArray) → Hid (Kept (· = g) w w') → wpList P ops Q rest (a.put o.dst (goInt l.length)) w') :
    wpList P ops Q (o :: rest) a w := by
  refine wpList_plain hgd fun K hK => ?_
  obtain ⟨w', hrun, h1, h2⟩ := run_copy_kept (P := P) (w := w) dT o.type elem hu hsz dp sp dLen dCap sLen sCap g off cur t hg l hn hd S hs hfit
  unfold Oper.wp
  simp [execOp, ho, resolve, invoke, builtin, hed, hes, hrun, Result.andThen]
  exact hK _ _ (h w' h1 h2)

/-- a slice expression x[n:], its address under one name -/
theorem slice_from {P : Program} (t : TypeId) (ht : P.underlying t = some (.slice (P.elem t))) (i : TypeInfo) (size : Nat) (hi : P.info? (P.elem t) = some i) (hs : i.size = size)
    (A : Option Addr) (len cap n : Nat) (hn : n ≤ len) (hc : len ≤ cap) :
    ∃ A2 : Option Addr, (∀ w, (Instr.slice t (.slice A len cap) (some (.int .i64 (n : Int))) none none).run P w = .ok (.slice A2 (len - n) (cap - n)) w) ∧ (n < cap → A2 = A.map (·.add (n * size))) := by
  refine ⟨if cap = n then A else A.map (·.add (n * size)), fun w => ?_, fun h => if_neg (by omega)⟩
  rw [run_slice_l (P := P) w t A len cap ht .i64 n (by omega) (by omega)]
  simp [sizeOf, typeInfo, hi, hs, sliced, Result.andThen]

/-- a slice expression x[lo:lo+n], its address under one name -/
theorem slice_mid {P : Program} (t : TypeId) (ht : P.underlying t = some (.slice (P.elem t))) (i : TypeInfo) (size : Nat) (hi : P.info? (P.elem t) = some i) (hs : i.size = size)
    (A : Option Addr) (len cap lo n : Nat) (hn : lo + n ≤ cap) :
    ∃ A2 : Option Addr, (∀ w, (Instr.slice t (.slice A len cap) (some (.int .i64 (lo : Int))) (some (.int .i64 ((lo : Int) + (n : Int)))) none).run P w = .ok (.slice A2 n (cap - lo)) w) ∧ (lo < cap → A2 = A.map (·.add (lo * size))) := by
  refine ⟨if cap = lo then A else A.map (·.add (lo * size)), fun w => ?_, fun h => if_neg (by omega)⟩
  rw [run_slice_lh (P := P) w t A len cap ht .i64 .i64 lo ((lo : Int) + (n : Int)) (by omega) (by omega) (by omega)]
  have e : ((lo : Int) + (n : Int)).toNat - lo = n := by omega
  simp [sizeOf, typeInfo, hi, hs, sliced, Result.andThen, e]

/-- a slice expression x[:n] -/
theorem slice_to {P : Program} (t : TypeId) (ht : P.underlying t = some (.slice (P.elem t))) (i : TypeInfo) (hi : P.info? (P.elem t) = some i)
    (A : Option Addr) (len cap n : Nat) (hn : n ≤ cap) (w : World) :
    (Instr.slice t (.slice A len cap) none (some (.int .i64 (n : Int))) none).run P w = .ok (.slice A n cap) w := by
  rw [run_slice_h (P := P) w t A len cap ht .i64 n (by omega) (by omega)]
  cases A <;> simp [sizeOf, typeInfo, hi, sliced, Result.andThen, Addr.add]

theorem BytesAt.addr {S : Nat → Prop} {w : World} {A A' : Option Addr} {l : List Int} (h : BytesAt S w A l) (e : 0 < l.length → A' = A) : BytesAt S w A' l := fun hl => by
  rw [e hl]; exact h hl

end Go.Proofs.YteljcdlnfjeaaaaDoor
