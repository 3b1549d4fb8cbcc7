/- append onto a row of the call's own, from whatever source (nil, empty or not); make of bytes. Nothing of the program is named here. -/
import Derived.Test.YteljcdlnfjeaaaaDoorWords
import Derived.Maps.AppendAt
import Derived.Deep.AppendLies
import Derived.Laws.MakeOwn
import Derived.RegionTactic
set_option linter.unusedVariables false
set_option linter.unusedSimpArgs false
namespace Go.Proofs.YteljcdlnfjeaaaaDoor
open Go.RowKit

/-- what an append leaves: the new slice owns the cells ys; only the old row, and new blocks, have turned -/
def Appended (base : Nat) (e : TypeId) (size : Nat) (A' : Option Addr) (k c' : Nat) (ys : List Value) (ob : Option Nat) (w w' : World) : Prop :=
  w'.ownsRow base e size (.slice A' k c') k ys ∧ w.grownBy w' ob ∧ ((Value.slice A' k c').ownBlock = ob ∨ (Value.slice A' k c').ownBlock = some w.heap.size)

section
variable {base : Nat} {e : TypeId} {size : Nat} {A' : Option Addr} {k c' : Nat} {ys : List Value} {ob : Option Nat} {w w' : World}
theorem Appended.cell (h : Appended base e size A' k c' ys ob w w') {a : Addr} (hlt : a.block < w.heap.size) (hne : some a.block ≠ ob) : w'.cell? a = w.cell? a := World.cell?_of_block (h.2.1.block _ hlt hne)
theorem Appended.frozen (h : Appended base e size A' k c' ys ob w w') {a : Addr} (hlt : a.block < w.heap.size) (hne : some a.block ≠ ob) : w'.frozen? a = w.frozen? a := World.frozen?_of_block (h.2.1.block _ hlt hne)
theorem Appended.sizeLe (h : Appended base e size A' k c' ys ob w w') : w.heap.size ≤ w'.heap.size := h.2.1.size
theorem Appended.own (h : Appended base e size A' k c' ys ob w w') : w'.ownsRow base e size (.slice A' k c') k ys := h.1
theorem Appended.grown (h : Appended base e size A' k c' ys ob w w') : w.grownBy w' ob := h.2.1
theorem Appended.kept (h : Appended base e size A' k c' ys ob w w') : Kept (fun j => some j = ob) w w' := ⟨h.2.1.os, h.2.1.tape, h.2.1.output, h.2.1.size, fun j hj hn => h.2.1.block j hj hn⟩
end

/-- the cells 'news' lie at A -/
def NewsAt (w : World) (A : Option Addr) (m : Nat) (news : List Value) : Prop := 0 < m → ∃ ad, A = some ad ∧ ∀ j u, news[j]? = some u → w.cell? (ad.add j) = some u

theorem own_form {w : World} {base : Nat} {e : TypeId} {size : Nat} {v : Value} {n : Nat} {xs : List Value} (h : w.ownsRow base e size v n xs) : ∃ A c, v = .slice A n c := by
  rcases h.2 with ⟨rfl, rfl⟩ | ⟨g, cap, cur, rfl, _⟩
  · exact ⟨_, _, rfl⟩
  · exact ⟨_, _, rfl⟩

theorem run_append_gen {P : Program} (w : World) (base : Nat) (t ty e : TypeId) (i : TypeInfo) (z : Value) (size bytes : Nat) (ht : P.underlying t = some (.slice e)) (hi : P.info? e = some i) (hz : i.zero = some z)
    (hsize : i.size = size) (hby : i.bytes = bytes) (hzs : z.cells.size = size) (hsz : 0 < size) (v : Value) (n : Nat) (xs : List Value) (hown : w.ownsRow base e size v n xs)
    (A : Option Addr) (m c : Nat) (news : List Value) (hl : news.length = m * size) (hnews : NewsAt w A m news) (h1 : ∀ u ∈ news, u.oneCell' = true)
    (h63 : n + m ≤ maxLen) (hbytes : (n + m) * bytes ≤ 140737488355328) (hbase : base ≤ w.heap.size) :
    ∃ A' c' w', (Builtin.append_ #[t, t] ty #[v, .slice A m c]).run P w = .ok (.slice A' (n + m) c') w' ∧ Appended base e size A' (n + m) c' (xs ++ news) v.ownBlock w w' := by
  rcases A with _ | ad
  · have hm : m = 0 := by
      rcases Nat.eq_zero_or_pos m with h0 | h0
      · exact h0
      · obtain ⟨ad, h, _⟩ := hnews h0
        cases h
    subst hm
    have hn : news = [] := List.eq_nil_of_length_eq_zero (by simpa using hl)
    subst hn
    have hrun : (Builtin.append_ #[t, t] ty #[v, .slice none 0 c]).run P w = .ok v w := by
      rcases hown.2 with ⟨rfl, rfl⟩ | ⟨g, cap, cur, rfl, _, _, hnc, _⟩
      · simp [Builtin.append_, run_underlying ht, sizeOf, typeInfo, hi, Builtin.lenOf, Builtin.firstCells]
      · simp [Builtin.append_, run_underlying ht, sizeOf, typeInfo, hi, Builtin.lenOf, Builtin.firstCells, hnc, storeCells]
    obtain ⟨A', c', rfl⟩ := own_form hown
    refine ⟨A', c', w, hrun, ?_, World.grownBy.refl w _, .inl rfl⟩
    simpa using hown
  · have hcells : ∀ j u, news[j]? = some u → w.cell? (ad.add j) = some u := by
      intro j u hu
      rcases Nat.eq_zero_or_pos m with h0 | h0
      · subst h0
        have hn : news = [] := List.eq_nil_of_length_eq_zero (by simpa using hl)
        subst hn
        simp at hu
      · obtain ⟨ad', h, hc⟩ := hnews h0
        injection h with h
        subst h
        exact hc j u hu
    obtain ⟨v', w', hrun, h2, h3, _, h5⟩ := run_append_own_at (P := P) w base t ty e i z size bytes ht hi hz hsize hby hzs hsz v n xs hown ad m c news hl hcells h1 h63 hbytes hbase
    obtain ⟨A', c', rfl⟩ := own_form h2
    exact ⟨A', c', w', hrun, h2, h3, h5⟩

theorem wp_append_gen {P : Program} {o : Oper} {a : Act} (w : World) {K : Act → World → Prop} {Q : Exit → Act → World → Prop} (s x : Operand) (t : TypeId)
    (ho : o.op = .call { callee := .builtin .append, args := #[s, x], argTypes := #[t, t] })
    (base : Nat) (e : TypeId) (i : TypeInfo) (z : Value) (size bytes : Nat) (ht : P.underlying t = some (.slice e)) (hi : P.info? e = some i) (hz : i.zero = some z)
    (hsize : i.size = size) (hby : i.bytes = bytes) (hzs : z.cells.size = size) (hsz : 0 < size)
    (v : Value) (n : Nat) (xs : List Value) (hs : a.eval s = v) (hown : w.ownsRow base e size v n xs)
    (A : Option Addr) (m c : Nat) (news : List Value) (hx : a.eval x = .slice A m c) (hl : news.length = m * size) (hnews : NewsAt w A m news) (h1 : ∀ u ∈ news, u.oneCell' = true)
    (h63 : n + m ≤ maxLen) (hbytes : (n + m) * bytes ≤ 140737488355328) (hbase : base ≤ w.heap.size)
    (h : ∀ A' c' w', Appended base e size A' (n + m) c' (xs ++ news) v.ownBlock w w' → K (a.put o.dst (.slice A' (n + m) c')) w') : o.wp P a w K Q := by
  obtain ⟨A', c', w', hrun, h2⟩ := run_append_gen (P := P) w base t o.type e i z size bytes ht hi hz hsize hby hzs hsz v n xs hown A m c news hl hnews h1 h63 hbytes hbase
  unfold Oper.wp execOp
  simp only [ho, resolve, invoke, builtin, Sem.run_bind, Sem.run_pure, Result.andThen_ok, List.map_toArray, List.map_cons, List.map_nil, hs, hx, hrun]
  exact h A' c' w' h2

theorem wpList_append_gen {P : Program} {ops : Array Oper} {rest : List Oper} {o : Oper} {a : Act} (w : World) {Q : Exit → Act → World → Prop} (hgd : o.guard = none) (s x : Operand) (t : TypeId)
    (ho : o.op = .call { callee := .builtin .append, args := #[s, x], argTypes := #[t, t] })
    (base : Nat) (e : TypeId) (i : TypeInfo) (z : Value) (size bytes : Nat) (ht : P.underlying t = some (.slice e)) (hi : P.info? e = some i) (hz : i.zero = some z)
    (hsize : i.size = size) (hby : i.bytes = bytes) (hzs : z.cells.size = size) (hsz : 0 < size)
    (v : Value) (n : Nat) (xs : List Value) (hs : a.eval s = v) (hown : w.ownsRow base e size v n xs)
    (A : Option Addr) (m c : Nat) (news : List Value) (hx : a.eval x = .slice A m c) (hl : news.length = m * size) (hnews : NewsAt w A m news) (h1 : ∀ u ∈ news, u.oneCell' = true)
    (h63 : n + m ≤ maxLen) (hbytes : (n + m) * bytes ≤ 140737488355328) (hbase : base ≤ w.heap.size)
    (h : ∀ A' c' w', Appended base e size A' (n + m) c' (xs ++ news) v.ownBlock w w' → wpList P ops Q rest (a.put o.dst (.slice A' (n + m) c')) w') : wpList P ops Q (o :: rest) a w :=
  wpList_plain hgd fun _ hK => wp_append_gen w s x t ho base e i z size bytes ht hi hz hsize hby hzs hsz v n xs hs hown A m c news hx hl hnews h1 h63 hbytes hbase fun A' c' w' h2 => hK _ _ (h A' c' w' h2)

theorem step_append_gen {P : Program} {ops : Array Oper} {o : Oper} {a : Act} (w : World) {K : Act → World → Prop} {Q : Exit → Act → World → Prop} {E : Prop} (hgd : o.guard = none) (s x : Operand) (t : TypeId)
    (ho : o.op = .call { callee := .builtin .append, args := #[s, x], argTypes := #[t, t] })
    (base : Nat) (e : TypeId) (i : TypeInfo) (z : Value) (size bytes : Nat) (ht : P.underlying t = some (.slice e)) (hi : P.info? e = some i) (hz : i.zero = some z)
    (hsize : i.size = size) (hby : i.bytes = bytes) (hzs : z.cells.size = size) (hsz : 0 < size)
    (v : Value) (n : Nat) (xs : List Value) (hs : a.eval s = v) (hown : w.ownsRow base e size v n xs)
    (A : Option Addr) (m c : Nat) (news : List Value) (hx : a.eval x = .slice A m c) (hl : news.length = m * size) (hnews : NewsAt w A m news) (h1 : ∀ u ∈ news, u.oneCell' = true)
    (h63 : n + m ≤ maxLen) (hbytes : (n + m) * bytes ≤ 140737488355328) (hbase : base ≤ w.heap.size)
    (h : ∀ A' c' w', Appended base e size A' (n + m) c' (xs ++ news) v.ownBlock w w' → K (a.put o.dst (.slice A' (n + m) c')) w') :
    if Region.wanted o (yielded ops a.tmps) = true then Oper.wp P o a w K Q else E := by
  have hw : Region.wanted o (yielded ops a.tmps) = true := by simp [Region.wanted, hgd]
  rw [if_pos hw]
  exact wp_append_gen w s x t ho base e i z size bytes ht hi hz hsize hby hzs hsz v n xs hs hown A m c news hx hl hnews h1 h63 hbytes hbase h

/-- append onto a new empty slice, inside a region that draws its order -/
theorem step_append_new {P : Program} {ops : Array Oper} {o : Oper} {a : Act} (w : World) {K : Act → World → Prop} {Q : Exit → Act → World → Prop} {E : Prop} (hgd : o.guard = none) (s x : Operand) (t : TypeId)
    (ho : o.op = .call { callee := .builtin .append, args := #[s, x], argTypes := #[t, t] })
    (base : Nat) (e : TypeId) (i : TypeInfo) (z : Value) (size bytes : Nat) (ht : P.underlying t = some (.slice e)) (hi : P.info? e = some i) (hz : i.zero = some z)
    (hsize : i.size = size) (hby : i.bytes = bytes) (hzs : z.cells.size = size) (hsz : 0 < size)
    (v : Value) (hs : a.eval s = v) (hown : w.ownsRow base e size v 0 [])
    (A : Option Addr) (m c : Nat) (news : List Value) (hx : a.eval x = .slice A m c) (hl : news.length = m * size) (hnews : NewsAt w A m news) (h1 : ∀ u ∈ news, u.oneCell' = true)
    (h63 : m ≤ maxLen) (hbytes : m * bytes ≤ 140737488355328) (hbase : base ≤ w.heap.size)
    (h : ∀ A' c' w', Appended base e size A' m c' news v.ownBlock w w' → K (a.put o.dst (.slice A' m c')) w') :
    if Region.wanted o (yielded ops a.tmps) = true then Oper.wp P o a w K Q else E := by
  refine step_append_gen w hgd s x t ho base e i z size bytes ht hi hz hsize hby hzs hsz v 0 [] hs hown A m c news hx hl hnews h1 (by omega) (by simpa using hbytes) hbase fun A' c' w' h2 => ?_
  rw [Nat.zero_add] at h2 ⊢
  exact h A' c' w' h2
theorem wpList_append_new {P : Program} {ops : Array Oper} {rest : List Oper} {o : Oper} {a : Act} (w : World) {Q : Exit → Act → World → Prop} (hgd : o.guard = none) (s x : Operand) (t : TypeId)
    (ho : o.op = .call { callee := .builtin .append, args := #[s, x], argTypes := #[t, t] })
    (base : Nat) (e : TypeId) (i : TypeInfo) (z : Value) (size bytes : Nat) (ht : P.underlying t = some (.slice e)) (hi : P.info? e = some i) (hz : i.zero = some z)
    (hsize : i.size = size) (hby : i.bytes = bytes) (hzs : z.cells.size = size) (hsz : 0 < size)
    (v : Value) (hs : a.eval s = v) (hown : w.ownsRow base e size v 0 [])
    (A : Option Addr) (m c : Nat) (news : List Value) (hx : a.eval x = .slice A m c) (hl : news.length = m * size) (hnews : NewsAt w A m news) (h1 : ∀ u ∈ news, u.oneCell' = true)
    (h63 : m ≤ maxLen) (hbytes : m * bytes ≤ 140737488355328) (hbase : base ≤ w.heap.size)
    (h : ∀ A' c' w', Appended base e size A' m c' news v.ownBlock w w' → wpList P ops Q rest (a.put o.dst (.slice A' m c')) w') : wpList P ops Q (o :: rest) a w := by
  refine wpList_append_gen w hgd s x t ho base e i z size bytes ht hi hz hsize hby hzs hsz v 0 [] hs hown A m c news hx hl hnews h1 (by omega) (by simpa using hbytes) hbase fun A' c' w' h2 => ?_
  rw [Nat.zero_add] at h2 ⊢
  exact h A' c' w' h2

/-- a new empty slice owns nothing -/
theorem own_empty (w : World) (base : Nat) (e : TypeId) (size : Nat) (hb : base ≤ w.heap.size) : (w.alloc (.cells #[] e)).ownsRow base e size (.slice (some ⟨w.heap.size, 0, none⟩) 0 0) 0 [] :=
  World.ownsRow_made w #[] 0 hb (Nat.zero_le _) (by simp)

theorem own_drew {w : World} {base : Nat} {e : TypeId} {size : Nat} {v : Value} {n : Nat} {xs : List Value} (h : w.ownsRow base e size v n xs) : w.drew.ownsRow base e size v n xs := h
theorem own_drewN {w : World} {base : Nat} {e : TypeId} {size : Nat} {v : Value} {n : Nat} {xs : List Value} (h : w.ownsRow base e size v n xs) (k : Nat) : (w.drewN k).ownsRow base e size v n xs := h
theorem own_block_lt {w : World} {base : Nat} {e : TypeId} {size : Nat} {v : Value} {n : Nat} {xs : List Value} (h : w.ownsRow base e size v n xs) {g : Nat} (hg : v.ownBlock = some g) : base ≤ g ∧ g < w.heap.size := h.lt g hg

/-- a row of bytes of the call's own, as bytes -/
theorem own_bytes {w : World} {base : Nat} {e : TypeId} {A : Option Addr} {n c : Nat} {l : List Int} (h : w.ownsRow base e 1 (.slice A n c) n (bytesV l)) : BytesAt (fun j => (Value.slice A n c).ownBlock = some j) w A l := fun hl => by
  have hn : l.length = n := by have := h.1; rw [bytesV_length] at this; omega
  rcases h.2 with ⟨_, h0⟩ | ⟨g, cap, cur, hv, _, hg, _, _, _, ht⟩
  · omega
  · obtain ⟨rfl, _⟩ : A = some ⟨g, 0, none⟩ ∧ c = cap := by injection hv with h1 _ h3; exact ⟨h1, h3⟩
    have hlt := (Array.getElem?_eq_some_iff.1 hg).1
    refine ⟨g, 0, rfl, rfl, hlt, fun j hj => ?_⟩
    have := h.cells (g := g) rfl j (.int .u8 (nth l j)) (by rw [nth_get hj]; simp [bytesV, hj])
    rw [← this]
    unfold Addr.add
    split
    · next e => subst e; rfl
    · rfl
theorem own_cap {w : World} {base : Nat} {e : TypeId} {size : Nat} {A : Option Addr} {n c : Nat} {xs : List Value} (h : w.ownsRow base e size (.slice A n c) n xs) : n ≤ c := by
  rcases h.2 with ⟨_, h0⟩ | ⟨g, cap, cur, hv, _, _, hc, _⟩
  · omega
  · injection hv with _ _ h3; omega

/-- bytes to be appended -/
theorem BytesAt.news {S : Nat → Prop} {w : World} {A : Option Addr} {l : List Int} (h : BytesAt S w A l) : NewsAt w A l.length (bytesV l) := fun hp => by
  obtain ⟨b, off, rfl, _, _, hc⟩ := h hp
  refine ⟨_, rfl, fun j u hu => ?_⟩
  obtain ⟨hj, rfl⟩ := bytesV_get hu
  rw [← hc j hj]
  unfold Addr.add
  split
  · next e => subst e; rfl
  · rfl

/-- a block that is known whole, to be appended -/
theorem Blk.news {w : World} {g : Nat} {t : TypeId} {cs : Array Value} (h : Blk w g t cs) (m : Nat) : NewsAt w (some ⟨g, 0, none⟩) m cs.toList := fun _ => ⟨_, rfl, World.news_of_block h⟩

end Go.Proofs.YteljcdlnfjeaaaaDoor
