/- spec.Multi, walked. -/
import Derived.Test.YtmoecjhlonokfaaDoorMultiR
import Derived.Test.YtmoecjhlonokfaaDoorSReads
import Derived.Test.YtmoecjhlonokfaaDoorDraw0
set_option linter.unusedVariables false
set_option linter.unusedSimpArgs false
namespace Go.Proofs.YtmoecjhlonokfaaDoor
open Go.RowKit

theorem infoPS : (Tryd.prog.info? 87).map (fun i => (i.zero, i.size, i.bytes)) = some (some (.pointer none), 1, 8) := by kernel_rfl
theorem elemPS : Tryd.prog.elem 86 = 87 := by kernel_rfl
/-- x[1:] of states -/
theorem slice_states (A : Option Addr) (len cap : Nat) (hn : 1 ≤ len) (hc : len ≤ cap) :
    ∃ A2 : Option Addr, (∀ w, (Instr.slice 86 (.slice A len cap) (some (.int .i64 1)) none none).run Tryd.prog w = .ok (.slice A2 (len - 1) (cap - 1)) w) ∧ (1 < cap → A2 = A.map (·.add 1)) := by
  obtain ⟨i0, hi, _, hs, _⟩ := info_parts infoPS
  obtain ⟨A2, h1, h2⟩ := slice_from (P := Tryd.prog) 86 (by rw [elemPS]; exact Tryd.underlying86) i0 1 (by rw [elemPS]; exact hi) hs A len cap 1 hn hc
  exact ⟨A2, h1, fun h => by rw [h2 h]⟩

/-- a state by its pointer -/
def spV (b : Nat) : Value := .pointer (some ⟨b, 0, none⟩)

/-- the states of several sources: their blocks -/
def Sps (z : Nat) (w : World) : List Nat → List (Int × List (List Int × Int)) → Prop
  | [], [] => True
  | b :: bs, t :: ts => SpAt (· < z) w b t.2 t.1 ∧ z ≤ b ∧ (∀ x ∈ bs, x ≠ b) ∧ Sps z w bs ts
  | _, _ => False

theorem Sps.length {z : Nat} {w : World} : ∀ {bs : List Nat} {ts : List (Int × List (List Int × Int))}, Sps z w bs ts → bs.length = ts.length
  | [], [], _ => rfl
  | _ :: _, _ :: _, ⟨_, _, _, h⟩ => by simp [h.length]
theorem Sps.kept {z : Nat} {w w' : World} {D : Nat → Prop} (hk : Kept D w w') (hz : ∀ j, j < z → ¬ D j) : ∀ {bs : List Nat} {ts : List (Int × List (List Int × Int))}, Sps z w bs ts → (∀ b ∈ bs, ¬ D b) → Sps z w' bs ts
  | [], [], _, _ => trivial
  | b :: bs, t :: ts, ⟨h1, h2, h3, h4⟩, hd => ⟨h1.kept hk fun j _ hj => by
      rcases hj with h | rfl
      · exact hz j h
      · exact hd j List.mem_cons_self, h2, h3, h4.kept hk hz fun x hx => hd x (List.mem_cons_of_mem _ hx)⟩
theorem Sps.lo {z : Nat} {w : World} : ∀ {bs : List Nat} {ts : List (Int × List (List Int × Int))}, Sps z w bs ts → ∀ b ∈ bs, z ≤ b ∧ b < w.heap.size
  | [], [], _, x, hx => by cases hx
  | b :: bs, t :: ts, ⟨h1, h2, h3, h4⟩, x, hx => by
    rcases List.mem_cons.1 hx with rfl | hx
    · exact ⟨h2, h1.lt⟩
    · exact h4.lo x hx
theorem Sps.snoc {z : Nat} {w : World} {b : Nat} {t : Int × List (List Int × Int)} (h1 : SpAt (· < z) w b t.2 t.1) (h2 : z ≤ b) : ∀ {bs : List Nat} {ts : List (Int × List (List Int × Int))}, Sps z w bs ts → (∀ x ∈ bs, x ≠ b) → Sps z w (bs ++ [b]) (ts ++ [t])
  | [], [], _, _ => ⟨h1, h2, (fun _ h => by cases h), trivial⟩
  | c :: bs, u :: ts, ⟨g1, g2, g3, g4⟩, hd => ⟨g1, g2, fun x hx => by
      rcases List.mem_append.1 hx with h | h
      · exact g3 x h
      · rw [List.mem_singleton.1 h]; exact (hd c List.mem_cons_self).symm, g4.snoc h1 h2 fun x hx => hd x (List.mem_cons_of_mem _ hx)⟩

/-- the states so far, and the row of them -/
structure SMI (w : World) (bs : List Nat) (ts : List (Int × List (List Int × Int))) (k : Nat) (A' : Option Addr) (c' : Nat) (wr : World) : Prop where
  len : bs.length = k
  row : wr.ownsRow w.heap.size 87 1 (.slice A' k c') k (bs.map spV)
  sp : Sps w.heap.size wr bs ts
  rx : ∀ j, (Value.slice A' k c').ownBlock = some j → ∀ x ∈ bs, x ≠ j
  bl : Below w.heap.size w wr
  sz : w.heap.size < wr.heap.size

theorem smi_next {w wr w3 : World} {bs : List Nat} {ts : List (Int × List (List Int × Int))} {k : Nat} {A' A2 Ai : Option Addr} {c' c2 ci : Nat} {o3 : Obj} {st : List (List Int × Int)} (h : SMI w bs ts k A' c' wr)
    (hr : RecsAt (· < w.heap.size) wr Ai st) (hn : st.length ≤ 281474976710656) (hd : ∀ i, i < st.length → (dat st i).length ≤ 140737488355328)
    (hap : Appended w.heap.size 87 1 A2 (k + 1) c2 (bs.map spV ++ [.pointer (some ⟨wr.heap.size, 0, none⟩)]) (Value.slice A' k c').ownBlock ((wr.alloc (.cells #[.slice Ai st.length ci, .int .i64 0, .int .i64 0] 89)).alloc o3) w3) :
    SMI w (bs ++ [wr.heap.size]) (ts ++ [(lastErr st, st)]) (k + 1) A2 c2 w3 := by
  have hbz := h.bl.size
  have z3 := hap.sizeLe
  simp at z3
  have hlo : ∀ j, (Value.slice A' k c').ownBlock = some j → w.heap.size ≤ j ∧ j < wr.heap.size := fun j e => own_block_lt h.row e
  have K1 : Kept (fun _ => False) wr (wr.alloc (.cells #[.slice Ai st.length ci, .int .i64 0, .int .i64 0] 89)) := (Kept.refl _ _).alloc _
  have K3 : Kept (fun j => some j = (Value.slice A' k c').ownBlock) (wr.alloc (.cells #[.slice Ai st.length ci, .int .i64 0, .int .i64 0] 89)) w3 := ((Kept.refl _ _).alloc o3).trans hap.kept fun _ _ e => e
  have hA2 : ∀ j, (Value.slice A2 (k + 1) c2).ownBlock = some j → (Value.slice A' k c').ownBlock = some j ∨ wr.heap.size + 2 ≤ j := fun j e => by
    rcases hap.2.2 with h' | h'
    · exact .inl (by rw [← h', e])
    · rw [e] at h'; injection h' with h'; simp at h'; exact .inr (by omega)
  have hnew := sp_new (c := ci) hr (fun j hj => by omega) hn hd
  have hbl := fun x hx => h.sp.lo x hx
  refine ⟨by simp [h.len], by simpa [spV] using hap.own, (Sps.snoc (t := (lastErr st, st)) hnew (by omega) (h.sp.kept K1 (fun _ _ hf => hf) fun _ _ hf => hf) fun x hx e => ?_).kept K3 (fun j hj e => ?_) (fun x hx e => ?_), fun j e x hx hxj => ?_, ?_, by omega⟩
  · have := (hbl x hx).2; omega
  · have := (hlo j e.symm).1; omega
  · rcases List.mem_append.1 hx with hx | hx
    · exact h.rx x e.symm x hx rfl
    · rw [List.mem_singleton.1 hx] at e
      have := (hlo _ e.symm).2
      omega
  · subst hxj
    rcases hA2 x e with h' | h'
    · rcases List.mem_append.1 hx with hx | hx
      · exact h.rx x h' x hx rfl
      · have := List.mem_singleton.1 hx
        have := (hlo x h').2
        omega
    · rcases List.mem_append.1 hx with hx | hx
      · have := (hbl x hx).2; omega
      · have := List.mem_singleton.1 hx; omega
  · refine h.bl.trans ((K1.below hbz fun _ _ hf => hf).trans (K3.below (by simp; omega) fun j hj e => ?_))
    have := (hlo j e.symm).1
    omega

/-- the states that are left: bs, their row from off on in block gb -/
structure MS (w : World) (gb : Nat) (bs : List Nat) (ts : List (Int × List (List Int × Int))) (Ap : Option Addr) (cp : Nat) (wr : World) : Prop where
  sp : Sps w.heap.size wr bs ts
  cell : ∃ off, (0 < ts.length → Ap = some ⟨gb, off, none⟩ ∧ gb < wr.heap.size ∧ w.heap.size ≤ gb) ∧ ∀ i x, bs[i]? = some x → wr.cell? ⟨gb, off + i, none⟩ = some (spV x)
  ng : ∀ x ∈ bs, x ≠ gb
  cap : ts.length ≤ cp

theorem MS.kept {w : World} {gb : Nat} {bs : List Nat} {ts : List (Int × List (List Int × Int))} {Ap : Option Addr} {cp : Nat} {wr wr' : World} {D : Nat → Prop} (h : MS w gb bs ts Ap cp wr) (hk : Kept D wr wr') (hz : ∀ j, j < w.heap.size → ¬ D j) (hg : ¬ D gb) (hb : ∀ x ∈ bs, ¬ D x) : MS w gb bs ts Ap cp wr' := by
  obtain ⟨off, h1, h2⟩ := h.cell
  have hl := h.sp.length
  refine ⟨h.sp.kept hk hz hb, ⟨off, fun h0 => ⟨(h1 h0).1, Nat.lt_of_lt_of_le (h1 h0).2.1 hk.size, (h1 h0).2.2⟩, fun i x hx => ?_⟩, h.ng, h.cap⟩
  have hi := (List.getElem?_eq_some_iff.1 hx).1
  rw [hk.cell (h1 (by omega)).2.1 hg]
  exact h2 i x hx

/-- the first state, and what is left behind a read of it -/
theorem MS.head {w : World} {gb : Nat} {bs : List Nat} {L : Int} {st : List (List Int × Int)} {r : List (Int × List (List Int × Int))} {Ap : Option Addr} {cp : Nat} {wr : World} (h : MS w gb bs ((L, st) :: r) Ap cp wr) :
    ∃ b bs' off, bs = b :: bs' ∧ Ap = some ⟨gb, off, none⟩ ∧ wr.cell? ⟨gb, off, none⟩ = some (.pointer (some ⟨b, 0, none⟩)) ∧ SpAt (· < w.heap.size) wr b st L ∧ r.length + 1 ≤ cp ∧ gb < wr.heap.size ∧ w.heap.size ≤ gb ∧ w.heap.size ≤ b ∧
    ∀ (w1 : World) (st1 : List (List Int × Int)), SpAt (· < w.heap.size) w1 b st1 L → Kept (· = b) wr w1 → MS w gb (b :: bs') ((L, st1) :: r) (some ⟨gb, off, none⟩) cp w1 ∧ ∀ A2, (1 < cp → A2 = some ⟨gb, off + 1, none⟩) → MS w gb bs' r A2 (cp - 1) w1 := by
  obtain ⟨hs, ⟨off, h1, h2⟩, ng, hc⟩ := h
  cases bs with
  | nil => cases hs
  | cons b bs' =>
    obtain ⟨g1, g2, g3, g4⟩ := hs
    obtain ⟨rfl, q2, q3⟩ := h1 (by simp)
    refine ⟨b, bs', off, rfl, rfl, by simpa [spV] using h2 0 b rfl, g1, by simpa using hc, q2, q3, g2, fun w1 st1 hs1 hk => ?_⟩
    have hng : gb ≠ b := (ng b List.mem_cons_self).symm
    have hcell : ∀ i x, (b :: bs')[i]? = some x → w1.cell? ⟨gb, off + i, none⟩ = some (spV x) := fun i x hx => by
      rw [hk.cell (p := ⟨gb, off + i, none⟩) q2 hng]
      exact h2 i x hx
    have hsp' : Sps w.heap.size w1 bs' r := g4.kept hk (fun j hj e => by omega) fun x hx e => g3 x hx e
    have hz := hk.size
    refine ⟨⟨⟨hs1, g2, g3, hsp'⟩, ⟨off, fun _ => ⟨rfl, by omega, q3⟩, hcell⟩, ng, by simpa using hc⟩, fun A2 hA2 => ⟨hsp', ⟨off + 1, fun h0 => ⟨hA2 (by simp at hc; omega), by omega, q3⟩, fun i x hx => ?_⟩, fun x hx => ng x (List.mem_cons_of_mem _ hx), by simp at hc; omega⟩⟩
    have := hcell (i + 1) x (by simpa using hx)
    rw [show off + 1 + i = off + (i + 1) by omega]
    exact this

/-- the states as made -/
theorem smi_ms {w wr : World} {bs : List Nat} {ts : List (Int × List (List Int × Int))} {k : Nat} {A' : Option Addr} {c' : Nat} (h : SMI w bs ts k A' c' wr) : ∃ gb, MS w gb bs ts A' c' wr ∧ gb < wr.heap.size := by
  have hl := h.sp.length
  have hsz := h.sz
  have hk := h.len
  by_cases h0 : 0 < k
  · obtain ⟨gb, e1, e2, e3, e4, e5⟩ := own_cell h.row h0
    refine ⟨gb, ⟨h.sp, ⟨0, fun _ => ⟨e1, e3, e2⟩, fun i x hx => ?_⟩, fun x hx => h.rx gb e4 x hx, by have := own_cap h.row; omega⟩, by omega⟩
    have hi := (List.getElem?_eq_some_iff.1 hx).1
    rw [Nat.zero_add, e5 i (by omega)]
    simp [hx]
  · obtain rfl : bs = [] := List.eq_nil_of_length_eq_zero (by omega)
    exact ⟨0, ⟨h.sp, ⟨0, fun h1 => by simp at hl; omega, fun i x hx => by simp at hx⟩, (fun _ h => by cases h), by simp at hl; omega⟩, by omega⟩

/-- what holds at the head of a round -/
structure SM2 (w : World) (base gb : Nat) (bs : List Nat) (ts : List (Int × List (List Int × Int))) (Ap : Option Addr) (cp k : Nat) (A' : Option Addr) (c' : Nat) (done : List (List Int × Int)) (wr : World) : Prop where
  ms : MS w gb bs ts Ap cp wr
  lt : ∀ x ∈ bs, x < base
  gl : gb < base
  wb : w.heap.size ≤ base
  row : ∃ xs, OutAt base wr A' k c' done xs
  bl : Below w.heap.size w wr
  bs : base ≤ wr.heap.size

/-- what holds inside, at the head of a look at the next state; wi: at the round's head -/
structure SM3 (w wr : World) (gb q : Nat) (bs0 bs : List Nat) (ts : List (Int × List (List Int × Int))) (Ap : Option Addr) (cp : Nat) (wi : World) : Prop where
  ms : MS w gb bs ts Ap cp wi
  sub : ∀ x ∈ bs, x ∈ bs0
  kp : Kept (fun j => j ∈ bs0) wr wi
  qw : wr.heap.size ≤ q

/-- the answer is laid down -/
theorem sm_next {w wr w1 w2 w3 : World} {base gb q : Nat} {bs0 bs2 : List Nat} {ts0 ts2 : List (Int × List (List Int × Int))} {Ap0 Ap2 : Option Addr} {cp0 cp2 k : Nat} {A' A2 Ad : Option Addr} {c' c2 cd : Nat} {done : List (List Int × Int)} {xs : List Value} {d : List Int} {x : Int} {o : Obj}
    (h : SM2 w base gb bs0 ts0 Ap0 cp0 k A' c' done wr) (hx : OutAt base wr A' k c' done xs) (hqw : wr.heap.size ≤ q) (hsub : ∀ y ∈ bs2, y ∈ bs0) (ms2 : MS w gb bs2 ts2 Ap2 cp2 w1) (hk1 : Kept (fun j => j ∈ bs0) wr w1) (hcd : d.length ≤ cd) (hby : BytesAt (fun j => wr.heap.size ≤ j ∧ j ≠ q) w1 Ad d) (hk2 : Kept (· = q) w1 w2)
    (hap : Appended base 56 2 A2 (k + 1) c2 (xs ++ [.slice Ad d.length cd, .int .i64 x]) (Value.slice A' k c').ownBlock (w2.alloc o) w3) : SM2 w base gb bs2 ts2 Ap2 cp2 (k + 1) A2 c2 (done ++ [(d, x)]) w3 := by
  have hlo : ∀ j, (Value.slice A' k c').ownBlock = some j → base ≤ j ∧ j < wr.heap.size := fun j e => own_block_lt hx.own e
  have z1 := hk1.size
  have z2 := hk2.size
  have zn := hap.sizeLe
  simp at zn
  have hbs := h.bs
  have hbw := h.bl.size
  have hwb := h.wb
  have K12 : Kept (fun j => j ∈ bs0) wr w2 := hk1.trans hk2 fun j hj e => by omega
  have hO1 : OutAt base w2 A' k c' done xs := hx.kept K12 fun j hj _ e => by have := h.lt j e; omega
  have ms3 : MS w gb bs2 ts2 Ap2 cp2 w3 := by
    have m1 := ms2.kept hk2 (fun j hj e => by omega) (fun e => by have := h.gl; omega) fun y hy e => by have := h.lt y (hsub y hy); omega
    refine (m1.kept ((Kept.refl (fun _ => False) _).alloc o) (fun _ _ hf => hf) (fun hf => hf) fun _ _ hf => hf).kept hap.kept (fun j hj e => ?_) (fun e => ?_) fun y hy e => ?_
    · have h1 := (hlo j e.symm).1
      omega
    · have := (hlo gb e.symm).1; have := h.gl; omega
    · have := (hlo y e.symm).1; have := h.lt y (hsub y hy); omega
  have hby' : BytesAt (fun j => base ≤ j ∧ some j ≠ (Value.slice A' k c').ownBlock) w2 Ad d := (hby.kept hk2 fun j _ hj e => hj.2 e).mono fun j _ hj => ⟨by omega, fun e => by have := (hlo j e.symm).2; omega⟩
  refine ⟨ms3, fun y hy => h.lt y (hsub y hy), h.gl, hwb, ⟨_, OutAt.snoc hO1 hap hcd hby'⟩, ?_, by omega⟩
  exact ((h.bl.trans (K12.below hbw fun j hj e => by have := (h.ms.sp.lo j e).1; omega)).alloc (by omega) _).grown hap.grown (by simp; omega) fun j e => by have := (hlo j e).1; omega

set_option maxHeartbeats 8000000 in
set_option maxRecDepth 100000 in
theorem specMulti_any {S0 S1 : Nat → Prop} {w : World} {A A1 : Option Addr} {ss : List (List (List Int × Int))} {zs : List Int} (c c1 : Nat) (h : ElsAt ElS 1 S0 w A ss) (hn : ss.length ≤ 1048576) (hok : SrcsOK ss) (hva : ValidAll (srcs ss)) (hz : IntsAt S1 w A1 zs) (hzs : SizesOK zs) (hzn : zs.length ≤ 1048576) :
    Calls Tryd.prog 23 #[.slice A ss.length c, .slice A1 zs.length c1] w (GotsPost (runs multiStep zs (srcs ss)).1 w) := by
  obtain ⟨i1, hi1, hy0, hy1, hy2⟩ := info_parts infoPS
  obtain ⟨i2, hi2, hx0, hx1, hx2⟩ := info_parts infoGot
  have HZ := Lib.hid (h.mono mvS (S' := (· < w.heap.size)) fun k hk _ => hk)
  have HI := Lib.hid (hz.mono (S' := (· < w.heap.size)) fun k hk _ => hk)
  have HOK := Lib.hid hok
  have HVA := Lib.hid hva
  have HZS := Lib.hid hzs
  clear h hok hva hz hzs
  generalize hlen : ss.length = n at *
  have HL := Lib.hid hlen
  clear hlen
  generalize hlen : zs.length = len at *
  have HLZ := Lib.hid hlen
  clear hlen
  have HI0 : Hid (SMI w [] [] 0 (some ⟨w.heap.size, 0, none⟩) 0 (w.alloc (.cells #[] 87))) := Lib.hid ⟨rfl, own_empty w w.heap.size 87 1 (Nat.le_refl _), trivial, fun _ _ _ hx => by (cases hx), (Below.refl _ _).alloc (Nat.le_refl _) _, by simp⟩
  generalize hQ : (runs multiStep zs (srcs ss)).1 = Q
  have HQ := Lib.hid hQ
  clear hQ
  go_enter Tryd.func23, Tryd.ntmps23
  go_wp2_with fail
  go_loopg [5, 6] n (fun f v i wr => ∃ (k : Nat) (A' : Option Addr) (c' : Nat), k ≤ n ∧ f = n - k ∧ i = .int .i64 k ∧ v = .slice A' k c' ∧ ∃ bs, Hid (SMI w bs (srcs (ss.take k)) k A' c' wr))
  case atStart => exact ⟨0, _, 0, Nat.zero_le _, by omega, rfl, rfl, [], by simpa [srcs] using HI0⟩
  case round =>
    obtain ⟨k, A', c', hk, rfl, rfl, rfl, bs, HM⟩ := hrel
    have hszr := HM.out.bl.size
    by_cases hlt : k < n
    · have hkl : k < ss.length := by rw [HL.out]; exact hlt
      obtain ⟨ab, aoff, rfl, _, hab, hcs⟩ := (HZ.out.below mvS HM.out.bl).srcAt (by omega)
      obtain ⟨Ai, ci, g1, hci, hrec⟩ := hcs k hkl
      have hmem : ss.getD k [] ∈ ss := by rw [List.getD_eq_getElem?_getD, List.getElem?_eq_getElem hkl]; exact List.getElem_mem _
      have htk : srcs (ss.take (k + 1)) = srcs (ss.take k) ++ [(lastErr (ss.getD k []), ss.getD k [])] := by
        unfold srcs
        rw [List.take_succ_eq_append_getElem hkl, List.map_append]
        simp [hkl]
      obtain ⟨q1, q2⟩ := HOK.out _ hmem
      clear hcs hmem
      generalize ss.getD k [] = st at *
      have HTK := Lib.hid htk
      have HREC := Lib.hid hrec
      have HQ2 := Lib.hid q2
      clear htk hrec q2
      go_wp2_with (at_builtin; refine wpList_append_gen _ rfl (.tmp 17) (.tmp 24) 86 rfl w.heap.size 87 i1 _ 1 8 Tryd.underlying86 hi1 hy0 hy1 hy2 rfl (by omega) _ k _ rfl ((HM.out.row.alloc _).alloc _) (some ⟨wr.heap.size + 1, 0, none⟩) 1 1 [.pointer (some ⟨wr.heap.size, 0, none⟩)] rfl (by rfl) ((blk_new2 wr _ 87 #[.pointer (some ⟨wr.heap.size, 0, none⟩)] rfl).news 1) (by simp [Value.oneCell']) (by unfold maxLen; omega) (by omega) (by simp; omega) ?_)
      intro A2 c2 w3 hap
      have HM2 := Lib.hid (smi_next HM.out HREC.out (by omega) (fun i hi => by have := HQ2.out i hi; omega) hap)
      rw [← HTK.out] at HM2
      clear hap HM
      go_wp2_with fail
      go_roundg (n - (k + 1))
      case measure => omega
      case rel => exact ⟨k + 1, A2, c2, by omega, rfl, by go_num, rfl, bs ++ [wr.heap.size], HM2⟩
    · have hkn : k = n := by omega
      subst hkn
      have htk : ss.take k = ss := List.take_of_length_le (by rw [HL.out]; exact Nat.le_refl _)
      rw [htk] at HM
      obtain ⟨gb, hms, hgb⟩ := smi_ms HM.out
      have htl : (srcs ss).length = k := by unfold srcs; rw [List.length_map, HL.out]
      obtain ⟨wb, hwb⟩ : ∃ wb, wb = wr := ⟨_, rfl⟩
      subst hwb
      obtain ⟨base, hbase⟩ : ∃ base, base = wb.heap.size := ⟨_, rfl⟩
      have HS0 : Hid (SM2 w base gb bs (srcs ss) A' c' 0 (some ⟨wb.heap.size, 0, none⟩) 0 [] (wb.alloc (.cells #[] 56))) := Lib.hid (by
        rw [hbase]
        exact ⟨hms.kept ((Kept.refl (fun _ => False) _).alloc _) (fun _ _ hf => hf) (fun hf => hf) (fun _ _ hf => hf), fun x hx => (HM.out.sp.lo x hx).2, hgb, hszr, ⟨[], OutAt.empty wb wb.heap.size (Nat.le_refl _)⟩, HM.out.bl.alloc hszr _, by simp⟩)
      clear hbase
      have HVA0 : Hid (ValidAll (srcs ss)) := HVA
      have HF0 : Hid (Q = [] ++ (runs multiStep (zs.drop 0) (srcs ss)).1) := Lib.hid (by rw [← HQ.out]; simp)
      have HTL := Lib.hid htl
      clear hms hgb htk htl HM HQ HI0 HZ
      generalize srcs ss = ts0 at *
      go_wp2_with fail
      go_loopg [5, 7, 8] len (fun f v5 v i wr => ∃ (k : Nat) (A' : Option Addr) (c' : Nat) (done : List (List Int × Int)) (bs : List Nat) (ts : List (Int × List (List Int × Int))) (Ap : Option Addr) (cp : Nat), k ≤ len ∧ f = len - k ∧ i = .int .i64 k ∧ v = .slice A' k c' ∧ v5 = .slice Ap ts.length cp ∧ Hid (SM2 w base gb bs ts Ap cp k A' c' done wr) ∧ Hid (Q = done ++ (runs multiStep (zs.drop k) ts).1) ∧ Hid (ValidAll ts))
      case atStart => exact ⟨0, _, 0, [], bs, ts0, A', c', Nat.zero_le _, by omega, rfl, rfl, by rw [HTL.out], HS0, HF0, HVA0⟩
      case round =>
        clear HS0 HF0 HVA0 HTL
        obtain ⟨k, A', c', done, bs, ts, Ap, cp, hk, rfl, rfl, rfl, rfl, HS, HF, HV⟩ := hrel
        have hszr := HS.out.bl.size
        obtain ⟨wo, hwo⟩ : ∃ wo, wo = wr := ⟨_, rfl⟩
        subst hwo
        obtain ⟨xs, hrow⟩ := HS.out.row
        have HOX := Lib.hid hrow
        have hbso := HS.out.bs
        clear hrow
        by_cases hlt : k < len
        · obtain ⟨ab, aoff, rfl, habw, hab, hcs⟩ := HI.out (by rw [HLZ.out]; omega)
          have g2 := (HS.out.bl.cell (p := ⟨ab, aoff + k, none⟩) hab).trans (hcs k (by rw [HLZ.out]; omega))
          have hzk := HZS.out.1 k (by rw [HLZ.out]; omega)
          rw [nth_def] at hzk
          have hdrop : zs.drop k = nth zs k :: zs.drop (k + 1) := by
            rw [List.drop_eq_getElem_cons (by rw [HLZ.out]; exact hlt), nth_get (by rw [HLZ.out]; exact hlt)]
          have HDR := Lib.hid hdrop
          clear hcs hdrop
          generalize hzz : nth zs k = z at *
          obtain ⟨zn, rfl⟩ : ∃ zn : Nat, z = (zn : Int) := ⟨z.toNat, by omega⟩
          clear hzz
          have hz1 : zn ≤ 1048576 := by omega
          have hnext : runs multiStep (zs.drop k) ts = ((multiStep ts zn).1 :: (runs multiStep (zs.drop (k + 1)) (multiStep ts zn).2).1, (runs multiStep (zs.drop (k + 1)) (multiStep ts zn).2).2) := by rw [HDR.out, runs, Int.toNat_natCast]
          have HNX := Lib.hid hnext
          have G2 := Lib.hid g2
          have hqk : Kept (fun j => j ∈ bs) wo ((wo.alloc (.cells #[] 5)).alloc (.cells #[.slice (some ⟨wo.heap.size, 0, none⟩) 0 0, .int .i64 1] 56)) := ((Kept.refl _ _).alloc _).alloc _
          have H30 : Hid (SM3 w wo gb (wo.heap.size + 1) bs bs ts Ap cp ((wo.alloc (.cells #[] 5)).alloc (.cells #[.slice (some ⟨wo.heap.size, 0, none⟩) 0 0, .int .i64 1] 56))) := Lib.hid ⟨HS.out.ms.kept (((Kept.refl (fun _ => False) _).alloc _).alloc _) (fun _ _ hf => hf) (fun hf => hf) (fun _ _ hf => hf), fun _ h => h, hqk, by omega⟩
          have HB0 : Hid (Blk ((wo.alloc (.cells #[] 5)).alloc (.cells #[.slice (some ⟨wo.heap.size, 0, none⟩) 0 0, .int .i64 1] 56)) (wo.heap.size + 1) 56 #[.slice (some ⟨wo.heap.size, 0, none⟩) 0 0, .int .i64 1]) := Lib.hid (blk_new2 wo _ _ _ rfl)
          clear hnext hqk g2
          go_wp2_with fail
          go_loopg [5] ts.length (fun f v wi => ∃ (bs1 : List Nat) (ts1 : List (Int × List (List Int × Int))) (Ap1 : Option Addr) (cp1 : Nat) (Ad : Option Addr) (cd : Nat), f = ts1.length ∧ v = .slice Ap1 ts1.length cp1 ∧ Hid (SM3 w wo gb (wo.heap.size + 1) bs bs1 ts1 Ap1 cp1 wi) ∧ Hid (multiStep ts zn = multiStep ts1 zn) ∧ Hid (Blk wi (wo.heap.size + 1) 56 #[.slice Ad 0 cd, .int .i64 1]) ∧ Hid (ValidAll ts1))
          case atStart => exact ⟨bs, ts, Ap, cp, _, 0, rfl, rfl, H30, Lib.hid rfl, HB0, HV⟩
          case round =>
            clear H30 HB0
            obtain ⟨bs1, ts1, Ap1, cp1, Ad, cd, rfl, rfl, H3, HMS, HB, HV1⟩ := hrel
            have hkw := H3.out.kp.size
            have HOW : Hid (OutAt base wr A' k c' done xs) := Lib.hid (HOX.out.kept H3.out.kp fun j hj _ e => by have := HS.out.lt j e; omega)
            have hbq := HB.out.lt
            have y0 := HB.out.cell 0
            have y1 := HB.out.cell 1
            simp at y0 y1
            cases ts1 with
            | nil =>
              have HN : Hid (∀ (A2 : Option Addr) (c2 : Nat) (w3 : World) (o : Obj), Appended base 56 2 A2 (k + 1) c2 (xs ++ [.slice Ad 0 cd, .int .i64 1]) (Value.slice A' k c').ownBlock (wr.alloc o) w3 → SM2 w base gb bs1 [] Ap1 cp1 (k + 1) A2 c2 (done ++ [([], 1)]) w3) := Lib.hid fun A2 c2 w3 o hap =>
                sm_next (w1 := wr) (w2 := wr) (d := []) HS.out HOX.out H3.out.qw H3.out.sub H3.out.ms H3.out.kp (Nat.zero_le _) (BytesAt.nil _ _ _) (Kept.refl _ _) hap
              have HFN : Hid (Q = (done ++ [([], 1)]) ++ (runs multiStep (zs.drop (k + 1)) []).1) := Lib.hid (by
                rw [HF.out, HNX.out, HMS.out, List.append_assoc]
                rfl)
              clear H3 HMS HB HNX HF HS HOX
              go_wp2_with (at_builtin; refine wpList_append_gen _ rfl (.tmp 69) (.tmp 71) 45 rfl base 56 i2 _ 2 32 Tryd.underlying45 hi2 hx0 hx1 hx2 rfl (by omega) _ k xs rfl (HOW.out.own.alloc _) (some ⟨wr.heap.size, 0, none⟩) 1 1 [.slice Ad 0 cd, .int .i64 1] rfl (by rfl) ((Blk.new wr 56 #[.slice Ad 0 cd, .int .i64 1]).news 1) (by simp [Value.oneCell']) (by unfold maxLen; omega) (by omega) (by simp; omega) ?_)
              intro A2 c2 w3 hap
              have HSN := Lib.hid (HN.out A2 c2 w3 _ hap)
              clear hap HN
              go_wp2_with fail
              go_roundg (len - (k + 1))
              case measure => omega
              case rel => exact ⟨k + 1, A2, c2, done ++ [([], 1)], bs1, [], Ap1, cp1, by omega, rfl, by go_num, rfl, rfl, HSN, HFN, HV1⟩
            | cons t r =>
              obtain ⟨L, st⟩ := t
              obtain ⟨b, bs2, off, hbe, rfl, z0, hsp, hcap, hgl, hwg, hwbb, hnx⟩ := H3.out.ms.head
              obtain ⟨As, hsl, hAs⟩ := slice_states (some ⟨gb, off, none⟩) (r.length + 1) cp1 (by omega) hcap
              have hAs' : 1 < cp1 → As = some ⟨gb, off + 1, none⟩ := fun h => by rw [hAs h]; simp [Addr.add_lit]
              have C := sp_read (w := wr.drew) zn (hsp.kept ((Kept.refl (fun _ => False) wr).drew) fun _ _ _ hf => hf)
              have hval := HV1.out.head
              simp only at hval
              have herr := hval.err zn
              have hms := HMS.out
              conv at hms => rhs; unfold multiStep
              have hv2 := hval.rd zn
              generalize rd L st zn = R at *
              obtain ⟨⟨d, x⟩, st1⟩ := R
              simp only at C hms herr hv2
              have g2 : wr.cell? ⟨ab, aoff + k, none⟩ = some (.int .i64 (zn : Int)) := (H3.out.kp.cell (p := ⟨ab, aoff + k, none⟩) (Nat.lt_of_lt_of_le hab hszr) (fun hm => absurd (HS.out.ms.sp.lo ab hm).1 (Nat.not_le.2 hab))).trans G2.out
              have f0 := HB.out.frozen 0
              have f1 := HB.out.frozen 1
              have HQB : Hid (¬ wo.heap.size + 1 = b) := Lib.hid (by have := HS.out.lt b (H3.out.sub b (by rw [hbe]; exact List.mem_cons_self)); omega)
              have C' := Lib.hid C
              have HHX := Lib.hid hnx
              have HMM := Lib.hid hms
              have HV2 := Lib.hid hv2
              have HAS := Lib.hid hAs'
              have HBE := Lib.hid hbe
              clear C hnx hsp hval hms hv2 hAs hAs' hbe
              go_wp2_with fail
              go_region_with (go_at_call 38; refine C'.out.mono ?_; rintro e w1 ⟨Ad1, cd1, rfl, hcd1, hbd1, hsp1, hk1⟩; have hB1 := (Blk.drew HB.out).kept hk1 HQB.out; have y2 := hB1.cell 0; have y3 := hB1.cell 1; have f2 := hB1.frozen 0; have f3 := hB1.frozen 1; have HB1 := Lib.hid hB1; have HBD1 := Lib.hid hbd1; have HSP1 := Lib.hid hsp1; have HK1 := Lib.hid hk1; clear hB1 hbd1 hsp1 hk1; simp at y2 y3)
              all_goals (
                have HK2 : Hid (Kept (· = wo.heap.size + 1) w1 ((w1.setCell ⟨wo.heap.size + 1, 0, none⟩ (.slice Ad1 d.length cd1)).setCell ⟨wo.heap.size + 1, 1, none⟩ (.int .i64 x))) := Lib.hid (((Kept.refl (fun x => x = wo.heap.size + 1) w1).setCell (p := ⟨wo.heap.size + 1, 0, none⟩) (fun _ => rfl) _).setCell (p := ⟨wo.heap.size + 1, 1, none⟩) (fun _ => rfl) _)
                have HB2 : Hid (Blk ((w1.setCell ⟨wo.heap.size + 1, 0, none⟩ (.slice Ad1 d.length cd1)).setCell ⟨wo.heap.size + 1, 1, none⟩ (.int .i64 x)) (wo.heap.size + 1) 56 #[.slice Ad1 d.length cd1, .int .i64 x]) := Lib.hid (by simpa using (HB1.out.put 0 (.slice Ad1 d.length cd1)).put 1 (.int .i64 x))
                generalize ((w1.setCell ⟨wo.heap.size + 1, 0, none⟩ (.slice Ad1 d.length cd1)).setCell ⟨wo.heap.size + 1, 1, none⟩ (.int .i64 x)) = w2 at *
                clear y0 y1 f0 f1 y2 y3 f2 f3 HB1 HB z0 g2
                have u0 := HB2.out.cell 0
                have u1 := HB2.out.cell 1
                have v1 := HB2.out.frozen 1
                simp at u0 u1
                have hz1 : wr.heap.size ≤ w1.heap.size := HK1.out.size
                have hz2 := HK2.out.size
                have hbm : b ∈ bs := H3.out.sub b (by rw [HBE.out]; exact List.mem_cons_self)
                have K1 : Kept (fun j => j ∈ bs) wo w1 := H3.out.kp.drew.trans HK1.out fun j _ e => by rw [e]; exact hbm
                have HN := Lib.hid fun (bs' : List Nat) (ts' : List (Int × List (List Int × Int))) (Ap' : Option Addr) (cp' : Nat) (w2' : World) (x' : Int) (g1 : ∀ y ∈ bs', y ∈ bs) (g2 : MS w gb bs' ts' Ap' cp' w1) (g3 : Kept (· = wo.heap.size + 1) w1 w2') (A2 : Option Addr) (c2 : Nat) (w3 : World) (o : Obj) hap =>
                  sm_next (x := x') (A2 := A2) (c2 := c2) (w3 := w3) (o := o) HS.out HOX.out H3.out.qw g1 g2 K1 hcd1 (HBD1.out.mono (S' := fun j => wo.heap.size ≤ j ∧ j ≠ wo.heap.size + 1) fun j _ hj => by simp at hj; omega) g3 hap
                have HO2 : Hid (OutAt base w2 A' k c' done xs) := Lib.hid (HOX.out.kept (K1.trans HK2.out fun j hj e => by omega) fun j hj _ e => by have := HS.out.lt j e; omega)
                have HMS2 := Lib.hid (HHX.out w1 st1 HSP1.out (((Kept.refl _ _).drew).trans HK1.out fun _ _ e => e))
                have HVR : Hid (ValidAll r) := Lib.hid HV1.out.tail
                have HVC : Hid (ValidAll ((L, st1) :: r)) := Lib.hid fun y hy => by
                  rcases List.mem_cons.1 hy with rfl | hy
                  · exact HV2.out
                  · exact HV1.out.tail y hy
                have HKX := Lib.hid fun (w2' : World) (g : Kept (· = wo.heap.size + 1) w1 w2') => K1.trans g fun j hj (e : j = wo.heap.size + 1) => (absurd hj (by omega) : j ∈ bs)
                have HKW := Lib.hid (HKX.out w2 HK2.out)
                have HSB : Hid (∀ y ∈ bs2, y ∈ bs) := Lib.hid fun y hy => H3.out.sub y (by rw [HBE.out]; exact List.mem_cons_of_mem _ hy)
                have HSC : Hid (∀ y ∈ b :: bs2, y ∈ bs) := Lib.hid fun y hy => H3.out.sub y (by rw [HBE.out]; exact hy)
                have HFQ : Hid (Q = done ++ ((multiStep ts zn).1 :: (runs multiStep (zs.drop (k + 1)) (multiStep ts zn).2).1)) := Lib.hid (by rw [HF.out, HNX.out])
                have HH3 := H3
                rw [Nat.add_sub_cancel] at hsl
                have HRL : Hid (r.length = 0 → r = []) := Lib.hid fun h => List.eq_nil_of_length_eq_zero h
                clear C' K1 hbm HHX HK1 HSP1 HV1 HV2 HNX HF H3
                rcases herr with rfl | rfl | rfl
                · have HFN : Hid (Q = (done ++ [(d, 0)]) ++ (runs multiStep (zs.drop (k + 1)) ((L, st1) :: r)).1) := Lib.hid (by
                    rw [HFQ.out, HMM.out, if_neg (by decide), List.append_assoc]
                    rfl)
                  have HN2 := Lib.hid (HN.out (b :: bs2) ((L, st1) :: r) (some ⟨gb, off, none⟩) cp1 w2 0 HSC.out HMS2.out.1 HK2.out)
                  have hlc : ((L, st1) :: r).length = r.length + 1 := rfl
                  have HLC := Lib.hid hlc
                  clear HN HMM HFQ HMS2 HB2 hlc
                  by_cases hd0 : d.length = 0
                  · obtain rfl : d = [] := List.eq_nil_of_length_eq_zero hd0
                    simp only [List.length_nil] at *
                    clear hd0
                    go_wp2_with (at_builtin; refine wpList_append_gen _ rfl (.tmp 69) (.tmp 71) 45 rfl base 56 i2 _ 2 32 Tryd.underlying45 hi2 hx0 hx1 hx2 rfl (by omega) _ k xs rfl (HO2.out.own.alloc _) (some ⟨w2.heap.size, 0, none⟩) 1 1 [.slice Ad1 0 cd1, .int .i64 0] rfl (by rfl) ((Blk.new w2 56 #[.slice Ad1 0 cd1, .int .i64 0]).news 1) (by simp [Value.oneCell']) (by unfold maxLen; omega) (by omega) (by simp; omega) ?_)
                    intro A2 c2 w3 hap
                    have HSN := Lib.hid (HN2.out A2 c2 w3 _ hap)
                    clear HN2
                    clear hap
                    go_wp2_with fail
                    go_roundg (len - (k + 1))
                    case measure => omega
                    case rel => exact ⟨k + 1, A2, c2, done ++ [([], 0)], b :: bs2, (L, st1) :: r, some ⟨gb, off, none⟩, cp1, by omega, rfl, by go_num, rfl, rfl, HSN, HFN, HVC⟩
                  · have hd1 : 0 < d.length := by omega
                    go_wp2_with (at_builtin; refine wpList_append_gen _ rfl (.tmp 69) (.tmp 71) 45 rfl base 56 i2 _ 2 32 Tryd.underlying45 hi2 hx0 hx1 hx2 rfl (by omega) _ k xs rfl (HO2.out.own.alloc _) (some ⟨w2.heap.size, 0, none⟩) 1 1 [.slice Ad1 d.length cd1, .int .i64 0] rfl (by rfl) ((Blk.new w2 56 #[.slice Ad1 d.length cd1, .int .i64 0]).news 1) (by simp [Value.oneCell']) (by unfold maxLen; omega) (by omega) (by simp; omega) ?_)
                    intro A2 c2 w3 hap
                    have HSN := Lib.hid (HN2.out A2 c2 w3 _ hap)
                    clear HN2
                    clear hap
                    go_wp2_with fail
                    go_roundg (len - (k + 1))
                    case measure => omega
                    case rel => exact ⟨k + 1, A2, c2, done ++ [(d, 0)], b :: bs2, (L, st1) :: r, some ⟨gb, off, none⟩, cp1, by omega, rfl, by go_num, rfl, rfl, HSN, HFN, HVC⟩
                · have HM2 := Lib.hid (HMS2.out.2 As HAS.out)
                  by_cases hd0 : d.length = 0
                  · have HME : Hid (multiStep ts zn = multiStep r zn) := Lib.hid (by rw [HMM.out, if_pos rfl, if_pos hd0])
                    have H3N : Hid (SM3 w wo gb (wo.heap.size + 1) bs bs2 r As (cp1 - 1) w2) := Lib.hid ⟨HM2.out.kept HK2.out (fun j hj e => by omega) (fun e => by have := HS.out.gl; omega) (fun y hy e => by have := HS.out.lt y (HSB.out y hy); omega), HSB.out, HKW.out, HH3.out.qw⟩
                    obtain rfl : d = [] := List.eq_nil_of_length_eq_zero hd0
                    simp only [List.length_nil] at *
                    clear hd0 HN HMM HFQ HMS2
                    go_wp2_with fail
                    go_roundg r.length
                    case measure => simp
                    case rel => exact ⟨bs2, r, As, cp1 - 1, Ad1, cd1, rfl, rfl, H3N, HME, HB2, HVR⟩
                  · have hd1 : 0 < d.length := by omega
                    by_cases hr0 : r.length = 0
                    · have HFN : Hid (Q = (done ++ [(d, 1)]) ++ (runs multiStep (zs.drop (k + 1)) r).1) := Lib.hid (by
                        rw [HFQ.out, HMM.out, if_pos rfl, if_neg hd0, if_pos hr0, List.append_assoc]
                        rfl)
                      have HN2 := Lib.hid (HN.out bs2 r As (cp1 - 1) w2 1 HSB.out HM2.out HK2.out)
                      obtain rfl : r = [] := HRL.out hr0
                      simp only [List.length_nil, Nat.zero_add] at *
                      clear HN HMM HFQ HMS2 HB2 hr0
                      go_wp2_with (at_builtin; refine wpList_append_gen _ rfl (.tmp 69) (.tmp 71) 45 rfl base 56 i2 _ 2 32 Tryd.underlying45 hi2 hx0 hx1 hx2 rfl (by omega) _ k xs rfl (HO2.out.own.alloc _) (some ⟨w2.heap.size, 0, none⟩) 1 1 [.slice Ad1 d.length cd1, .int .i64 1] rfl (by rfl) ((Blk.new w2 56 #[.slice Ad1 d.length cd1, .int .i64 1]).news 1) (by simp [Value.oneCell']) (by unfold maxLen; omega) (by omega) (by simp; omega) ?_)
                      intro A2 c2 w3 hap
                      have HSN := Lib.hid (HN2.out A2 c2 w3 _ hap)
                      clear HN2
                      clear hap
                      go_wp2_with fail
                      go_roundg (len - (k + 1))
                      case measure => omega
                      case rel => exact ⟨k + 1, A2, c2, done ++ [(d, 1)], bs2, [], As, (cp1 - 1), by omega, rfl, by go_num, rfl, rfl, HSN, HFN, HVR⟩
                    · have hr1 : 0 < r.length := by omega
                      have HFN : Hid (Q = (done ++ [(d, 0)]) ++ (runs multiStep (zs.drop (k + 1)) r).1) := Lib.hid (by
                        rw [HFQ.out, HMM.out, if_pos rfl, if_neg hd0, if_neg hr0, List.append_assoc]
                        rfl)
                      have HK3 : Kept (· = wo.heap.size + 1) w1 (w2.setCell ⟨wo.heap.size + 1, 1, none⟩ (.int .i64 0)) := HK2.out.setCell (p := ⟨wo.heap.size + 1, 1, none⟩) (fun _ => rfl) _
                      have HN2 := Lib.hid (HN.out bs2 r As (cp1 - 1) (w2.setCell ⟨wo.heap.size + 1, 1, none⟩ (.int .i64 0)) 0 HSB.out HM2.out HK3)
                      have HO3 : Hid (OutAt base (w2.setCell ⟨wo.heap.size + 1, 1, none⟩ (.int .i64 0)) A' k c' done xs) := Lib.hid (HOX.out.kept (HKX.out _ HK3) fun j hj _ e => by have := HS.out.lt j e; omega)
                      have HBN : Hid (Blk ((w2.setCell ⟨wo.heap.size + 1, 1, none⟩ (.int .i64 0)).alloc (.cells #[.slice Ad1 d.length cd1, .int .i64 0] 56)) w2.heap.size 56 #[.slice Ad1 d.length cd1, .int .i64 0]) := Lib.hid (by simpa using Blk.new (w2.setCell ⟨wo.heap.size + 1, 1, none⟩ (.int .i64 0)) 56 #[.slice Ad1 d.length cd1, .int .i64 0])
                      clear HN HMM HFQ HMS2 HB2 HK3
                      go_wp2_with (at_builtin; refine wpList_append_gen _ rfl (.tmp 69) (.tmp 71) 45 rfl base 56 i2 _ 2 32 Tryd.underlying45 hi2 hx0 hx1 hx2 rfl (by omega) _ k xs rfl (HO3.out.own.alloc _) (some ⟨w2.heap.size, 0, none⟩) 1 1 [.slice Ad1 d.length cd1, .int .i64 0] rfl (by rfl) (HBN.out.news 1) (by simp [Value.oneCell']) (by unfold maxLen; omega) (by omega) (by simp; omega) ?_)
                      intro A2 c2 w3 hap
                      have HSN := Lib.hid (HN2.out A2 c2 w3 _ hap)
                      clear HN2
                      clear hap
                      go_wp2_with fail
                      go_roundg (len - (k + 1))
                      case measure => omega
                      case rel => exact ⟨k + 1, A2, c2, done ++ [(d, 0)], bs2, r, As, (cp1 - 1), by omega, rfl, by go_num, rfl, rfl, HSN, HFN, HVR⟩
                · have HFN : Hid (Q = (done ++ [(d, 2)]) ++ (runs multiStep (zs.drop (k + 1)) ((L, st1) :: r)).1) := Lib.hid (by
                    rw [HFQ.out, HMM.out, if_neg (by decide), List.append_assoc]
                    rfl)
                  have HN2 := Lib.hid (HN.out (b :: bs2) ((L, st1) :: r) (some ⟨gb, off, none⟩) cp1 w2 2 HSC.out HMS2.out.1 HK2.out)
                  have hlc : ((L, st1) :: r).length = r.length + 1 := rfl
                  have HLC := Lib.hid hlc
                  clear HN HMM HFQ HMS2 HB2 hlc
                  by_cases hd0 : d.length = 0
                  · obtain rfl : d = [] := List.eq_nil_of_length_eq_zero hd0
                    simp only [List.length_nil] at *
                    clear hd0
                    go_wp2_with (at_builtin; refine wpList_append_gen _ rfl (.tmp 69) (.tmp 71) 45 rfl base 56 i2 _ 2 32 Tryd.underlying45 hi2 hx0 hx1 hx2 rfl (by omega) _ k xs rfl (HO2.out.own.alloc _) (some ⟨w2.heap.size, 0, none⟩) 1 1 [.slice Ad1 0 cd1, .int .i64 2] rfl (by rfl) ((Blk.new w2 56 #[.slice Ad1 0 cd1, .int .i64 2]).news 1) (by simp [Value.oneCell']) (by unfold maxLen; omega) (by omega) (by simp; omega) ?_)
                    intro A2 c2 w3 hap
                    have HSN := Lib.hid (HN2.out A2 c2 w3 _ hap)
                    clear HN2
                    clear hap
                    go_wp2_with fail
                    go_roundg (len - (k + 1))
                    case measure => omega
                    case rel => exact ⟨k + 1, A2, c2, done ++ [([], 2)], b :: bs2, (L, st1) :: r, some ⟨gb, off, none⟩, cp1, by omega, rfl, by go_num, rfl, rfl, HSN, HFN, HVC⟩
                  · have hd1 : 0 < d.length := by omega
                    go_wp2_with (at_builtin; refine wpList_append_gen _ rfl (.tmp 69) (.tmp 71) 45 rfl base 56 i2 _ 2 32 Tryd.underlying45 hi2 hx0 hx1 hx2 rfl (by omega) _ k xs rfl (HO2.out.own.alloc _) (some ⟨w2.heap.size, 0, none⟩) 1 1 [.slice Ad1 d.length cd1, .int .i64 2] rfl (by rfl) ((Blk.new w2 56 #[.slice Ad1 d.length cd1, .int .i64 2]).news 1) (by simp [Value.oneCell']) (by unfold maxLen; omega) (by omega) (by simp; omega) ?_)
                    intro A2 c2 w3 hap
                    have HSN := Lib.hid (HN2.out A2 c2 w3 _ hap)
                    clear HN2
                    clear hap
                    go_wp2_with fail
                    go_roundg (len - (k + 1))
                    case measure => omega
                    case rel => exact ⟨k + 1, A2, c2, done ++ [(d, 2)], b :: bs2, (L, st1) :: r, some ⟨gb, off, none⟩, cp1, by omega, rfl, by go_num, rfl, rfl, HSN, HFN, HVC⟩)
        · have hkn : k = len := by omega
          subst hkn
          have HPO : Hid (GotsPost Q w (.returned (.slice A' k c')) wo) := Lib.hid (by
            have h1 := HF.out
            rw [List.drop_of_length_le (by rw [HLZ.out]; exact Nat.le_refl _)] at h1
            simp only [runs, List.append_nil] at h1
            rw [h1]
            exact HOX.out.post HS.out.wb HS.out.bl)
          go_wp2_with fail
          go_ret
          exact HPO.out

end Go.Proofs.YtmoecjhlonokfaaDoor
