/- io.MultiWriter and the Write of a multiWriter over the program's own sinks. -/
import Derived.Test.YtmoecjhlonokfaaDoorWrite
import Derived.Test.YtmoecjhlonokfaaDoorMwP
import Derived.Test.YtmoecjhlonokfaaDoorEls2
import Derived.Deep.LoopGhost
set_option linter.unusedVariables false
set_option linter.unusedSimpArgs false
namespace Go.Proofs.YtmoecjhlonokfaaDoor
open Go.RowKit

theorem nilAhead_write (a : Addr) (w : World) : (nilAhead 229 60 (.pointer (some a)) "Write").run Tryd.prog w = .ok (some false) w := by kernel_rfl
theorem method_write (a : Addr) (w : World) : (method 229 60 (.pointer (some a)) "Write").run Tryd.prog w = .ok (56, .pointer (some a)) w := by kernel_rfl
theorem nilAhead_mw (a : Addr) (w : World) : (nilAhead 229 94 (.pointer (some a)) "Write").run Tryd.prog w = .ok (some false) w := by kernel_rfl
theorem method_mw (a : Addr) (w : World) : (method 229 94 (.pointer (some a)) "Write").run Tryd.prog w = .ok (59, .pointer (some a)) w := by kernel_rfl

theorem WrAt.flt {F : Nat → Prop} {w : World} {sb left : Nat} {data : List Int} (h : WrAt F w sb left data) : ∀ k, F k → k < w.heap.size := by
  obtain ⟨A, c, _, _, _, _, h5⟩ := h
  exact h5

/-- the sinks, by their place: each has its own blocks; b is what each may take yet -/
structure Sinks (B : Nat) (sb : Nat → Nat) (G : Nat → Nat → Prop) (ss : List (Nat × List Int)) (w : World) : Prop where
  wr : ∀ i, i < ss.length → WrAt (G i) w (sb i) (ss.getD i (0, [])).1 (ss.getD i (0, [])).2
  lo : ∀ i, i < ss.length → ∀ k, G i k → B ≤ k
  dis : ∀ i j, i < ss.length → j < ss.length → i ≠ j → ∀ k, G i k → ¬ G j k

theorem Sinks.keep {B : Nat} {sb : Nat → Nat} {G : Nat → Nat → Prop} {ss : List (Nat × List Int)} {w w' : World} (h : Sinks B sb G ss w) (hsz : w.heap.size ≤ w'.heap.size) (hk : ∀ k, k < w.heap.size → (∃ i, i < ss.length ∧ G i k) → w'.heap[k]? = w.heap[k]?) : Sinks B sb G ss w' :=
  ⟨fun i hi => (h.wr i hi).keep hsz fun k hk' hG => hk k hk' ⟨i, hi, hG⟩, h.lo, h.dis⟩
theorem Sinks.kept {B : Nat} {sb : Nat → Nat} {G : Nat → Nat → Prop} {ss : List (Nat × List Int)} {D : Nat → Prop} {w w' : World} (h : Sinks B sb G ss w) (hk : Kept D w w') (hd : ∀ k, (∃ i, i < ss.length ∧ G i k) → ¬ D k) : Sinks B sb G ss w' :=
  h.keep hk.size fun k hk' hG => hk.block k hk' (hd k hG)
theorem Sinks.flt {B : Nat} {sb : Nat → Nat} {G : Nat → Nat → Prop} {ss : List (Nat × List Int)} {w : World} (h : Sinks B sb G ss w) {i k : Nat} (hi : i < ss.length) (hG : G i k) : k < w.heap.size := (h.wr i hi).flt k hG

theorem getD_set {α : Type} {l : List α} {k i : Nat} {x d : α} (hk : k < l.length) : (l.set k x).getD i d = if i = k then x else l.getD i d := by
  by_cases h : i = k
  · subst h; simp [hk]
  · rw [if_neg h]; simp [List.getElem?_set, Ne.symm h]

/-- one sink is written to -/
theorem Sinks.put {B : Nat} {sb : Nat → Nat} {G : Nat → Nat → Prop} {ss : List (Nat × List Int)} {w w' : World} {k : Nat} {G' : Nat → Prop} {x : Nat × List Int} (h : Sinks B sb G ss w) (hk : k < ss.length) (hBw : B ≤ w.heap.size) (hw : WrAt G' w' (sb k) x.1 x.2) (hG : ∀ j, G' j → G k j ∨ w.heap.size ≤ j) (hkp : Kept (G k) w w') :
    Sinks B sb (fun i => if i = k then G' else G i) (ss.set k x) w' := by
  refine ⟨fun i hi => ?_, fun i hi j hj => ?_, fun i j hi hj hij q hq hq' => ?_⟩
  · rw [List.length_set] at hi
    rw [getD_set hk]
    by_cases hik : i = k
    · subst hik
      rw [if_pos rfl, if_pos rfl]
      exact hw
    · rw [if_neg hik, if_neg hik]
      exact (h.wr i hi).kept hkp fun j _ hj hD => h.dis i k hi hk hik j hj hD
  · rw [List.length_set] at hi
    by_cases hik : i = k
    · subst hik
      rw [if_pos rfl] at hj
      rcases hG j hj with h' | h'
      · exact h.lo i hi j h'
      · omega
    · rw [if_neg hik] at hj
      exact h.lo i hi j hj
  · rw [List.length_set] at hi hj
    by_cases hik : i = k
    · subst hik
      rw [if_pos rfl] at hq
      rw [if_neg (fun e => hij e.symm)] at hq'
      rcases hG q hq with h' | h'
      · exact h.dis i j hi hj hij q h' hq'
      · have := h.flt hj hq'; omega
    · rw [if_neg hik] at hq
      by_cases hjk : j = k
      · subst hjk
        rw [if_pos rfl] at hq'
        rcases hG q hq' with h' | h'
        · exact h.dis i j hi hj hij q hq h'
        · have := h.flt hi hq; omega
      · rw [if_neg hjk] at hq'
        exact h.dis i j hi hj hij q hq hq'

/-- what a write leaves -/
def MwPost (B : Nat) (E : Nat → Addr) (sb : Nat → Nat) (G : Nat → Nat → Prop) (n : Nat) (r : (Nat × Int) × List (Nat × List Int)) (w : World) (e : Ending) (w' : World) : Prop :=
  e = .returned (.tuple #[.int .i64 (r.1.1 : Int), errV E r.1.2]) ∧ (∃ G', Sinks B sb G' r.2 w' ∧ ∀ i, i < n → ∀ k, G' i k → G i k ∨ w.heap.size ≤ k) ∧ Kept (fun k => ∃ i, i < n ∧ G i k) w w'

/-- how a write goes on behind k sinks -/
theorem mwStep_at {ss : List (Nat × List Int)} {p : List Int} : ∀ {k : Nat} {done rest : List (Nat × List Int)}, ss = done ++ rest → done.length = k → (∀ x ∈ done, p.length ≤ x.1) → mwStep ss p = ((mwStep rest p).1, done.map (fun x => (x.1 - p.length, x.2 ++ p)) ++ (mwStep rest p).2)
  | _, [], rest, h, _, _ => by subst h; rfl
  | _, (left, data) :: done, rest, h, hk, hx => by
    subst h
    have h1 : p.length ≤ left := hx (left, data) List.mem_cons_self
    rw [List.cons_append, mwStep, if_neg (by omega), mwStep_at (k := done.length) rfl rfl fun x hx' => hx x (List.mem_cons_of_mem _ hx')]
    rfl

/-- the sinks behind k of them -/
def mwCur (ss : List (Nat × List Int)) (p : List Int) (k : Nat) : List (Nat × List Int) := (ss.take k).map (fun x => (x.1 - p.length, x.2 ++ p)) ++ ss.drop k
theorem mwCur_len (ss : List (Nat × List Int)) (p : List Int) (k : Nat) : (mwCur ss p k).length = ss.length := by simp [mwCur]; omega
theorem mwCur_zero (ss : List (Nat × List Int)) (p : List Int) : mwCur ss p 0 = ss := by simp [mwCur]
theorem mwCur_split {ss : List (Nat × List Int)} {p : List Int} {k : Nat} (h : k < ss.length) : mwCur ss p k = (ss.take k).map (fun x => (x.1 - p.length, x.2 ++ p)) ++ ss.getD k (0, []) :: ss.drop (k + 1) := by
  unfold mwCur
  rw [List.drop_eq_getElem_cons h]
  simp [h]
theorem mwCur_at {ss : List (Nat × List Int)} {p : List Int} {k : Nat} (h : k < ss.length) : (mwCur ss p k).getD k (0, []) = ss.getD k (0, []) := by
  have hl : ((ss.take k).map (fun x => (x.1 - p.length, x.2 ++ p))).length = k := by simp; omega
  rw [mwCur_split h, List.getD_eq_getElem?_getD, List.getElem?_append_right (by omega), hl, Nat.sub_self]
  rfl
theorem mwCur_set {ss : List (Nat × List Int)} {p : List Int} {k : Nat} (h : k < ss.length) (y : Nat × List Int) : (mwCur ss p k).set k y = (ss.take k).map (fun x => (x.1 - p.length, x.2 ++ p)) ++ y :: ss.drop (k + 1) := by
  have hl : ((ss.take k).map (fun x => (x.1 - p.length, x.2 ++ p))).length = k := by simp; omega
  rw [mwCur_split h, List.set_append_right _ _ (by omega), hl, Nat.sub_self]
  rfl
theorem mwCur_next {ss : List (Nat × List Int)} {p : List Int} {k : Nat} (h : k < ss.length) : (mwCur ss p k).set k ((ss.getD k (0, [])).1 - p.length, (ss.getD k (0, [])).2 ++ p) = mwCur ss p (k + 1) := by
  rw [mwCur_set h]
  unfold mwCur
  rw [List.take_succ_eq_append_getElem h, List.map_append, List.append_assoc]
  simp [h]

set_option maxHeartbeats 1000000 in
set_option maxRecDepth 100000 in
theorem mw_write {B : Nat} {S : Nat → Prop} {w : World} {E : Nat → Addr} (hE : Errs B w E) (hBw : B ≤ w.heap.size) {sb : Nat → Nat} {G : Nat → Nat → Prop} {ss : List (Nat × List Int)} (hS : Sinks B sb G ss w) {mb ab c cp : Nat} {A P : Option Addr} {p : List Int} (hm : Blk w mb 97 #[.slice A ss.length c])
    (hA : 0 < ss.length → A = some ⟨ab, 0, none⟩ ∧ ab < w.heap.size) (hcell : ∀ i, i < ss.length → w.cell? ⟨ab, i, none⟩ = some (.iface 60 (.pointer (some ⟨sb i, 0, none⟩)))) (hne : ∀ i, i < ss.length → ¬ G i ab)
    (hp : BytesAt S w P p) (hSp : ∀ k, S k → ∀ i, i < ss.length → ¬ G i k) (hlc : p.length ≤ cp) (hleft : ∀ x ∈ ss, (x.1 : Int) ≤ 9223372036854775807) (hsz : ∀ x ∈ ss, x.2.length + p.length ≤ 140737488355328) (hnl : ss.length ≤ 281474976710656) (hpl : p.length ≤ 140737488355328) :
    Calls Tryd.prog 59 #[.pointer (some ⟨mb, 0, none⟩), .slice P p.length cp] w (MwPost B E sb G ss.length (mwStep ss p) w) := by
  have z0 := hm.cell 0
  simp at z0
  have HE := Lib.hid hE
  have HA := Lib.hid hA
  have HC := Lib.hid hcell
  have HNE := Lib.hid hne
  have HP := Lib.hid hp
  have HSP := Lib.hid hSp
  have HLF := Lib.hid hleft
  have HSZ := Lib.hid hsz
  have HS0 := Lib.hid hS
  have HLO := Lib.hid hS.lo
  clear hE hA hcell hne hp hSp hleft hsz hS hm
  generalize hlen : ss.length = n at *
  have HL := Lib.hid hlen
  generalize hpp : p.length = pl at *
  have HPL := Lib.hid hpp
  clear hlen hpp
  go_enter Tryd.func59, Tryd.ntmps59
  go_wp2_with fail
  go_loopg [13] n (fun f i wr => ∃ k : Nat, k ≤ n ∧ f = n - k ∧ i = .int .i64 k ∧ ∃ G', Hid (Sinks B sb G' (mwCur ss p k) wr) ∧ Hid (∀ i, i < n → ∀ j, G' i j → G i j ∨ w.heap.size ≤ j) ∧ Hid (Kept (fun j => ∃ i, i < n ∧ G i j) w wr) ∧ Hid (∀ x ∈ ss.take k, p.length ≤ x.1))
  case atStart => exact ⟨0, Nat.zero_le _, by omega, rfl, G, Lib.hid (by rw [mwCur_zero]; exact HS0.out), Lib.hid fun i hi j hj => .inl hj, Lib.hid (Kept.refl _ _), Lib.hid (fun x hx => by simp at hx)⟩
  case round =>
    obtain ⟨k, hk, rfl, rfl, G', HSK, HGG, HKP, HDN⟩ := hrel
    have hszr := HKP.out.size
    by_cases hlt : k < n
    · obtain ⟨hAe, habl⟩ := HA.out (by omega)
      subst hAe
      have hkl : k < ss.length := by rw [HL.out]; exact hlt
      have g1 := (HKP.out.cell (p := ⟨ab, k, none⟩) habl (fun ⟨i, hi, hG⟩ => HNE.out i hi hG)).trans (HC.out k hlt)
      have hwr := HSK.out.wr k (by rw [mwCur_len]; exact hkl)
      rw [mwCur_at hkl] at hwr
      have hmem : ss.getD k (0, []) ∈ ss := by rw [List.getD_eq_getElem?_getD, List.getElem?_eq_getElem hkl]; exact List.getElem_mem _
      have hl1 := HLF.out _ hmem
      have hl2 := HSZ.out _ hmem
      have hE1 : Errs B wr E := HE.out.below (HKP.out.below hBw fun j hj ⟨i, hi, hG⟩ => by have := HLO.out i hi j hG; omega)
      have C := write_any hE1 (by omega) (fun j hj => HSK.out.lo k (by rw [mwCur_len]; exact hkl) j hj) hwr cp (HP.out.kept HKP.out fun j _ hj ⟨i, hi, hG⟩ => HSP.out j hj i hi hG) (by rw [HPL.out]; exact hlc) hl1 (by rw [HPL.out]; exact hl2)
      have hnil := nilAhead_write ⟨sb k, 0, none⟩
      have hmet := method_write ⟨sb k, 0, none⟩
      have hnx := mwCur_next (p := p) hkl
      have hcs := mwCur_set (p := p) hkl
      have hsplit : ss = ss.take k ++ ss.getD k (0, []) :: ss.drop (k + 1) := by
        conv => lhs; rw [← List.take_append_drop k ss, List.drop_eq_getElem_cons hkl]
        simp [hkl]
      have htk : ss.take (k + 1) = ss.take k ++ [ss.getD k (0, [])] := by
        rw [List.take_succ_eq_append_getElem hkl]
        simp [hkl]
      unfold WrPost at C
      rw [HPL.out] at C
      generalize ss.getD k (0, []) = x at *
      obtain ⟨left, data⟩ := x
      simp only at C hl1 hl2 hnx
      have HNX := Lib.hid hnx
      have HCS := Lib.hid hcs
      have HSPL := Lib.hid hsplit
      have HTK := Lib.hid htk
      clear hwr hmem hnx hcs hsplit htk hE1
      by_cases hfl : left < pl
      · have hfl2 : left < p.length := by rw [HPL.out]; exact hfl
        rw [if_pos hfl, show errV E 3 = .iface 103 (.pointer (some (E 3))) from errV_pos E 3 rfl, show (p.take left).length = left by rw [List.length_take]; omega] at C
        have C' := Lib.hid C
        have HST : Hid (mwStep ss p = ((left, 3), (mwCur ss p k).set k (left - left, data ++ p.take left))) := Lib.hid (by
          have h1 := mwStep_at (k := k) (p := p) HSPL.out (by rw [List.length_take]; omega) HDN.out
          rw [mwStep, if_pos hfl2] at h1
          rw [h1, HCS.out]
          simp only
          rw [show (p.take left).length = left by rw [List.length_take]; omega])
        clear C
        go_wp2_with fail
        refine C'.out.mono ?_
        rintro e w1 ⟨rfl, ⟨F1, hw1, hF1⟩, hk1⟩
        have HPO : Hid (MwPost B E sb G n ((left, 3), (mwCur ss p k).set k (left - left, data ++ p.take left)) w (.returned (.tuple #[.int .i64 (left : Int), .iface 103 (.pointer (some (E 3)))])) w1) := Lib.hid (by
          refine ⟨by rw [show errV E 3 = .iface 103 (.pointer (some (E 3))) from errV_pos E 3 rfl], ⟨_, Sinks.put (x := (left - left, data ++ p.take left)) HSK.out (by rw [mwCur_len]; exact hkl) (by omega) hw1 hF1 hk1, fun i hi j hj => ?_⟩, HKP.out.trans hk1 fun j hj hD => ?_⟩
          · by_cases hik : i = k
            · subst hik
              rw [if_pos rfl] at hj
              rcases hF1 j hj with h | h
              · exact HGG.out i hi j h
              · exact .inr (by omega)
            · rw [if_neg hik] at hj
              exact HGG.out i hi j hj
          · rcases HGG.out k hlt j hD with h | h
            · exact ⟨k, hlt, h⟩
            · omega)
        clear hw1 hF1 hk1 C' z0
        go_wp2_with fail
        go_ret2
        rw [HST.out]
        exact HPO.out
      · rw [if_neg hfl, errV_zero, List.take_of_length_le (show p.length ≤ left by rw [HPL.out]; omega), HPL.out] at C
        have C' := Lib.hid C
        have hpi : ((pl : Int) != (pl : Int)) = false := by simp
        clear C
        go_wp2_with fail
        refine C'.out.mono ?_
        rintro e w1 ⟨rfl, ⟨F1, hw1, hF1⟩, hk1⟩
        have HS1 := Lib.hid (Sinks.put (x := (left - pl, data ++ p)) HSK.out (by rw [mwCur_len]; exact hkl) (by omega) hw1 hF1 hk1)
        have e0 : (left - pl, data ++ p) = (left - p.length, data ++ p) := by rw [HPL.out]
        rw [e0, HNX.out] at HS1
        have HG1 : Hid (∀ i, i < n → ∀ j, (if i = k then F1 else G' i) j → G i j ∨ w.heap.size ≤ j) := Lib.hid fun i hi j hj => by
          by_cases hik : i = k
          · subst hik
            rw [if_pos rfl] at hj
            rcases hF1 j hj with h | h
            · exact HGG.out i hi j h
            · exact .inr (by omega)
          · rw [if_neg hik] at hj
            exact HGG.out i hi j hj
        have HK1 : Hid (Kept (fun j => ∃ i, i < n ∧ G i j) w w1) := Lib.hid (HKP.out.trans hk1 fun j hj hD => by
          rcases HGG.out k hlt j hD with h | h
          · exact ⟨k, hlt, h⟩
          · omega)
        have HD1 : Hid (∀ x ∈ ss.take (k + 1), p.length ≤ x.1) := Lib.hid fun x hx => by
          rw [HTK.out] at hx
          rcases List.mem_append.1 hx with h | h
          · exact HDN.out x h
          · have := List.mem_singleton.1 h
            subst this
            simp only
            rw [HPL.out]; omega
        clear hw1 hF1 hk1 C' e0
        go_wp2_with fail
        go_roundg (n - (k + 1))
        case measure => omega
        case rel => exact ⟨k + 1, by omega, rfl, by go_num, _, HS1, HG1, HK1, HD1⟩
    · have hkn : k = n := by omega
      have HST : Hid (mwStep ss p = ((pl, 0), mwCur ss p k)) := Lib.hid (by
        have htk : ss.take k = ss := List.take_of_length_le (by rw [HL.out]; omega)
        have h1 := mwStep_at (ss := ss) (k := k) (p := p) (done := ss) (rest := []) (by simp) (by rw [HL.out]; omega) (by have := HDN.out; rw [htk] at this; exact this)
        rw [h1]
        unfold mwCur
        rw [htk, List.drop_of_length_le (by rw [HL.out]; omega)]
        simp only [mwStep]
        rw [HPL.out])
      have HPO : Hid (MwPost B E sb G n ((pl, 0), mwCur ss p k) w (.returned (.tuple #[.int .i64 (pl : Int), .nilIface])) wr) := Lib.hid ⟨rfl, ⟨G', HSK.out, HGG.out⟩, HKP.out⟩
      go_wp2_with fail
      go_ret2
      rw [HST.out]
      exact HPO.out

end Go.Proofs.YtmoecjhlonokfaaDoor
