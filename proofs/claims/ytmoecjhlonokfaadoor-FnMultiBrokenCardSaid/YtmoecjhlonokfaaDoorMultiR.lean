/- io.MultiReader over the program's own readers; impl.Multi. -/
import Derived.Test.YtmoecjhlonokfaaDoorMulti
import Derived.Test.YtmoecjhlonokfaaDoorEls
import Derived.Deep.OwnRows
import Derived.Deep.LoopGhost
set_option linter.unusedVariables false
set_option linter.unusedSimpArgs false
namespace Go.Proofs.YtmoecjhlonokfaaDoor
open Go.RowKit

theorem make_readers (n : Nat) (hn : n ≤ 1048576) : ∃ cs : List Value, cs.length = n ∧ ∀ w, (Instr.makeSlice 79 (.int .i64 (n : Int)) (.int .i64 (n : Int))).run Tryd.prog w = .ok (.slice (some ⟨w.heap.size, 0, none⟩) n n) (w.alloc (.cells cs.toArray 84)) := by
  refine ⟨(madeCells #[.nilIface] n).toList, by simp [size_madeCells], fun w => ?_⟩
  have := run_make_row' (P := Tryd.prog) 79 84 .nilIface 16 Tryd.underlying79 infoRdr rfl .i64 .i64 n (by omega) (by omega) w
  simpa using this

/-- copy of one-cell values into a block that is known whole -/
theorem wpList_copy_vals {P : Program} {w : World} {ops : Array Oper} {rest : List Oper} {o : Oper} {a : Act} {Q : Exit → Act → World → Prop} (hgd : o.guard = none) (d s : Operand) (dT elem : TypeId)
    (ho : o.op = .call { callee := .builtin .copy, args := #[d, s], argTypes := #[dT, dT] }) (hu : P.underlying dT = some (.slice elem)) (hsz : (P.info? elem).map (·.size) = some 1)
    (dp sp : Option Addr) (n dCap sCap : Nat) (hed : a.eval d = .slice dp n dCap) (hes : a.eval s = .slice sp n sCap)
    (g : Nat) (cur : List Value) (t : TypeId) (hg : Blk w g t cur.toArray) (vs : List Value) (hn : vs.length = n) (hcur : cur.length = n)
    (hd : dp = some ⟨g, 0, none⟩) (hs : 0 < n → ∃ b, sp = some ⟨b, 0, none⟩ ∧ ∀ j v, vs[j]? = some v → w.cell? ⟨b, j, none⟩ = some v) (h1 : ∀ u ∈ vs, u.oneCell' = true)
    (h : ∀ w', Hid (Blk w' g t vs.toArray) → Hid (Kept (· = g) w w') → wpList P ops Q rest (a.put o.dst (goInt n)) w') :
    wpList P ops Q (o :: rest) a w := by
  refine wpList_plain hgd fun K hK => ?_
  have hrun : ∃ w', (Builtin.copy_ #[dT, dT] o.type #[.slice dp n dCap, .slice sp n sCap]).run P w = .ok (goInt n) w' ∧ Blk w' g t vs.toArray ∧ Kept (· = g) w w' := by
    subst hd
    by_cases h0 : n = 0
    · subst h0
      obtain rfl : vs = [] := List.eq_nil_of_length_eq_zero hn
      obtain rfl : cur = [] := List.eq_nil_of_length_eq_zero hcur
      exact ⟨w, run_copy_none (P := P) w dT dT o.type elem _ sp 0 dCap 0 sCap hu hsz (by simp), hg, Kept.refl _ _⟩
    · obtain ⟨b, rfl, hc⟩ := hs (by omega)
      have hrun := run_copy_row (P := P) w dT dT o.type elem g 0 n dCap ⟨b, 0, none⟩ n sCap cur.toArray t vs hu hsz hg (by simp [hn])
        (fun j v hv => by
          rw [← hc j v hv]
          unfold Addr.add
          split
          · next e => subst e; rfl
          · simp) (by simp [hn, hcur]) h1
      rw [hn] at hrun
      refine ⟨_, hrun, ?_, kept_setRow _ _ _⟩
      have := setRow_heap w g _ (cur.toArray.toList.take 0 ++ vs ++ cur.toArray.toList.drop (0 + n)).toArray t _ hg
      unfold Blk
      rw [this]
      simp [hcur]
  obtain ⟨w', hrun, h1, h2⟩ := hrun
  unfold Oper.wp
  simp [execOp, ho, resolve, invoke, builtin, hed, hes, hrun, Result.andThen]
  exact hK _ _ (h w' h1 h2)

/-- a new multiReader -/
def MrNew (vs : List Value) (n : Nat) (w : World) (e : Ending) (w' : World) : Prop :=
  ∃ mb ab, e = .returned (.iface 100 (.pointer (some ⟨mb, 0, none⟩))) ∧ w.heap.size ≤ mb ∧ w.heap.size ≤ ab ∧ mb ≠ ab ∧ Blk w' ab 84 vs.toArray ∧ Blk w' mb 102 #[.slice (some ⟨ab, 0, none⟩) n n] ∧ Below w.heap.size w w'

theorem sizeRdr : (Tryd.prog.info? 84).map (·.size) = some 1 := by kernel_rfl

set_option maxHeartbeats 1000000 in
set_option maxRecDepth 100000 in
theorem multiReader_any {w : World} {vs : List Value} {A : Option Addr} {n : Nat} (c : Nat) (hn : n ≤ 1048576) (hvs : vs.length = n) (h1 : ∀ u ∈ vs, u.oneCell' = true) (hA : 0 < n → ∃ b, A = some ⟨b, 0, none⟩ ∧ b < w.heap.size ∧ ∀ j v, vs[j]? = some v → w.cell? ⟨b, j, none⟩ = some v) :
    Calls Tryd.prog 37 #[.slice A n c] w (MrNew vs n w) := by
  obtain ⟨cs, hcs, hmk⟩ := make_readers n hn
  have HV := Lib.hid hvs
  have H1 := Lib.hid h1
  have HC := Lib.hid hcs
  have HA : Hid (0 < n → ∃ b, A = some ⟨b, 0, none⟩ ∧ ∀ j v, vs[j]? = some v → (w.alloc (.cells cs.toArray 84)).cell? ⟨b, j, none⟩ = some v) := Lib.hid fun h0 => by
    obtain ⟨b, e, hb, hc⟩ := hA h0
    exact ⟨b, e, fun j v hv => by rw [World.cell?_alloc_lt _ _ _ hb]; exact hc j v hv⟩
  clear hvs h1 hcs hA
  go_enter Tryd.func37, Tryd.ntmps37
  go_wp2_with (with_reducible refine wpList_copy_vals rfl (.tmp 7) (.tmp 8) 79 84 rfl Tryd.underlying79 sizeRdr (some ⟨w.heap.size, 0, none⟩) A n n c rfl rfl w.heap.size cs 84 (Blk.new w 84 cs.toArray) vs HV.out HC.out rfl HA.out H1.out ?_)
  intro w1 HB HK
  have hz := HK.out.size
  simp at hz
  have HPO : Hid (MrNew vs n w (.returned (.iface 100 (.pointer (some ⟨w1.heap.size, 0, none⟩)))) (w1.alloc (.cells #[.slice (some ⟨w.heap.size, 0, none⟩) n n] 102))) := Lib.hid ⟨w1.heap.size, w.heap.size, rfl, by omega, Nat.le_refl _, by omega, HB.out.alloc _, Blk.new _ _ _, (((Below.refl _ _).alloc (Nat.le_refl _) _).trans (HK.out.below (by simp) fun k hk e => by omega)).alloc (by omega) _⟩
  clear HB HK
  go_wp2_with fail
  go_ret
  exact HPO.out

theorem own_keptM {D : Nat → Prop} {w w' : World} {base : Nat} {e : TypeId} {size : Nat} {v : Value} {n : Nat} {xs : List Value} (h : w.ownsRow base e size v n xs) (hk : Kept D w w') (hd : ∀ g, v.ownBlock = some g → ¬ D g) : w'.ownsRow base e size v n xs := by
  refine ⟨h.1, ?_⟩
  rcases h.2 with h2 | ⟨g, cap, cur, hv, hg, hh, r⟩
  · exact Or.inl h2
  · have hlt := (Array.getElem?_eq_some_iff.1 hh).1
    exact Or.inr ⟨g, cap, cur, hv, hg, by rw [hk.block g hlt (hd g (by rw [hv]; rfl))]; exact hh, r⟩

theorem Errs.raise {B B' : Nat} {w : World} {E : Nat → Addr} (h : Errs B w E) (hB : B ≤ B') : Errs B' w E :=
  ⟨h.cell, h.blk, fun k hk => Nat.lt_of_lt_of_le (h.glt k hk) hB, fun k hk => Nat.lt_of_lt_of_le (h.lt k hk) hB, h.inj⟩

theorem Items.snoc {B : Nat} {w : World} {b g : Nat} {F : Nat → Prop} {L : Int} {st : List (List Int × Int)} (hs : SrcI B L b g st F w) : ∀ {its : List (Nat × Nat × (Nat → Prop))} {ts : List (Int × List (List Int × Int))}, Items B w its ts → (∀ x ∈ its, ∀ k, x.2.2 k → ¬ F k) → Items B w (its ++ [(b, g, F)]) (ts ++ [(L, st)])
  | [], [], _, _ => ⟨hs, (fun _ _ _ h => by cases h), trivial⟩
  | it :: its, t :: ts, ⟨h1, h2, h3⟩, hd => ⟨h1, fun k hk x hx => by
      rcases List.mem_append.1 hx with h | h
      · exact h2 k hk x h
      · obtain rfl := List.mem_singleton.1 h
        exact hd it List.mem_cons_self k hk, h3.snoc hs fun x hx => hd x (List.mem_cons_of_mem _ hx)⟩

/-- the sources with their ends -/
def srcs (ss : List (List (List Int × Int))) : List (Int × List (List Int × Int)) := ss.map fun st => (lastErr st, st)

/-- the readers so far, and the row of them -/
structure MRI (w : World) (its : List (Nat × Nat × (Nat → Prop))) (ts : List (Int × List (List Int × Int))) (k : Nat) (A' : Option Addr) (c' : Nat) (wr : World) : Prop where
  len : its.length = k
  row : wr.ownsRow w.heap.size 84 1 (.slice A' k c') k (its.map fun x => rdV x.1)
  it : Items w.heap.size wr its ts
  rx : ∀ j, (Value.slice A' k c').ownBlock = some j → ∀ x ∈ its, ¬ x.2.2 j
  bl : Below w.heap.size w wr

theorem mri_next {w wr w1 w3 : World} {its : List (Nat × Nat × (Nat → Prop))} {ts : List (Int × List (List Int × Int))} {k : Nat} {A' A2 : Option Addr} {c' c2 : Nat} {o1 o3 : Obj} {b g : Nat} {F : Nat → Prop} {L : Int} {st : List (List Int × Int)} (h : MRI w its ts k A' c' wr)
    (hs : SrcI w.heap.size L b g st F w1) (hF : ∀ j, F j → wr.heap.size + 1 ≤ j ∧ j < w1.heap.size) (hb : Below (wr.heap.size + 1) (wr.alloc o1) w1)
    (hap : Appended w.heap.size 84 1 A2 (k + 1) c2 ((its.map fun x => rdV x.1) ++ [.iface 80 (.pointer (some ⟨b, 0, none⟩))]) (Value.slice A' k c').ownBlock (w1.alloc o3) w3) :
    MRI w (its ++ [(b, g, F)]) (ts ++ [(L, st)]) (k + 1) A2 c2 w3 := by
  have hbz := h.bl.size
  have z1 := hb.size
  have z3 := hap.sizeLe
  simp at z1 z3
  have hlo : ∀ j, (Value.slice A' k c').ownBlock = some j → w.heap.size ≤ j ∧ j < wr.heap.size := fun j e => own_block_lt h.row e
  have K1 : Kept (fun _ => False) wr w1 := ((Kept.refl _ _).alloc o1).of_below (by simpa using hb)
  have K3 : Kept (fun j => some j = (Value.slice A' k c').ownBlock) w1 w3 := ((Kept.refl _ _).alloc o3).trans hap.kept fun _ _ e => e
  have hA2 : ∀ j, (Value.slice A2 (k + 1) c2).ownBlock = some j → (Value.slice A' k c').ownBlock = some j ∨ w1.heap.size ≤ j := fun j e => by
    rcases hap.2.2 with h' | h'
    · exact .inl (by rw [← h', e])
    · rw [e] at h'; injection h' with h'; simp at h'; exact .inr (by omega)
  have hil : ∀ x ∈ its, ∀ j, x.2.2 j → j < wr.heap.size := fun x hx j hj => (h.it.lo x hx j hj).2
  have hi1 : Items w.heap.size w1 its ts := h.it.keep K1.size fun j hj _ => K1.block j hj (fun hf => hf)
  refine ⟨by simp [h.len], by simpa [rdV] using hap.own, ((hi1.snoc hs fun x hx j hj hFj => ?_).keep K3.size fun j hj ⟨x, hx, hxj⟩ => K3.block j hj fun e => ?_), fun j e x hx hxj => ?_, ?_⟩
  · have := hil x hx j hj
    have := (hF j hFj).1
    omega
  · rcases List.mem_append.1 hx with hx | hx
    · exact h.rx j e.symm x hx hxj
    · obtain rfl := List.mem_singleton.1 hx
      have := (hF j hxj).1
      have := (hlo j e.symm).2
      omega
  · rcases hA2 j e with h' | h'
    · rcases List.mem_append.1 hx with hx | hx
      · exact h.rx j h' x hx hxj
      · obtain rfl := List.mem_singleton.1 hx
        have := (hF j hxj).1
        have := (hlo j h').2
        omega
    · rcases List.mem_append.1 hx with hx | hx
      · have := hil x hx j hxj; omega
      · obtain rfl := List.mem_singleton.1 hx
        have := (hF j hxj).2
        omega
  · refine h.bl.trans ((K1.below hbz fun _ _ hf => hf).trans (K3.below (by omega) fun j hj e => ?_))
    have := (hlo j e.symm).1
    omega

/-- the multiReader over them -/
theorem mri_multi {w wr w2 : World} {its : List (Nat × Nat × (Nat → Prop))} {ts : List (Int × List (List Int × Int))} {k : Nat} {A' : Option Addr} {c' mb ab : Nat} (h : MRI w its ts k A' c' wr) (hmb : wr.heap.size ≤ mb) (hab : wr.heap.size ≤ ab) (hne : mb ≠ ab) (b1 : Blk w2 ab 84 (its.map fun x => rdV x.1).toArray) (b2 : Blk w2 mb 102 #[.slice (some ⟨ab, 0, none⟩) k k]) (hb : Below wr.heap.size wr w2) :
    ∃ F, MultiI w.heap.size mb ab ts F w2 ∧ ∀ j, F j → w.heap.size ≤ j := by
  have hbz := h.bl.size
  have hl := h.it.length
  have hk := h.len
  refine ⟨fun j => j = mb ∨ j = ab ∨ ∃ x ∈ its, x.2.2 j, ⟨its, 0, k, some ⟨ab, 0, none⟩, _, h.it.keep hb.size fun j hj _ => hb.block j hj, b1, fun i it hit => by simp [hit], by rw [← hl, hk]; exact b2, by omega, fun _ => rfl, fun j => Iff.rfl, fun x hx => ⟨fun hh => ?_, fun hh => ?_⟩, hne, by omega, by omega⟩, fun j hj => ?_⟩
  · have := (h.it.lo x hx _ hh).2; omega
  · have := (h.it.lo x hx _ hh).2; omega
  · rcases hj with rfl | rfl | ⟨x, hx, hxj⟩
    · omega
    · omega
    · exact (h.it.lo x hx j hxj).1

/-- what is known of each source -/
def SrcsOK (ss : List (List (List Int × Int))) : Prop := ∀ st ∈ ss, st.length ≤ 1048576 ∧ (∀ i, i < st.length → (dat st i).length ≤ 1048576)

set_option maxHeartbeats 4000000 in
set_option maxRecDepth 100000 in
theorem implMulti_any {B : Nat} {S0 S1 : Nat → Prop} {w : World} {E : Nat → Addr} (hE : Errs B w E) (hBw : B ≤ w.heap.size) {A A1 : Option Addr} {ss : List (List (List Int × Int))} {zs : List Int} (c c1 : Nat) (h : ElsAt ElS 1 S0 w A ss) (hn : ss.length ≤ 1048576) (hok : SrcsOK ss) (hva : ValidAll (srcs ss)) (hz : IntsAt S1 w A1 zs) (hzs : SizesOK zs) (hzn : zs.length * 32 ≤ 140737488355328) :
    Calls Tryd.prog 22 #[.slice A ss.length c, .slice A1 zs.length c1] w (GotsPost (runs multiStep zs (srcs ss)).1 w) := by
  obtain ⟨i1, hi1, hy0, hy1, hy2⟩ := info_parts infoRdr
  have HE := Lib.hid hE
  have HZ := Lib.hid (h.mono mvS (S' := (· < w.heap.size)) fun k hk _ => hk)
  have HI := Lib.hid (hz.mono (S' := (· < w.heap.size)) fun k hk _ => hk)
  have HOK := Lib.hid hok
  have HVA := Lib.hid hva
  have HZS := Lib.hid hzs
  clear hE h hok hva hz hzs
  generalize hlen : ss.length = n at *
  have HL := Lib.hid hlen
  clear hlen
  have HI0 : Hid (MRI w [] [] 0 (some ⟨w.heap.size, 0, none⟩) 0 (w.alloc (.cells #[] 84))) := Lib.hid ⟨rfl, own_empty w w.heap.size 84 1 (Nat.le_refl _), trivial, fun _ _ _ hx => by (cases hx), (Below.refl _ _).alloc (Nat.le_refl _) _⟩
  go_enter Tryd.func22, Tryd.ntmps22
  go_wp2_with fail
  go_loopg [5, 11] n (fun f v i wr => ∃ (k : Nat) (A' : Option Addr) (c' : Nat), k ≤ n ∧ f = n - k ∧ i = .int .i64 k ∧ v = .slice A' k c' ∧ ∃ its, Hid (MRI w its (srcs (ss.take k)) k A' c' wr))
  case atStart => exact ⟨0, _, 0, Nat.zero_le _, by omega, rfl, rfl, [], by simpa [srcs] using HI0⟩
  case round =>
    obtain ⟨k, A', c', hk, rfl, rfl, rfl, its, HM⟩ := hrel
    have hszr := HM.out.bl.size
    by_cases hlt : k < n
    · have hkl : k < ss.length := by rw [HL.out]; exact hlt
      obtain ⟨ab, aoff, rfl, _, hab, hcs⟩ := (HZ.out.below mvS HM.out.bl).srcAt (by omega)
      obtain ⟨Ai, ci, g1, hci, hrec⟩ := hcs k hkl
      have hmem : ss.getD k [] ∈ ss := by rw [List.getD_eq_getElem?_getD, List.getElem?_eq_getElem hkl]; exact List.getElem_mem _
      have htk : srcs (ss.take (k + 1)) = srcs (ss.take k) ++ [(lastErr (ss.getD k []), ss.getD k [])] := by
        unfold srcs
        rw [List.take_succ_eq_append_getElem hkl, List.map_append]
        simp [hkl]
      obtain ⟨q1, q2⟩ := HOK.out _ hmem
      have q3 : Valid (lastErr (ss.getD k [])) (ss.getD k []) := HVA.out (lastErr (ss.getD k []), ss.getD k []) (List.mem_map.2 ⟨_, hmem, rfl⟩)
      clear hcs hmem
      generalize ss.getD k [] = st at *
      have HTK := Lib.hid htk
      have C := Lib.hid (newReader_src (L := lastErr st) ci (hrec.alloc (.cells #[.slice Ai st.length ci] 53)) (by omega) (fun i hi => by have := q2 i hi; omega) q3 (fun e => by subst e; rfl))
      clear htk hrec q2 q3
      go_wp2_with fail
      refine C.out.mono ?_
      rintro e w1 hnew
      obtain ⟨b, g, F, rfl, hS, hF, hFb, hbel⟩ := srcI_new (B := w.heap.size) hnew (by simp; omega)
      have hs1 := hbel.size
      simp at hs1 hF hbel
      have HS := Lib.hid hS
      have HF := Lib.hid hF
      have HBL := Lib.hid hbel
      have HR1 := Lib.hid (own_keptM HM.out.row (((Kept.refl (fun _ => False) _).alloc (.cells #[.slice Ai st.length ci] 53)).of_below (by simpa using hbel)) fun _ _ hf => hf)
      clear hnew hS hF hFb hbel C
      go_wp2_with (at_builtin; refine wpList_append_gen _ rfl (.tmp 15) (.tmp 19) 79 rfl w.heap.size 84 i1 _ 1 16 Tryd.underlying79 hi1 hy0 hy1 hy2 rfl (by omega) _ k _ rfl (HR1.out.alloc _) (some ⟨w1.heap.size, 0, none⟩) 1 1 [.iface 80 (.pointer (some ⟨b, 0, none⟩))] rfl (by rfl) ((Blk.new w1 84 #[.iface 80 (.pointer (some ⟨b, 0, none⟩))]).news 1) (by simp [Value.oneCell']) (by unfold maxLen; omega) (by omega) (by simp; omega) ?_)
      intro A2 c2 w3 hap
      have HM2 := Lib.hid (mri_next HM.out HS.out HF.out HBL.out hap)
      rw [← HTK.out] at HM2
      clear hap HM HR1 HS HF HBL
      go_wp2_with fail
      go_roundg (n - (k + 1))
      case measure => omega
      case rel => exact ⟨k + 1, A2, c2, by omega, rfl, by go_num, rfl, its ++ [(b, g, F)], HM2⟩
    · have hkn : k = n := by omega
      subst hkn
      have htk : ss.take k = ss := List.take_of_length_le (by rw [HL.out]; exact Nat.le_refl _)
      rw [htk] at HM
      have CM := Lib.hid (multiReader_any (w := wr) (vs := its.map fun x => rdV x.1) (A := A') (n := k) c' hn (by rw [List.length_map, HM.out.len]) (fun u hu => by
        obtain ⟨x, _, rfl⟩ := List.mem_map.1 hu
        rfl) (fun h0 => by
        obtain ⟨gb, e1, _, e3, _, e5⟩ := own_cell HM.out.row h0
        refine ⟨gb, e1, e3, fun j v hv => ?_⟩
        have hj : j < k := by
          have h' := (List.getElem?_eq_some_iff.1 hv).1
          rwa [List.length_map, HM.out.len] at h'
        rw [e5 j hj]
        exact hv))
      have HSC := Lib.hid fun (w2 : World) (mb ab : Nat) (F : Nat → Prop) (hMI : MultiI w.heap.size mb ab (srcs ss) F w2) (hF : ∀ j, F j → w.heap.size ≤ j) (hb : Below w.heap.size w w2) =>
        script_any (multi_rdr w.heap.size E mb ab) ((HE.out.raise hBw).below hb) hb.size hMI c1 (HI.out.below hb) (fun j hj hFj => by have := hF j hFj; omega) HZS.out hzn
      clear htk
      generalize zs.length = nz at *
      generalize runs multiStep zs (srcs ss) = Q at *
      go_wp2_with fail
      refine CM.out.mono ?_
      rintro e w2 ⟨mb, ab, rfl, hmb, hab, hne, hb1, hb2, hbel⟩
      obtain ⟨F, hMI, hF⟩ := mri_multi HM.out hmb hab hne hb1 hb2 hbel
      have hb02 := HM.out.bl.trans (hbel.mono hszr)
      have C2 := Lib.hid (HSC.out w2 mb ab F hMI hF hb02)
      have HF := Lib.hid hF
      have HBL := Lib.hid hb02
      clear hMI hF hb02 hb1 hb2 hbel HM HSC CM
      go_wp2_with fail
      refine C2.out.mono ?_
      rintro e w3 ⟨A3, c3, F3, rfl, hc3, hr3, _, _, hk3⟩
      have hz2 := HBL.out.size
      have HP : Hid (GotsPost Q.1 w (.returned (.slice A3 Q.1.length c3)) w3) := Lib.hid ⟨A3, c3, rfl, hc3, hr3.mono (fun j _ hj => by have := hj.1; omega), HBL.out.trans (hk3.below HBL.out.size fun j hj hD => by have := HF.out j hD; omega)⟩
      clear hr3 hk3 C2
      go_wp2_with fail
      go_ret
      exact HP.out

end Go.Proofs.YtmoecjhlonokfaaDoor
