/- impl.script over whatever reader: one read behind the other. -/
import Derived.Test.YtmoecjhlonokfaaDoorRdr
import Derived.Test.YtmoecjhlonokfaaDoorRowAt
import Derived.Deep.RegionLaw
set_option linter.unusedVariables false
set_option linter.unusedSimpArgs false
namespace Go.Proofs.YtmoecjhlonokfaaDoor
open Go.RowKit

section
variable {τ : Type} {B : Nat} {E : Nat → Addr} {ty : TypeId} {rb : Nat} {f : FuncId} {I : τ → (Nat → Prop) → World → Prop} {step : τ → Nat → (List Int × Int) × τ}

/-- what a read leaves, the buffer behind the bytes left open -/
def ReadPostW (I : τ → (Nat → Prop) → World → Prop) (E : Nat → Addr) (F : Nat → Prop) (pb : Nat) (r : (List Int × Int) × τ) (w : World) (e : Ending) (w' : World) : Prop :=
  e = .returned (.tuple #[.int .i64 r.1.1.length, errV E r.1.2]) ∧ (∃ F', I r.2 F' w' ∧ ∀ k, F' k → F k ∨ w.heap.size ≤ k) ∧ (∃ rest, Blk w' pb 5 (bytesV r.1.1 ++ rest).toArray) ∧ Kept (fun k => F k ∨ k = pb) w w'

/-- a reader of which less is known: what stands in the buffer behind the bytes is left open -/
structure RdrW (B : Nat) (E : Nat → Addr) (ty : TypeId) (rb : Nat) (f : FuncId) (I : τ → (Nat → Prop) → World → Prop) (step : τ → Nat → (List Int × Int) × τ) : Prop where
  nil : ∀ w, (nilAhead 229 ty (.pointer (some ⟨rb, 0, none⟩)) "Read").run Tryd.prog w = .ok (some false) w
  met : ∀ w, (method 229 ty (.pointer (some ⟨rb, 0, none⟩)) "Read").run Tryd.prog w = .ok (f, .pointer (some ⟨rb, 0, none⟩)) w
  ent : ∀ args w, (callFunc f args).run Tryd.prog w = .ok (.enter f args) w
  keep : ∀ {t F w w'}, I t F w → w.heap.size ≤ w'.heap.size → (∀ k, k < w.heap.size → F k → w'.heap[k]? = w.heap[k]?) → I t F w'
  lo : ∀ {t F w k}, I t F w → F k → B ≤ k ∧ k < w.heap.size
  len : ∀ t m, (step t m).1.1.length ≤ m
  err : ∀ {t F w} m, I t F w → (step t m).1.2 = 0 ∨ (step t m).1.2 = 1 ∨ (step t m).1.2 = 2 ∨ (step t m).1.2 = 3
  read : ∀ {t F w pb pc m} (c : Nat), I t F w → Errs B w E → B ≤ w.heap.size → Blk w pb 5 (List.toArray pc) → ¬ F pb → B ≤ pb → m ≤ pc.length → m ≤ c → m ≤ 1048576 →
    Calls Tryd.prog f #[.pointer (some ⟨rb, 0, none⟩), .slice (some ⟨pb, 0, none⟩) m c] w (ReadPostW I E F pb (step t m) w)

theorem Rdr.weak (R : Rdr B E ty rb f I step) : RdrW B E ty rb f I step where
  nil := R.nil
  met := R.met
  ent := R.ent
  keep := R.keep
  lo := R.lo
  len := R.len
  err := R.err
  read := fun {t F w pb pc m} c h hE hBw hp hFp hBp hfit hc hm => by
    refine (R.read (P := some ⟨pb, 0, none⟩) (m := m) (poff := 0) c h hE hBw hp hFp hBp (by omega) (fun _ => rfl) hc (by omega)).mono ?_
    rintro e w' ⟨he, hI, hb, hk⟩
    unfold splice at hb
    rw [List.take_zero, List.nil_append] at hb
    exact ⟨he, hI, ⟨_, hb⟩, hk⟩

theorem RdrW.kept (R : RdrW B E ty rb f I step) {t : τ} {F D : Nat → Prop} {w w' : World} (h : I t F w) (hk : Kept D w w') (hd : ∀ k, k < w.heap.size → F k → ¬ D k) : I t F w' :=
  R.keep h hk.size fun k hk' hF => hk.block k hk' (hd k hk' hF)

/-- one read behind the other, with buffers of some sizes -/
def runs (step : τ → Nat → (List Int × Int) × τ) : List Int → τ → List (List Int × Int) × τ
  | [], t => ([], t)
  | z :: zs, t => ((step t z.toNat).1 :: (runs step zs (step t z.toNat).2).1, (runs step zs (step t z.toNat).2).2)
theorem runs_length (step : τ → Nat → (List Int × Int) × τ) : ∀ (zs : List Int) (t : τ), (runs step zs t).1.length = zs.length
  | [], _ => rfl
  | _ :: zs, _ => by simp [runs, runs_length step zs]
theorem runs_small (step : τ → Nat → (List Int × Int) × τ) (hl : ∀ t m, (step t m).1.1.length ≤ m) : ∀ (zs : List Int) (t : τ) (i : Nat), i < zs.length → (dat (runs step zs t).1 i).length ≤ (nth zs i).toNat
  | [], _, _, h => by simp at h
  | z :: zs, t, 0, _ => hl t z.toNat
  | z :: zs, t, i + 1, h => runs_small step hl zs (step t z.toNat).2 i (by simpa using h)

theorem RowAt.move {t : TypeId} {base : Nat} {X X' D : Nat → Prop} {wr w' : World} {A : Option Addr} {k c : Nat} {l : List (List Int × Int)} {xs : List Value} (h : RowAt t base X wr A k c l xs) (hk : Kept D wr w') (hd : ∀ j, base ≤ j → j < wr.heap.size → ¬ X j → ¬ D j ∧ ¬ X' j) : RowAt t base X' w' A k c l xs := by
  have hlt := fun j e => own_block_lt h.own (g := j) e
  refine ⟨⟨h.own.1, ?_⟩, fun j e => (hd j (hlt j e).1 (hlt j e).2 (h.nx j e)).2, h.len, fun i hi => ?_⟩
  · rcases h.own.2 with h2 | ⟨g, cap, cur, hv, hg, hh, r⟩
    · exact Or.inl h2
    · have hlt := (Array.getElem?_eq_some_iff.1 hh).1
      exact Or.inr ⟨g, cap, cur, hv, hg, by rw [hk.block g hlt (hd g hg hlt (h.nx g (by rw [hv]; rfl))).1]; exact hh, r⟩
  · obtain ⟨Ai, ci, h1, h2, h3, h4⟩ := h.cells i hi
    exact ⟨Ai, ci, h1, h2, h3, h4.move hk.size fun j hj hS => ⟨⟨hS.1, Nat.lt_of_lt_of_le hS.2.1 hk.size, hS.2.2.1, (hd j hS.1 hj hS.2.2.2).2⟩, hk.block j hj (hd j hS.1 hj hS.2.2.2).1⟩⟩

/-- what the reads leave -/
def ScPost (I : τ → (Nat → Prop) → World → Prop) (F : Nat → Prop) (R : List (List Int × Int) × τ) (w : World) (e : Ending) (w' : World) : Prop :=
  ∃ A c F', e = .returned (.slice A R.1.length c) ∧ R.1.length ≤ c ∧ RecsAt (fun j => w.heap.size ≤ j ∧ j < w'.heap.size ∧ ¬ F' j) w' A R.1 ∧ I R.2 F' w' ∧ (∀ k, F' k → F k ∨ w.heap.size ≤ k) ∧ Kept F w w'

/-- what holds at the head of a round -/
def ScInv (I : τ → (Nat → Prop) → World → Prop) (step : τ → Nat → (List Int × Int) × τ) (F : Nat → Prop) (zs : List Int) (R : List (List Int × Int) × τ) (w : World) (k : Nat) (A' : Option Addr) (c' : Nat) (wr : World) : Prop :=
  ∃ done xs t' F', RowAt 56 w.heap.size F' wr A' k c' done xs ∧ I t' F' wr ∧ R = (done ++ (runs step (zs.drop k) t').1, (runs step (zs.drop k) t').2) ∧ Kept F w wr ∧ (∀ j, F' j → F j ∨ w.heap.size ≤ j)

theorem codeI_s {c : Int} (h : c = 0 ∨ c = 1 ∨ c = 2 ∨ c = 3) : codeI c = c := by rcases h with rfl | rfl | rfl | rfl <;> rfl
theorem isErr_s {c : Int} (h : c = 0 ∨ c = 1 ∨ c = 2 ∨ c = 3) : c = 0 ∨ ∃ k : Nat, c = k ∧ isErr k = true := by
  rcases h with rfl | rfl | rfl | rfl
  · exact .inl rfl
  · exact .inr ⟨1, rfl, rfl⟩
  · exact .inr ⟨2, rfl, rfl⟩
  · exact .inr ⟨3, rfl, rfl⟩

set_option maxHeartbeats 1000000 in
set_option maxRecDepth 100000 in
theorem script_any (R : RdrW B E ty rb f I step) {S1 : Nat → Prop} {w : World} (hE : Errs B w E) (hBw : B ≤ w.heap.size) {t : τ} {F : Nat → Prop} (hI : I t F w) {A1 : Option Addr} {zs : List Int} (c1 : Nat) (hz : IntsAt S1 w A1 zs) (hS1 : ∀ k, S1 k → ¬ F k) (hzs : SizesOK zs) (hzn : zs.length * 32 ≤ 140737488355328) :
    Calls Tryd.prog 36 #[.iface ty (.pointer (some ⟨rb, 0, none⟩)), .slice A1 zs.length c1] w (ScPost I F (runs step zs t) w) := by
  obtain ⟨i1, hi1, hy0, hy1, hy2⟩ := info_parts infoGot
  have HZ := Lib.hid hz
  have HS1 := Lib.hid hS1
  have HZS := Lib.hid hzs
  have HE := Lib.hid hE
  have HR := Lib.hid R
  have hnilR := R.nil
  have hmetR := R.met
  have hentR := R.ent
  have HBF := Lib.hid fun k (hk : F k) => (R.lo hI hk).1
  have HI0 : Hid (ScInv I step F zs (runs step zs t) w 0 (some ⟨w.heap.size, 0, none⟩) 0 (w.alloc (.cells #[] 56))) := Lib.hid ⟨[], [], t, F, RowAt.empty _ w _ F (Nat.le_refl _) (fun hh => by have := (R.lo hI hh).2; omega), R.kept hI ((Kept.refl (fun _ => False) _).alloc _) (fun _ _ _ hf => hf), by simp, (Kept.refl _ _).alloc _, fun j hj => .inl hj⟩
  generalize runs step zs t = Res at *
  clear hz hS1 hzs hE R hI
  generalize hlen : zs.length = len at *
  have HL := Lib.hid hlen
  clear hlen
  go_enter Tryd.func36, Tryd.ntmps36
  go_wp2_with fail
  go_loopg [5, 14] len (fun f v i wr => ∃ (k : Nat) (A' : Option Addr) (c' : Nat), k ≤ len ∧ f = len - k ∧ i = .int .i64 k ∧ v = .slice A' k c' ∧ ScInv I step F zs Res w k A' c' wr)
  case atStart => exact ⟨0, _, 0, Nat.zero_le _, by omega, rfl, rfl, HI0.out⟩
  case round =>
    obtain ⟨k, A', c', hk, rfl, rfl, rfl, done, xs, t', F', hrow, hI', hfut, hkept, hF'⟩ := hrel
    have HO := Lib.hid hrow
    have HI := Lib.hid hI'
    have HF := Lib.hid hfut
    have HK := Lib.hid hkept
    have HFF := Lib.hid hF'
    have hszr := hkept.size
    clear hrow hI' hfut hkept hF'
    by_cases hlt : k < len
    · obtain ⟨ab, aoff, rfl, hSa, hab, hcs⟩ := HZ.out (by rw [HL.out]; omega)
      have g2 := (HK.out.cell (p := ⟨ab, aoff + k, none⟩) hab (HS1.out ab hSa)).trans (hcs k (by rw [HL.out]; omega))
      have hzk := HZS.out.1 k (by rw [HL.out]; omega)
      rw [nth_def] at hzk
      have hdrop : zs.drop k = nth zs k :: zs.drop (k + 1) := by
        rw [List.drop_eq_getElem_cons (by rw [HL.out]; exact hlt), nth_get (by rw [HL.out]; exact hlt)]
      have HDR := Lib.hid hdrop
      clear hcs hdrop
      generalize hzz : nth zs k = z at *
      obtain ⟨zn, rfl⟩ : ∃ zn : Nat, z = (zn : Int) := ⟨z.toNat, by omega⟩
      clear hzz
      have hz1 : zn ≤ 1048576 := by omega
      obtain ⟨pc, hpc, hmk⟩ := make_bytes zn (by omega)
      have hKa : Kept (fun _ => False) wr (wr.alloc (.cells pc.toArray 5)) := (Kept.refl _ _).alloc _
      have hEr : Errs B wr E := HE.out.below (HK.out.below hBw fun i hi hD => by have := HBF.out i hD; omega)
      have hEa : Errs B (wr.alloc (.cells pc.toArray 5)) E := hEr.below (hKa.below (by omega) fun _ _ hf => hf)
      have hFlt : ∀ j, F' j → j < wr.heap.size := fun j hj => (HR.out.lo HI.out hj).2
      have C2 := HR.out.read (pb := wr.heap.size) (pc := pc) (m := zn) zn (HR.out.kept HI.out hKa fun _ _ _ hf => hf) hEa (by simp; omega) (Blk.new wr 5 pc.toArray) (fun hh => by have := hFlt _ hh; omega) (by omega) (by omega) (Nat.le_refl _) hz1
      have hal := HR.out.len t' zn
      have hae := HR.out.err zn HI.out
      have hnext : runs step (zs.drop k) t' = ((step t' zn).1 :: (runs step (zs.drop (k + 1)) (step t' zn).2).1, (runs step (zs.drop (k + 1)) (step t' zn).2).2) := by rw [HDR.out, runs, Int.toNat_natCast]
      unfold ReadPostW at C2
      generalize step t' zn = r at *
      obtain ⟨⟨nd, ne⟩, t1⟩ := r
      simp only at hal hae C2 hnext
      have C2' := Lib.hid C2
      have HAE := Lib.hid hae
      have HNX := Lib.hid hnext
      have HFLT := Lib.hid hFlt
      clear C2 hae hnext hKa hEr hEa hFlt
      go_wp2_with fail
      refine C2'.out.mono ?_
      rintro e w3 ⟨rfl, ⟨F1, hI1, hF1⟩, ⟨rest, hblk3⟩, hkept3⟩
      simp at hF1
      have hsz3 := hkept3.size
      simp at hsz3
      have hK3 : Kept F' wr w3 := ((Kept.refl F' wr).alloc (.cells pc.toArray 5)).trans hkept3 (fun j hj hD => by
        rcases hD with h | h
        · exact h
        · omega)
      have hKw : Kept F w w3 := HK.out.trans hK3 fun j hj hD => by
        rcases HFF.out j hD with h | h
        · exact h
        · omega
      have hF1w : ∀ j, F1 j → F j ∨ w.heap.size ≤ j := fun j hj => by
        rcases hF1 j hj with h | h
        · exact HFF.out j h
        · exact .inr (by omega)
      have hF1lt : ∀ j, F1 j → j < w3.heap.size := fun j hj => (HR.out.lo hI1 hj).2
      have hpb1 : ¬ F1 wr.heap.size := fun hh => by
        rcases hF1 _ hh with h | h
        · have := HFLT.out _ h; omega
        · omega
      have hO3 : RowAt 56 w.heap.size F1 w3 A' k c' done xs := HO.out.move hK3 fun j hj hjl hX => ⟨hX, fun h1 => by
        rcases hF1 j h1 with h | h
        · exact hX h
        · omega⟩
      have hE3 : Errs B w3 E := HE.out.below (hKw.below hBw fun i hi hD => by have := HBF.out i hD; omega)
      have CE' := Lib.hid (fromError_any hE3.drew ne (isErr_s HAE.out))
      rw [codeI_s HAE.out] at CE'
      have HI1 := Lib.hid hI1
      have HB3 := Lib.hid hblk3
      have HKW := Lib.hid hKw
      have HO3 := Lib.hid hO3
      have HF1W := Lib.hid hF1w
      have HF1L := Lib.hid hF1lt
      have HPB := Lib.hid hpb1
      have hsl := slice_bytes_to (some ⟨wr.heap.size, 0, none⟩) zn zn nd.length hal
      clear hI1 hF1 hblk3 hkept3 hK3 hKw hF1w hF1lt hpb1 hO3 hE3 hmk g2 C2'
      go_wp2_with fail
      go_region_law (first
        | (refine step_append_gen _ (by rfl) (.tmp 26) (.tmp 33) 45 (by rfl) w.heap.size 56 i1 _ 2 32 Tryd.underlying45 hi1 hy0 hy1 hy2 rfl (by omega) _ k xs (by rfl) (own_drew (HO3.out.own.alloc _)) (some ⟨w3.heap.size, 0, none⟩) 1 1 [.slice (some ⟨wr.heap.size, 0, none⟩) nd.length zn, .int .i64 ne] (by rfl) (by rfl) (((Blk.new w3 56 #[.slice (some ⟨wr.heap.size, 0, none⟩) nd.length zn, .int .i64 ne]).drew).news 1) (by simp [Value.oneCell']) (by unfold maxLen; omega) (by omega) (by simp; omega) ?_; intro A2 c2 w4 hap)
        | (go_simp; go_at_call 29; refine CE'.out.mono ?_; rintro e w' ⟨rfl, rfl⟩))
      have hown := HO3.out.own
      have hgeo : ∀ j, (Value.slice A' k c').ownBlock = some j → w.heap.size ≤ j ∧ j < wr.heap.size := fun j e => own_block_lt HO.out.own e
      have hpb : BytesAt (fun j => w.heap.size ≤ j ∧ some j ≠ (Value.slice A' k c').ownBlock ∧ ¬ F1 j) w3.drew (some ⟨wr.heap.size, 0, none⟩) nd := by
        refine (blk_bytes HB3.out.drew).mono fun j _ e => ?_
        subst e
        exact ⟨by omega, fun e => by have := (hgeo _ e.symm).2; omega, HPB.out⟩
      have hOn := RowAt.snoc (wr := w3.drew) (o := .cells #[.slice (some ⟨wr.heap.size, 0, none⟩) nd.length zn, .int .i64 ne] 56) HO3.out.drew hap (fun j hj hX => by have h1 := HF1L.out j hX; have h2 : w3.heap.size ≤ j := hj; omega) hal hpb
      have hIn : I t1 F1 w4 := HR.out.kept (HR.out.kept HI1.out (((Kept.refl (fun _ => False) _).alloc (.cells #[.slice (some ⟨wr.heap.size, 0, none⟩) nd.length zn, .int .i64 ne] 56)).drew) fun _ _ _ hf => hf) hap.kept fun j _ hj hD => HO3.out.nx j hD.symm hj
      have hKn : Kept F w w4 := ((HKW.out.alloc _).drew).grown hap.grown fun j e hj => by have := (hgeo j e).1; omega
      have HOn := Lib.hid hOn
      have HIn := Lib.hid hIn
      have HKn := Lib.hid hKn
      clear hap hown hgeo hpb hOn hIn hKn
      go_wp2_with fail
      go_roundg (len - (k + 1))
      case measure => omega
      case rel =>
        refine ⟨k + 1, A2, c2, by omega, rfl, by go_num, rfl, done ++ [(nd, ne)], _, t1, F1, HOn.out, HIn.out, ?_, HKn.out, HF1W.out⟩
        rw [HF.out, HNX.out, List.append_assoc]
        rfl
    · have HKL : Hid (k = len) := Lib.hid (by omega)
      go_wp2_with fail
      go_ret
      have h1 := HF.out
      rw [List.drop_of_length_le (by have := HL.out; have := HKL.out; omega)] at h1
      simp only [runs, List.append_nil] at h1
      have hl := HO.out.len
      subst h1
      subst hl
      exact ⟨A', c', F', rfl, own_cap HO.out.own, HO.out.recs, HI.out, HFF.out, HK.out⟩
end

end Go.Proofs.YtmoecjhlonokfaaDoor
