/- spec.Tee over a source and a sink. -/
import Derived.Test.YtbddgkmkdjkloaaDoorTee
import Derived.Test.YtbddgkmkdjkloaaDoorSp
import Derived.Deep.LoopGhost
set_option linter.unusedVariables false
set_option linter.unusedSimpArgs false
namespace Go.Proofs.YtbddgkmkdjkloaaDoor
open Go.RowKit

/-- what holds at the head of a round of the reference's Tee -/
def STInv (base sb : Nat) (L : Int) (w : World) (k : Nat) (A' : Option Addr) (c' : Nat) (T : Option Addr) (n ct : Nat) (done : List (List Int × Int)) (data : List Int) (stk : List (List Int × Int)) (wr : World) : Prop :=
  ∃ xs, RowAt 42 base (fun j => (Value.slice T n ct).ownBlock = some j) wr A' k c' done xs ∧ wr.ownsRow base 5 1 (.slice T n ct) n (bytesV data) ∧ SpAt (· < w.heap.size) wr sb stk L ∧ Below w.heap.size w wr ∧ base ≤ wr.heap.size

theorem st_next {base sb : Nat} {L : Int} {w wr w2 w3 w4 : World} {k : Nat} {A' A2 Ad T T2 : Option Addr} {c' c2 cd n n2 ct ct2 : Nat} {done ns : List (List Int × Int)} {data nd : List Int} {xs : List Value} {ne : Int} {o o2 : Obj}
    (hO : RowAt 42 base (fun j => (Value.slice T n ct).ownBlock = some j) wr A' k c' done xs) (hT : wr.ownsRow base 5 1 (.slice T n ct) n (bytesV data)) (hB : Below w.heap.size w wr) (hbs : base ≤ wr.heap.size) (hsb : w.heap.size ≤ sb) (hbb : sb < base) (hbw : w.heap.size ≤ base)
    (hk : Kept (· = sb) wr w2) (hsp : SpAt (· < w.heap.size) w2 sb ns L) (hcd : nd.length ≤ cd) (hby : BytesAt (fun j => wr.heap.size ≤ j) w2 Ad nd)
    (hap : Appended base 5 1 T2 n2 ct2 (bytesV data ++ bytesV nd) (Value.slice T n ct).ownBlock (w2.alloc o) w3)
    (hap2 : Appended base 42 2 A2 (k + 1) c2 (xs ++ [.slice Ad nd.length cd, .int .i64 ne]) (Value.slice A' k c').ownBlock (w3.alloc o2) w4) :
    STInv base sb L w (k + 1) A2 c2 T2 n2 ct2 (done ++ [(nd, ne)]) (data ++ nd) ns w4 := by
  have hlo : ∀ j, (Value.slice A' k c').ownBlock = some j → base ≤ j ∧ j < wr.heap.size := fun j e => own_block_lt hO.own e
  have hlT : ∀ j, (Value.slice T n ct).ownBlock = some j → base ≤ j ∧ j < wr.heap.size := fun j e => own_block_lt hT e
  have hz := hk.size
  have hz3 := hap.sizeLe
  simp at hz3
  have hz4 := hap2.sizeLe
  simp at hz4
  have hT2 : ∀ j, (Value.slice T2 n2 ct2).ownBlock = some j → (Value.slice T n ct).ownBlock = some j ∨ (w2.heap.size + 1 ≤ j ∧ j < w3.heap.size) := fun j e => by
    rcases hap.2.2 with h | h
    · exact .inl (by rw [← h, e])
    · have := (own_block_lt hap.own e).2
      rw [h] at e; injection e with e; simp at e; exact .inr (by omega)
  have K3 : Kept (fun j => j = sb ∨ (Value.slice T n ct).ownBlock = some j) wr w3 := ((hk.mono fun _ _ e => .inl e).alloc o).trans hap.kept fun j _ e => .inr e.symm
  have hO3 : RowAt 42 base (fun j => (Value.slice T2 n2 ct2).ownBlock = some j) w3 A' k c' done xs := hO.move K3 fun j hj hjl hX => ⟨fun hD => by
    rcases hD with h | h
    · omega
    · exact hX h, fun h2 => by
    rcases hT2 j h2 with h | h
    · exact hX h
    · omega⟩
  have hby3 : BytesAt (fun j => base ≤ j ∧ some j ≠ (Value.slice A' k c').ownBlock ∧ ¬ (Value.slice T2 n2 ct2).ownBlock = some j) w3 Ad nd := by
    have h1 := (hby.mono (S' := fun j => wr.heap.size ≤ j ∧ j < w2.heap.size) fun j hj h => ⟨h, hj⟩).alloc o
    refine (h1.kept hap.kept fun j _ hj hD => by have := (hlT j hD.symm).2; omega).mono fun j _ hj => ⟨by omega, fun e => by have := (hlo j e.symm).2; omega, fun e => ?_⟩
    rcases hT2 j e with h | h
    · have := (hlT j h).2; omega
    · omega
  have hn := RowAt.snoc hO3 hap2 (fun j hj e => by have := (own_block_lt hap.own e).2; omega) hcd hby3
  refine ⟨_, hn, ?_, ?_, ?_, by omega⟩
  · have h1 := hap.own
    rw [← bytesV_append] at h1
    refine World.ownsRow.kept (h1.alloc o2) hap2.grown ?_
    cases ho : (Value.slice T2 n2 ct2).ownBlock with
    | none => exact .inl rfl
    | some gg => exact .inr (fun e => by
        have := hO3.nx gg
        rw [ho] at this
        exact this (by first | exact e | exact e.symm) rfl)
  · refine ((hsp.kept ((Kept.refl (fun _ => False) _).alloc o) fun _ _ _ hf => hf).kept hap.kept fun j _ hj hD => ?_).kept (((Kept.refl (fun j => some j = (Value.slice A' k c').ownBlock) w3).alloc o2).trans hap2.kept fun _ _ h => h) fun j _ hj hD => ?_
    · have := (hlT j hD.symm).1
      rcases hj with h | h <;> omega
    · have := (hlo j hD.symm).1
      rcases hj with h | h <;> omega
  · refine (hB.trans (K3.below hB.size fun j hj hD => ?_)).trans ((((Kept.refl (fun j => some j = (Value.slice A' k c').ownBlock) w3).alloc o2).trans hap2.kept fun _ _ h => h).below (by have := hB.size; omega) fun j hj hD => ?_)
    · rcases hD with h | h
      · omega
      · have := (hlT j h).1; omega
    · have := (hlo j hD.symm).1; omega

set_option maxHeartbeats 2000000 in
set_option maxRecDepth 100000 in
theorem specTee_any {S S1 : Nat → Prop} {w : World} {A A1 : Option Addr} {st : List (List Int × Int)} {zs : List Int} (c c1 : Nat) (h : RecsAt S w A st)
    (hn : st.length ≤ 281474976710656) (hd : ∀ i, i < st.length → (dat st i).length ≤ 140737488355328) (hz : IntsAt S1 w A1 zs) (hzs : SizesOK zs) (hzn : zs.length * 32 ≤ 140737488355328) (lim : Nat) (hlim : (lim : Int) ≤ 9223372036854775807) (hj : (joinD st).length ≤ 70368744177664) :
    Calls Tryd.prog 27 #[.agg #[.slice A st.length c], .agg #[.int .i64 lim], .slice A1 zs.length c1] w (TeePost (runs (teeStep (rd (lastErr st))) zs (st, lim, [])).1 (runs (teeStep (rd (lastErr st))) zs (st, lim, [])).2.2.2 w) := by
  obtain ⟨i0, hi0, hz0, hz1, hz2⟩ := info_parts infoU8
  obtain ⟨i1, hi1, hy0, hy1, hy2⟩ := info_parts infoGot
  have hR := h.mono (S' := (· < w.heap.size)) fun k hk _ => hk
  have HN := fun o o' : Obj => Lib.hid (sp_new (c := c) ((hR.alloc o).alloc o') (fun j hj => by simp; omega) hn hd)
  have HZ := Lib.hid (hz.mono (S' := (· < w.heap.size)) fun k hk _ => hk)
  have HZS := Lib.hid hzs
  have HJ := Lib.hid hj
  clear h hR hd hz hzs hj
  generalize lastErr st = L at *
  generalize hlen : zs.length = len at *
  have HL := Lib.hid hlen
  clear hlen
  go_enter Tryd.func27, Tryd.ntmps27
  go_wp2_with fail
  go_loopg [9, 10, 11] len (fun f v y i wr => ∃ (k : Nat) (A' : Option Addr) (c' : Nat) (T : Option Addr) (n ct left : Nat) (done stk : List (List Int × Int)) (data : List Int), k ≤ len ∧ f = len - k ∧ i = .int .i64 k ∧ v = .slice A' k c' ∧ y = .slice T n ct ∧ left + n = lim ∧ n + (joinD stk).length ≤ 70368744177664 ∧ Hid (data.length = n) ∧
    Hid (runs (teeStep (rd L)) zs (st, lim, []) = (done ++ (runs (teeStep (rd L)) (zs.drop k) (stk, left, data)).1, (runs (teeStep (rd L)) (zs.drop k) (stk, left, data)).2)) ∧ Hid (STInv (w.heap.size + 3) (w.heap.size + 2) L w k A' c' T n ct done data stk wr) ∧ wr.cell? ⟨w.heap.size + 1, 0, none⟩ = some (.int .i64 lim))
  case atStart =>
    refine ⟨0, _, 0, _, 0, 0, lim, [], st, [], Nat.zero_le _, by omega, rfl, rfl, rfl, by omega, by have := HJ.out; omega, Lib.hid rfl, Lib.hid (by simp), Lib.hid ⟨[], ?_, ?_, ?_, ?_, by simp⟩, ?_⟩
    · have := RowAt.empty 42 (((w.alloc (.cells #[.slice A st.length c] 24)).alloc (.cells #[.int .i64 lim] 46)).alloc (.cells #[.slice A st.length c, .int .i64 0, .int .i64 0] 67)) (w.heap.size + 3) (fun j => j = w.heap.size + 4) (by simp) (by simp)
      simp at this
      refine (this.alloc _).mono (Nat.le_refl _) fun j _ hX e => hX ?_
      injection e with e
      simp at e
      omega
    · have := own_empty ((((w.alloc (.cells #[.slice A st.length c] 24)).alloc (.cells #[.int .i64 lim] 46)).alloc (.cells #[.slice A st.length c, .int .i64 0, .int .i64 0] 67)).alloc (.cells #[] 42)) (w.heap.size + 3) 5 1 (by simp)
      simpa [bytesV] using this
    · have := (HN (.cells #[.slice A st.length c] 24) (.cells #[.int .i64 lim] 46)).out
      simp at this
      exact this.kept (((Kept.refl (fun _ => False) _).alloc _).alloc _) fun _ _ _ hf => hf
    · exact (((((Below.refl _ _).alloc (Nat.le_refl _) _).alloc (by simp) _).alloc (by simp; omega) _).alloc (by simp; omega) _).alloc (by simp; omega) _
    · rw [World.cell?_alloc_lt _ _ _ (by simp), World.cell?_alloc_lt _ _ _ (by simp), World.cell?_alloc_lt _ _ _ (by simp)]
      simp
  case round =>
    obtain ⟨k, A', c', T, n, ct, left, done, stk, data, hk, rfl, rfl, rfl, rfl, hll, hnb, HDN, HF, HI, hsc⟩ := hrel
    obtain ⟨xs, hrow, htk, hsp, hbel, hbs⟩ := HI.out
    have HO := Lib.hid hrow
    have HT := Lib.hid htk
    have HBr := Lib.hid hbel
    have HSP := Lib.hid hsp
    clear hrow htk hbel hsp HI
    by_cases hlt : k < len
    · obtain ⟨ab, aoff, rfl, habw, hab, hcs⟩ := HZ.out.below HBr.out (by rw [HL.out]; omega)
      have g2 := hcs k (by rw [HL.out]; omega)
      have hzk := HZS.out.1 k (by rw [HL.out]; omega)
      rw [nth_def] at hzk
      have hdrop : zs.drop k = nth zs k :: zs.drop (k + 1) := by
        rw [List.drop_eq_getElem_cons (by rw [HL.out]; exact hlt), nth_get (by rw [HL.out]; exact hlt)]
      have HDR := Lib.hid hdrop
      clear hcs hdrop
      generalize hzz : nth zs k = z at *
      obtain ⟨zn, rfl⟩ : ∃ zn : Nat, z = (zn : Int) := ⟨z.toNat, by omega⟩
      clear hzz
      have hz1' : zn ≤ 1048576 := by omega
      have hnext : runs (teeStep (rd L)) (zs.drop k) (stk, left, data) = ((teeStep (rd L) (stk, left, data) zn).1 :: (runs (teeStep (rd L)) (zs.drop (k + 1)) (teeStep (rd L) (stk, left, data) zn).2).1, (runs (teeStep (rd L)) (zs.drop (k + 1)) (teeStep (rd L) (stk, left, data) zn).2).2) := by rw [HDR.out, runs, Int.toNat_natCast]
      have hst : teeStep (rd L) (stk, left, data) zn = (((rd L stk zn).1.1.take left, if left < (rd L stk zn).1.1.length then 3 else (rd L stk zn).1.2), ((rd L stk zn).2, left - ((rd L stk zn).1.1.take left).length, data ++ (rd L stk zn).1.1.take left)) := rfl
      rw [hst] at hnext
      have C := sp_read zn HSP.out
      have hal := rd_len L stk zn
      have hrn := rd_n L stk zn
      generalize rd L stk zn = r at *
      obtain ⟨⟨nd, ne⟩, ns⟩ := r
      simp only at hal C hnext hrn
      have C' := Lib.hid C
      have HNX := Lib.hid hnext
      clear C hnext hst
      go_wp2_with fail
      refine C'.out.mono ?_
      rintro e w2 ⟨Ad, cd, rfl, hcd, hbd, hsp2, hk2⟩
      have hsz2 := hk2.size
      have hsc2 := (hk2.cell (p := ⟨w.heap.size + 1, 0, none⟩) (show w.heap.size + 1 < wr.heap.size by omega) (show ¬ w.heap.size + 1 = w.heap.size + 2 by omega)).trans hsc
      have hscA := fun o : Obj => (World.cell?_alloc_lt w2 (a := ⟨w.heap.size + 1, 0, none⟩) o (show w.heap.size + 1 < w2.heap.size by omega)).trans hsc2
      have HBD := Lib.hid hbd
      have HSP2 := Lib.hid hsp2
      have HK2 := Lib.hid hk2
      have HT2 := Lib.hid (own_kept HT.out hk2 fun g hg _ e => by omega)
      have htl : (nd.take left).length = min left nd.length := List.length_take
      have hneT : ∀ j, (Value.slice T n ct).ownBlock = some j → w.heap.size + 3 ≤ j ∧ j < wr.heap.size := fun j e => own_block_lt HT.out e
      have HNT := Lib.hid hneT
      clear hbd hsp2 hk2 C' g2 hsc hneT
      have hsub : (lim : Int) - (n : Int) = (left : Int) := by omega
      by_cases hfl : left < nd.length
      · rw [if_pos hfl] at HNX
        have hfl1 : (lim : Int) - (n : Int) < (nd.length : Int) := by omega
        have hsl := fun w' : World => slice_bytes_to Ad nd.length cd left (by omega) w'
        have htl' : (nd.take left).length = left := by omega
        have HTK := Lib.hid (HBD.out.take left)
        have HTN := Lib.hid (show NewsAt (w2.alloc (.cells #[.slice Ad left cd, .int .i64 3] 42)) Ad left (bytesV (nd.take left)) by have := (HTK.out.alloc (.cells #[.slice Ad left cd, .int .i64 3] 42)).news; rw [htl'] at this; exact this)
        have HTL := Lib.hid htl'
        have hnb2 : n + left ≤ 70368744177664 := by omega
        have hlc : left ≤ cd := by omega
        rw [htl'] at HNX
        generalize nd.take left = nt at *
        clear htl htl' hfl
        go_wp2_with (at_builtin; refine wpList_append_gen _ rfl (.tmp 46) (.tmp 48) 32 rfl (w.heap.size + 3) 5 i0 _ 1 1 Tryd.underlying32 hi0 hz0 hz1 hz2 rfl (by omega) _ n (bytesV data) rfl (HT2.out.alloc _) Ad left cd (bytesV nt) rfl (by rw [bytesV_length, HTL.out]; omega) HTN.out (bytesV_one nt) (by unfold maxLen; omega) (by omega) (by simp; omega) ?_)
        intro T2 ct2 w3 hap
        have bx := (Blk.new w2 42 #[.slice Ad left cd, .int .i64 3]).grown hap.grown (fun e => by have := (HNT.out _ e.symm).2; omega)
        have x0 := bx.cell 0
        have x1 := bx.cell 1
        simp at x0 x1
        have hsc3 := (hap.cell (a := ⟨w.heap.size + 1, 0, none⟩) (by simp; omega) (fun e => by have h9 : w.heap.size + 3 ≤ w.heap.size + 1 := (HNT.out _ e.symm).1; omega)).trans ((World.cell?_alloc_lt w2 (a := ⟨w.heap.size + 1, 0, none⟩) _ (by simp; omega)).trans hsc2)
        have hsz3 := hap.sizeLe
        simp at hsz3
        have HAP := Lib.hid hap
        have HOW := Lib.hid (show w3.ownsRow (w.heap.size + 3) 42 2 (.slice A' k c') k xs from ((own_kept HO.out.own HK2.out fun g hg _ e => by omega).alloc _).kept hap.grown (by
          cases ho : (Value.slice A' k c').ownBlock with
          | none => exact .inl rfl
          | some gg => exact .inr fun e => HO.out.nx gg ho (by first | exact e | exact e.symm)))
        clear hap bx hsc2 hscA
        go_wp2_with (at_builtin; refine wpList_append_gen _ rfl (.tmp 50) (.tmp 52) 29 rfl (w.heap.size + 3) 42 i1 _ 2 32 Tryd.underlying29 hi1 hy0 hy1 hy2 rfl (by omega) _ k xs rfl (HOW.out.alloc _) (some ⟨w3.heap.size, 0, none⟩) 1 1 [.slice Ad left cd, .int .i64 3] rfl (by rfl) ((Blk.new w3 42 #[.slice Ad left cd, .int .i64 3]).news 1) (by simp [Value.oneCell']) (by unfold maxLen; omega) (by omega) (by simp; omega) ?_)
        intro A2 c2 w4 hap2
        have hsc4 := (hap2.cell (a := ⟨w.heap.size + 1, 0, none⟩) (by simp; omega) (fun e => by have h9 : w.heap.size + 3 ≤ w.heap.size + 1 := (own_block_lt HO.out.own e.symm).1; omega)).trans ((World.cell?_alloc_lt w3 (a := ⟨w.heap.size + 1, 0, none⟩) _ (by simp; omega)).trans hsc3)
        have HIn := Lib.hid (st_next (nd := nt) (ne := 3) HO.out HT.out HBr.out hbs (by omega) (by omega) (by omega) HK2.out HSP2.out (by rw [HTL.out]; omega) HTK.out HAP.out (by rw [HTL.out]; exact hap2))
        clear hap2 x0 x1 hsc3
        go_wp2_with fail
        go_roundg (len - (k + 1))
        case measure => omega
        case rel =>
          refine ⟨k + 1, A2, c2, T2, n + left, ct2, left - left, done ++ [(nt, 3)], ns, data ++ nt, by omega, rfl, by go_num, rfl, rfl, by omega, by omega, Lib.hid (by rw [List.length_append, HDN.out, HTL.out]), Lib.hid ?_, HIn, hsc4⟩
          rw [HF.out, HNX.out, List.append_assoc]
          rfl
      · rw [if_neg hfl, List.take_of_length_le (show nd.length ≤ left by omega)] at HNX
        have hfl1 : ¬ (lim : Int) - (n : Int) < (nd.length : Int) := by omega
        have HTN := Lib.hid (show NewsAt (w2.alloc (.cells #[.slice Ad nd.length cd, .int .i64 ne] 42)) Ad nd.length (bytesV nd) from (HBD.out.alloc _).news)
        clear htl
        go_wp2_with (at_builtin; refine wpList_append_gen _ rfl (.tmp 46) (.tmp 48) 32 rfl (w.heap.size + 3) 5 i0 _ 1 1 Tryd.underlying32 hi0 hz0 hz1 hz2 rfl (by omega) _ n (bytesV data) rfl (HT2.out.alloc _) Ad nd.length cd (bytesV nd) rfl (by rw [bytesV_length]; omega) HTN.out (bytesV_one nd) (by unfold maxLen; omega) (by omega) (by simp; omega) ?_)
        intro T2 ct2 w3 hap
        have bx := (Blk.new w2 42 #[.slice Ad nd.length cd, .int .i64 ne]).grown hap.grown (fun e => by have := (HNT.out _ e.symm).2; omega)
        have x0 := bx.cell 0
        have x1 := bx.cell 1
        simp at x0 x1
        have hsc3 := (hap.cell (a := ⟨w.heap.size + 1, 0, none⟩) (by simp; omega) (fun e => by have h9 : w.heap.size + 3 ≤ w.heap.size + 1 := (HNT.out _ e.symm).1; omega)).trans ((World.cell?_alloc_lt w2 (a := ⟨w.heap.size + 1, 0, none⟩) _ (by simp; omega)).trans hsc2)
        have hsz3 := hap.sizeLe
        simp at hsz3
        have HAP := Lib.hid hap
        have HOW := Lib.hid (show w3.ownsRow (w.heap.size + 3) 42 2 (.slice A' k c') k xs from ((own_kept HO.out.own HK2.out fun g hg _ e => by omega).alloc _).kept hap.grown (by
          cases ho : (Value.slice A' k c').ownBlock with
          | none => exact .inl rfl
          | some gg => exact .inr fun e => HO.out.nx gg ho (by first | exact e | exact e.symm)))
        clear hap bx hsc2 hscA hfl
        go_wp2_with (at_builtin; refine wpList_append_gen _ rfl (.tmp 50) (.tmp 52) 29 rfl (w.heap.size + 3) 42 i1 _ 2 32 Tryd.underlying29 hi1 hy0 hy1 hy2 rfl (by omega) _ k xs rfl (HOW.out.alloc _) (some ⟨w3.heap.size, 0, none⟩) 1 1 [.slice Ad nd.length cd, .int .i64 ne] rfl (by rfl) ((Blk.new w3 42 #[.slice Ad nd.length cd, .int .i64 ne]).news 1) (by simp [Value.oneCell']) (by unfold maxLen; omega) (by omega) (by simp; omega) ?_)
        intro A2 c2 w4 hap2
        have hsc4 := (hap2.cell (a := ⟨w.heap.size + 1, 0, none⟩) (by simp; omega) (fun e => by have h9 : w.heap.size + 3 ≤ w.heap.size + 1 := (own_block_lt HO.out.own e.symm).1; omega)).trans ((World.cell?_alloc_lt w3 (a := ⟨w.heap.size + 1, 0, none⟩) _ (by simp; omega)).trans hsc3)
        have HIn := Lib.hid (st_next HO.out HT.out HBr.out hbs (by omega) (by omega) (by omega) HK2.out HSP2.out hcd HBD.out HAP.out hap2)
        clear hap2 x0 x1 hsc3
        go_wp2_with fail
        go_roundg (len - (k + 1))
        case measure => omega
        case rel =>
          refine ⟨k + 1, A2, c2, T2, n + nd.length, ct2, left - nd.length, done ++ [(nd, ne)], ns, data ++ nd, by omega, rfl, by go_num, rfl, rfl, by omega, by omega, Lib.hid (by rw [List.length_append, HDN.out]), Lib.hid ?_, HIn, hsc4⟩
          rw [HF.out, HNX.out, List.append_assoc]
          rfl
    · have HK : Hid (k = len) := Lib.hid (by omega)
      go_wp2_with fail
      go_ret2
      have h1 := HF.out
      rw [List.drop_of_length_le (by have := HL.out; have := HK.out; omega)] at h1
      rw [h1]
      simp only [runs, List.append_nil]
      have hl := HO.out.len
      have hdn := HDN.out
      subst hl
      subst hdn
      exact ⟨A', c', T, ct, rfl, own_cap HO.out.own, own_cap HT.out, HO.out.recs.mono (fun j _ hj => by omega), (own_bytes HT.out).mono (fun j _ hj => by have := (own_block_lt HT.out hj).1; omega), HBr.out⟩

end Go.Proofs.YtbddgkmkdjkloaaDoor
