/- spec.Reads over a source: one read behind the other. -/
import Derived.Test.YtmoecjhlonokfaaDoorSp
import Derived.Test.YtmoecjhlonokfaaDoorScript
import Derived.Deep.LoopGhost
set_option linter.unusedVariables false
set_option linter.unusedSimpArgs false
namespace Go.Proofs.YtmoecjhlonokfaaDoor
open Go.RowKit

/-- what holds at the head of a round of the reference's reads -/
def SRInv (base sb : Nat) (L : Int) (w : World) (k : Nat) (A' : Option Addr) (c' : Nat) (done : List (List Int × Int)) (stk : List (List Int × Int)) (wr : World) : Prop :=
  ∃ xs, OutAt base wr A' k c' done xs ∧ SpAt (· < w.heap.size) wr sb stk L ∧ Below w.heap.size w wr ∧ base ≤ wr.heap.size

/-- one answer more -/
theorem sr_next {base sb : Nat} {L : Int} {w wr w2 w3 : World} {k : Nat} {A' A2 Ad : Option Addr} {c' c2 cd : Nat} {done ns : List (List Int × Int)} {xs : List Value} {nd : List Int} {ne : Int} {o : Obj} (hO : OutAt base wr A' k c' done xs) (hB : Below w.heap.size w wr) (hbs : base ≤ wr.heap.size) (hsb : w.heap.size ≤ sb) (hbb : sb < base) (hbw : w.heap.size ≤ base)
    (hk : Kept (· = sb) wr w2) (hsp : SpAt (· < w.heap.size) w2 sb ns L) (hcd : nd.length ≤ cd) (hby : BytesAt (fun j => wr.heap.size ≤ j) w2 Ad nd)
    (hap : Appended base 56 2 A2 (k + 1) c2 (xs ++ [.slice Ad nd.length cd, .int .i64 ne]) (Value.slice A' k c').ownBlock (w2.alloc o) w3) : SRInv base sb L w (k + 1) A2 c2 (done ++ [(nd, ne)]) ns w3 := by
  have hlo : ∀ j, (Value.slice A' k c').ownBlock = some j → base ≤ j ∧ j < wr.heap.size := fun j e => own_block_lt hO.own e
  have hz := hk.size
  have hO2 : OutAt base w2 A' k c' done xs := hO.kept hk fun j hj _ e => by omega
  have hby' : BytesAt (fun j => base ≤ j ∧ some j ≠ (Value.slice A' k c').ownBlock) w2 Ad nd := hby.mono fun j _ hj => ⟨by omega, fun e => by have := (hlo j e.symm).2; omega⟩
  have hzn := hap.sizeLe
  simp at hzn
  refine ⟨_, OutAt.snoc hO2 hap hcd hby', ?_, ?_, by omega⟩
  · exact (hsp.kept ((Kept.refl (fun _ => False) _).alloc o) fun _ _ _ hf => hf).kept hap.kept fun j _ hj hD => by
      have := (hlo j hD.symm).1
      rcases hj with h | h
      · omega
      · omega
  · exact ((hB.trans (hk.below (by omega) fun j hj e => by omega)).alloc (by have := hB.size; omega) _).grown hap.grown (by have := hB.size; simp; omega) fun j e => by have := (hlo j e).1; omega

set_option maxHeartbeats 1000000 in
set_option maxRecDepth 100000 in
theorem specReads_any {S S1 : Nat → Prop} {w : World} {A A1 : Option Addr} {st : List (List Int × Int)} {zs : List Int} (c c1 : Nat) (h : RecsAt S w A st)
    (hn : st.length ≤ 281474976710656) (hd : ∀ i, i < st.length → (dat st i).length ≤ 140737488355328) (hz : IntsAt S1 w A1 zs) (hzs : SizesOK zs) (hzn : zs.length * 32 ≤ 140737488355328) :
    Calls Tryd.prog 27 #[.agg #[.slice A st.length c], .slice A1 zs.length c1] w (GotsPost (runs (rd (lastErr st)) zs st).1 w) := by
  obtain ⟨i1, hi1, hy0, hy1, hy2⟩ := info_parts infoGot
  have hR := h.mono (S' := (· < w.heap.size)) fun k hk _ => hk
  have HN := fun o : Obj => Lib.hid (sp_new (c := c) (hR.alloc o) (fun j hj => by simp; omega) hn hd)
  have HZ := Lib.hid (hz.mono (S' := (· < w.heap.size)) fun k hk _ => hk)
  have HZS := Lib.hid hzs
  clear h hR hd hz hzs
  generalize lastErr st = L at *
  generalize hlen : zs.length = len at *
  have HL := Lib.hid hlen
  clear hlen
  go_enter Tryd.func27, Tryd.ntmps27
  go_wp2_with fail
  go_loopg [6, 7] len (fun f v i wr => ∃ (k : Nat) (A' : Option Addr) (c' : Nat) (done stk : List (List Int × Int)), k ≤ len ∧ f = len - k ∧ i = .int .i64 k ∧ v = .slice A' k c' ∧ Hid ((runs (rd L) zs st).1 = done ++ (runs (rd L) (zs.drop k) stk).1) ∧ Hid (SRInv (w.heap.size + 2) (w.heap.size + 1) L w k A' c' done stk wr))
  case atStart =>
    refine ⟨0, _, 0, [], st, Nat.zero_le _, by omega, rfl, rfl, Lib.hid (by simp), Lib.hid ⟨[], ?_, ?_, ?_, by simp⟩⟩
    · have := OutAt.empty ((w.alloc (.cells #[.slice A st.length c] 53)).alloc (.cells #[.slice A st.length c, .int .i64 0, .int .i64 0] 89)) (w.heap.size + 2) (by simp)
      simpa using this
    · have := (HN (.cells #[.slice A st.length c] 53)).out
      simp at this
      exact this.kept ((Kept.refl (fun _ => False) _).alloc _) fun _ _ _ hf => hf
    · exact (((Below.refl _ _).alloc (Nat.le_refl _) _).alloc (by simp) _).alloc (by simp; omega) _
  case round =>
    obtain ⟨k, A', c', done, stk, hk, rfl, rfl, rfl, HF, HI⟩ := hrel
    obtain ⟨xs, hout, hsp, hbel, hbs⟩ := HI.out
    have HO := Lib.hid hout
    have HBr := Lib.hid hbel
    by_cases hlt : k < len
    · obtain ⟨ab, aoff, rfl, habw, hab, hcs⟩ := HZ.out.below HBr.out (by rw [HL.out]; omega)
      have g2 := hcs k (by rw [HL.out]; omega)
      have hzk := HZS.out.1 k (by rw [HL.out]; omega)
      rw [nth_def] at hzk
      have hdrop : zs.drop k = nth zs k :: zs.drop (k + 1) := by
        rw [List.drop_eq_getElem_cons (by rw [HL.out]; exact hlt), nth_get (by rw [HL.out]; exact hlt)]
      have HDR := Lib.hid hdrop
      clear hcs hdrop
      generalize hzz : nth zs k = z at *
      obtain ⟨zn, rfl⟩ : ∃ zn : Nat, z = (zn : Int) := ⟨z.toNat, by omega⟩
      clear hzz
      have hz1 : zn ≤ 1048576 := by omega
      have C := sp_read zn hsp
      have hnext : runs (rd L) (zs.drop k) stk = ((rd L stk zn).1 :: (runs (rd L) (zs.drop (k + 1)) (rd L stk zn).2).1, (runs (rd L) (zs.drop (k + 1)) (rd L stk zn).2).2) := by rw [HDR.out, runs, Int.toNat_natCast]
      have hal := rd_len L stk zn
      generalize rd L stk zn = r at *
      obtain ⟨⟨nd, ne⟩, ns⟩ := r
      simp only at hal C hnext
      have C' := Lib.hid C
      have HNX := Lib.hid hnext
      clear C hnext hout hsp hbel
      go_wp2_with fail
      refine C'.out.mono ?_
      rintro e w2 ⟨Ad, cd, rfl, hcd, hbd, hsp2, hk2⟩
      have hsz2 := hk2.size
      have HO2 := Lib.hid (HO.out.kept hk2 fun j hj _ e => by omega)
      have HBD := Lib.hid hbd
      have HSP2 := Lib.hid hsp2
      have HK2 := Lib.hid hk2
      clear hbd hsp2 hk2 C' g2
      go_wp2_with (at_builtin; refine wpList_append_gen _ rfl (.tmp 18) (.tmp 25) 45 rfl (w.heap.size + 2) 56 i1 _ 2 32 Tryd.underlying45 hi1 hy0 hy1 hy2 rfl (by omega) _ k xs rfl (HO2.out.own.alloc _) (some ⟨w2.heap.size, 0, none⟩) 1 1 [.slice Ad nd.length cd, .int .i64 ne] rfl (by rfl) ((Blk.new w2 56 #[.slice Ad nd.length cd, .int .i64 ne]).news 1) (by simp [Value.oneCell']) (by unfold maxLen; omega) (by omega) (by simp; omega) ?_)
      intro A2 c2 w3 hap
      have HIn := Lib.hid (sr_next HO.out HBr.out hbs (by omega) (by omega) (by omega) HK2.out HSP2.out hcd HBD.out hap)
      clear hap
      go_wp2_with fail
      go_roundg (len - (k + 1))
      case measure => omega
      case rel =>
        refine ⟨k + 1, A2, c2, done ++ [(nd, ne)], ns, by omega, rfl, by go_num, rfl, Lib.hid ?_, HIn⟩
        rw [HF.out, HNX.out, List.append_assoc]
        rfl
    · have HK : Hid (k = len) := Lib.hid (by omega)
      clear hout hsp hbel
      go_wp2_with fail
      go_ret
      have h1 := HF.out
      rw [List.drop_of_length_le (by have := HL.out; have := HK.out; omega)] at h1
      rw [h1]
      simp only [runs, List.append_nil]
      exact HO.out.post (by omega) HBr.out

end Go.Proofs.YtmoecjhlonokfaaDoor
