/- spec.Limited and spec.Limit over a source. -/
import Derived.Test.YtbddgkmkdjkloaaDoorSReads
import Derived.Test.YtbddgkmkdjkloaaDoorLim
set_option linter.unusedVariables false
set_option linter.unusedSimpArgs false
namespace Go.Proofs.YtbddgkmkdjkloaaDoor
open Go.RowKit

/-- answers in new memory, and a number -/
def LimPost (R : List (List Int × Int)) (n : Int) (w : World) (e : Ending) (w' : World) : Prop :=
  ∃ A c, e = .returned (.tuple #[.slice A R.length c, .int .i64 n]) ∧ R.length ≤ c ∧ RecsAt (fun j => w.heap.size ≤ j) w' A R ∧ Below w.heap.size w w'

set_option maxHeartbeats 1000000 in
set_option maxRecDepth 100000 in
theorem specLimited_any {S S1 : Nat → Prop} {w : World} {A A1 : Option Addr} {st : List (List Int × Int)} {zs : List Int} (c c1 : Nat) (h : RecsAt S w A st)
    (hn : st.length ≤ 281474976710656) (hd : ∀ i, i < st.length → (dat st i).length ≤ 140737488355328) (hz : IntsAt S1 w A1 zs) (hzs : SizesOK zs) (hzn : zs.length * 32 ≤ 140737488355328) (n0 : Int) (hn0 : -9223372036854775808 ≤ n0) (hn1 : n0 ≤ 9223372036854775807) :
    Calls Tryd.prog 25 #[.agg #[.slice A st.length c], .int .i64 n0, .slice A1 zs.length c1] w (LimPost (runs (limStep (rd (lastErr st))) zs (st, n0)).1 (runs (limStep (rd (lastErr st))) zs (st, n0)).2.2 w) := by
  obtain ⟨i1, hi1, hy0, hy1, hy2⟩ := info_parts infoGot
  have hR := h.mono (S' := (· < w.heap.size)) fun k hk _ => hk
  have HN := fun o : Obj => Lib.hid (sp_new (c := c) (hR.alloc o) (fun j hj => by simp; omega) hn hd)
  have HZ := Lib.hid (hz.mono (S' := (· < w.heap.size)) fun k hk _ => hk)
  have HZS := Lib.hid hzs
  clear h hR hd hz hzs
  generalize lastErr st = L at *
  generalize hlen : zs.length = len at *
  have HL := Lib.hid hlen
  clear hlen
  go_enter Tryd.func25, Tryd.ntmps25
  go_wp2_with fail
  go_loopg [1, 9, 10] len (fun f y v i wr => ∃ (k : Nat) (A' : Option Addr) (c' : Nat) (done stk : List (List Int × Int)) (n : Int), k ≤ len ∧ f = len - k ∧ i = .int .i64 k ∧ v = .slice A' k c' ∧ y = .int .i64 n ∧ -9223372036854775808 ≤ n ∧ n ≤ 9223372036854775807 ∧
    Hid (runs (limStep (rd L)) zs (st, n0) = (done ++ (runs (limStep (rd L)) (zs.drop k) (stk, n)).1, (runs (limStep (rd L)) (zs.drop k) (stk, n)).2)) ∧ Hid (SRInv (w.heap.size + 2) (w.heap.size + 1) L w k A' c' done stk wr))
  case atStart =>
    refine ⟨0, _, 0, [], st, n0, Nat.zero_le _, by omega, rfl, rfl, rfl, hn0, hn1, Lib.hid (by simp), Lib.hid ⟨[], ?_, ?_, ?_, by simp⟩⟩
    · have := OutAt.empty ((w.alloc (.cells #[.slice A st.length c] 24)).alloc (.cells #[.slice A st.length c, .int .i64 0, .int .i64 0] 67)) (w.heap.size + 2) (by simp)
      simpa using this
    · have := (HN (.cells #[.slice A st.length c] 24)).out
      simp at this
      exact this.kept ((Kept.refl (fun _ => False) _).alloc _) fun _ _ _ hf => hf
    · exact (((Below.refl _ _).alloc (Nat.le_refl _) _).alloc (by simp) _).alloc (by simp; omega) _
  case round =>
    obtain ⟨k, A', c', done, stk, n, hk, rfl, rfl, rfl, rfl, hlo, hhi, HF, HI⟩ := hrel
    obtain ⟨xs, hout, hsp, hbel, hbs⟩ := HI.out
    have HO := Lib.hid hout
    have HBr := Lib.hid hbel
    have HSP := Lib.hid hsp
    clear hout hbel hsp
    by_cases hlt : k < len
    · obtain ⟨ab, aoff, rfl, habw, hab, hcs⟩ := HZ.out.below HBr.out (by rw [HL.out]; omega)
      have g2 := hcs k (by rw [HL.out]; omega)
      have hzk := HZS.out.1 k (by rw [HL.out]; omega)
      rw [nth_def] at hzk
      have hdrop : zs.drop k = nth zs k :: zs.drop (k + 1) := by
        rw [List.drop_eq_getElem_cons (by rw [HL.out]; exact hlt), nth_get (by rw [HL.out]; exact hlt)]
      have HDR := Lib.hid hdrop
      clear hcs hdrop
      generalize hzz : nth zs k = z at *
      obtain ⟨zn, rfl⟩ : ∃ zn : Nat, z = (zn : Int) := ⟨z.toNat, by omega⟩
      clear hzz
      have hz1 : zn ≤ 1048576 := by omega
      have hnext : runs (limStep (rd L)) (zs.drop k) (stk, n) = ((limStep (rd L) (stk, n) zn).1 :: (runs (limStep (rd L)) (zs.drop (k + 1)) (limStep (rd L) (stk, n) zn).2).1, (runs (limStep (rd L)) (zs.drop (k + 1)) (limStep (rd L) (stk, n) zn).2).2) := by rw [HDR.out, runs, Int.toNat_natCast]
      by_cases hle : n ≤ 0
      · have hst : limStep (rd L) (stk, n) zn = (([], 1), (stk, n)) := by unfold limStep; rw [if_pos hle]
        rw [hst] at hnext
        simp only at hnext
        have HNX := Lib.hid hnext
        have HO2 := Lib.hid (HO.out.kept ((Kept.refl (fun _ => False) wr).alloc (.cells #[] 5)) fun _ _ _ hf => hf)
        have HSP2 := Lib.hid (HSP.out.kept ((Kept.refl (fun _ => False) wr).alloc (.cells #[] 5)) fun _ _ _ hf => hf)
        have HK2 : Hid (Kept (· = w.heap.size + 1) wr (wr.alloc (.cells #[] 5))) := Lib.hid ((Kept.refl _ _).alloc _)
        clear hnext hst
        generalize hw2 : wr.alloc (.cells #[] 5) = w2 at *
        have hs2 : wr.heap.size + 1 ≤ w2.heap.size := by rw [← hw2]; simp
        go_wp2_with (at_builtin; clear hw2; refine wpList_append_gen _ rfl (.tmp 24) (.tmp 27) 29 rfl (w.heap.size + 2) 42 i1 _ 2 32 Tryd.underlying29 hi1 hy0 hy1 hy2 rfl (by omega) _ k xs rfl (HO2.out.own.alloc _) (some ⟨w2.heap.size, 0, none⟩) 1 1 [.slice (some ⟨wr.heap.size, 0, none⟩) 0 0, .int .i64 1] rfl (by rfl) ((Blk.new w2 42 #[.slice (some ⟨wr.heap.size, 0, none⟩) 0 0, .int .i64 1]).news 1) (by simp [Value.oneCell']) (by unfold maxLen; omega) (by omega) (by simp; omega) ?_)
        intro A2 c2 w3 hap
        have HIn := Lib.hid (sr_next (nd := []) HO.out HBr.out hbs (by omega) (by omega) (by omega) HK2.out HSP2.out (Nat.le_refl _) (BytesAt.nil _ _ _) hap)
        clear hap
        go_wp2_with fail
        go_roundg (len - (k + 1))
        case measure => omega
        case rel =>
          refine ⟨k + 1, A2, c2, done ++ [([], 1)], stk, n, by omega, rfl, by go_num, rfl, rfl, hlo, hhi, Lib.hid ?_, HIn⟩
          rw [HF.out, HNX.out, List.append_assoc]
          rfl
      · obtain ⟨nn, rfl⟩ : ∃ nn : Nat, n = (nn : Int) := ⟨n.toNat, by omega⟩
        obtain ⟨m, hm⟩ : ∃ m, min zn nn = m := ⟨_, rfl⟩
        have hst : limStep (rd L) (stk, (nn : Int)) zn = ((rd L stk m).1, ((rd L stk m).2, (nn : Int) - (rd L stk m).1.1.length)) := by unfold limStep; rw [if_neg hle]; simp only [Int.toNat_natCast, hm]
        rw [hst] at hnext
        have hle' : ¬ (nn : Int) ≤ 0 := hle
        have hmin : (if (nn : Int) < (zn : Int) then (nn : Int) else (zn : Int)) = (m : Int) := by split <;> omega
        have hmin2 : (if nn < zn then (nn : Int) else (zn : Int)) = (m : Int) := by split <;> omega
        have C := sp_read m HSP.out
        have hal := rd_len L stk m
        generalize rd L stk m = r at *
        obtain ⟨⟨nd, ne⟩, ns⟩ := r
        simp only at hal C hnext
        have C' := Lib.hid C
        have HNX := Lib.hid hnext
        have hnb : nd.length ≤ nn := by omega
        clear C hnext hst hm
        go_wp2_with fail
        refine C'.out.mono ?_
        rintro e w2 ⟨Ad, cd, rfl, hcd, hbd, hsp2, hk2⟩
        have hsz2 := hk2.size
        have HBD := Lib.hid (hbd.alloc (.cells #[.slice Ad nd.length cd, .int .i64 ne] 42))
        have HO2 := Lib.hid ((HO.out.kept hk2 fun j hj _ e => by omega).kept ((Kept.refl (fun _ => False) w2).alloc (.cells #[.slice Ad nd.length cd, .int .i64 ne] 42)) fun _ _ _ hf => hf)
        have HSP2 := Lib.hid (hsp2.kept ((Kept.refl (fun _ => False) w2).alloc (.cells #[.slice Ad nd.length cd, .int .i64 ne] 42)) fun _ _ _ hf => hf)
        have HK2 := Lib.hid (hk2.alloc (.cells #[.slice Ad nd.length cd, .int .i64 ne] 42))
        have bx := Blk.new w2 42 #[.slice Ad nd.length cd, .int .i64 ne]
        generalize hwx : w2.alloc (.cells #[.slice Ad nd.length cd, .int .i64 ne] 42) = wx at *
        have hsx : w2.heap.size + 1 ≤ wx.heap.size := by rw [← hwx]; simp
        have x0 := bx.cell 0
        have x1 := bx.cell 1
        simp at x0 x1
        clear hbd hsp2 hk2 C' g2 bx
        go_wp2_with (at_builtin; clear hwx; refine wpList_append_gen _ rfl (.tmp 42) (.tmp 44) 29 rfl (w.heap.size + 2) 42 i1 _ 2 32 Tryd.underlying29 hi1 hy0 hy1 hy2 rfl (by omega) _ k xs rfl (HO2.out.own.alloc _) (some ⟨wx.heap.size, 0, none⟩) 1 1 [.slice Ad nd.length cd, .int .i64 ne] rfl (by rfl) ((Blk.new wx 42 #[.slice Ad nd.length cd, .int .i64 ne]).news 1) (by simp [Value.oneCell']) (by unfold maxLen; omega) (by omega) (by simp; omega) ?_)
        intro A2 c2 w3 hap
        have HIn := Lib.hid (sr_next HO.out HBr.out hbs (by omega) (by omega) (by omega) HK2.out HSP2.out hcd HBD.out hap)
        clear hap x0 x1
        go_wp2_with fail
        go_roundg (len - (k + 1))
        case measure => omega
        case rel =>
          refine ⟨k + 1, A2, c2, done ++ [(nd, ne)], ns, (nn : Int) - nd.length, by omega, rfl, by go_num, rfl, rfl, by omega, by omega, Lib.hid ?_, HIn⟩
          rw [HF.out, HNX.out, List.append_assoc]
          rfl
    · have HK : Hid (k = len) := Lib.hid (by omega)
      go_wp2_with fail
      go_ret2
      have h1 := HF.out
      rw [List.drop_of_length_le (by have := HL.out; have := HK.out; omega)] at h1
      rw [h1]
      simp only [runs, List.append_nil]
      have hl := HO.out.len
      subst hl
      exact ⟨A', c', rfl, own_cap HO.out.own, HO.out.recs.mono fun j _ hj => by omega, HBr.out⟩

theorem specLimit_any {S S1 : Nat → Prop} {w : World} {A A1 : Option Addr} {st : List (List Int × Int)} {zs : List Int} (c c1 : Nat) (h : RecsAt S w A st)
    (hn : st.length ≤ 281474976710656) (hd : ∀ i, i < st.length → (dat st i).length ≤ 140737488355328) (hz : IntsAt S1 w A1 zs) (hzs : SizesOK zs) (hzn : zs.length * 32 ≤ 140737488355328) (n0 : Int) (hn0 : -9223372036854775808 ≤ n0) (hn1 : n0 ≤ 9223372036854775807) :
    Calls Tryd.prog 18 #[.agg #[.slice A st.length c], .int .i64 n0, .slice A1 zs.length c1] w (GotsPost (runs (limStep (rd (lastErr st))) zs (st, n0)).1 w) := by
  have C := fun o : Obj => Lib.hid (specLimited_any c c1 (h.alloc o) hn hd (hz.alloc o) hzs hzn n0 hn0 hn1)
  clear h hd hz hzs
  generalize runs (limStep (rd (lastErr st))) zs (st, n0) = R at *
  generalize zs.length = len at *
  go_enter Tryd.func18, Tryd.ntmps18
  go_wp2_with fail
  refine (C _).out.mono ?_
  rintro e w1 ⟨A2, c2, rfl, hc2, hr, hb⟩
  have HP : Hid (GotsPost R.1 w (.returned (.slice A2 R.1.length c2)) w1) := Lib.hid ⟨A2, c2, rfl, hc2, hr.mono (fun k _ hk => by simp at hk; omega), ((Below.refl _ _).alloc (Nat.le_refl _) _).trans (hb.mono (by simp))⟩
  clear hr hb C
  go_wp2_with fail
  go_ret
  exact HP.out

end Go.Proofs.YtbddgkmkdjkloaaDoor
