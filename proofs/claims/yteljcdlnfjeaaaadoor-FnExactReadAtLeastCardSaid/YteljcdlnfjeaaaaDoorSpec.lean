/- The reference's looks at sources and sizes: ValidSource, ValidSizes, Last, Bytes. -/
import Derived.Test.YteljcdlnfjeaaaaDoorPlain
import Derived.Test.YteljcdlnfjeaaaaDoorApp
import Derived.Test.YteljcdlnfjeaaaaDoorProg
import Derived.Deep.LoopGhost
import Derived.Outline
import Derived.KernelRfl
set_option linter.unusedVariables false
set_option linter.unusedSimpArgs false
namespace Go.Proofs.YteljcdlnfjeaaaaDoor
open Go.RowKit

theorem errAt_eq (l : List (List Int × Int)) (i : Nat) : errAt l i = err l i := rfl

/-- a call that returns some bool: if true, then p; nothing old is changed -/
def SomeBool (p : Prop) (w : World) (e : Ending) (w' : World) : Prop := ∃ v : Bool, e = .returned (.bool v) ∧ (v = true → p) ∧ Below w.heap.size w w'

theorem validSource_any {S : Nat → Prop} {w : World} {A : Option Addr} {st : List (List Int × Int)} (c : Nat) (hl : st.length ≤ 281474976710656) (h : RecsAt S w A st) :
    Calls Tryd.prog 14 #[.agg #[.slice A st.length c]] w (SomeBool (Valid (lastErr st) st) w) := by
  have H := Lib.hid (h.mono (S' := (· < w.heap.size)) fun k hk _ => hk)
  clear h
  generalize hlen : st.length = len at *
  have HL := Lib.hid hlen
  clear hlen
  go_enter Tryd.func14, Tryd.ntmps14
  go_wp2
  go_loopg [3] len (fun f i wr => ∃ k : Nat, k ≤ len ∧ f = len - k ∧ i = .int .i64 k ∧ (∀ j, j < k → okStep st j) ∧ Below w.heap.size w wr ∧ wr.cell? ⟨w.heap.size, 0, none⟩ = some (.slice A len c))
  case atStart => exact ⟨0, Nat.zero_le _, by omega, rfl, fun j hj => absurd hj (by omega), (Below.refl _ _).alloc (Nat.le_refl _) _, by simp⟩
  case round =>
    obtain ⟨k, hk, rfl, rfl, hok, hb, hc⟩ := hrel
    have HO := Lib.hid hok
    have HB := Lib.hid hb
    clear hok hb
    by_cases hlt : k < len
    · obtain ⟨ab, aoff, rfl, _, _, hcs⟩ := H.out.below HB.out (by rw [HL.out]; omega)
      obtain ⟨Ai, ci, _, g2, _, _⟩ := hcs k (by rw [HL.out]; omega)
      clear hcs
      by_cases h0 : err st k = 0
      · have hb0 : (err st k != 0) = false := by simp [h0]
        have hst : Hid (okStep st k) := Lib.hid (.inl (by rw [errAt_eq]; exact h0))
        clear h0
        generalize err st k = x at *
        go_wp2
        go_roundg (len - (k + 1))
        case measure => omega
        case rel =>
          refine ⟨k + 1, by omega, rfl, by go_num, fun j hj => ?_, HB.out, hc⟩
          by_cases hjk : j < k
          · exact HO.out j hjk
          · obtain rfl : j = k := by omega
            exact hst.out
      · have hb0 : (err st k != 0) = true := by simp [h0]
        by_cases hend : k + 1 < len
        · clear h0
          generalize err st k = x at *
          go_wp2
          go_ret
          exact ⟨false, rfl, (fun h => by cases h), HB.out⟩
        · have hend' : ¬ ((k : Int) + 1 < (len : Int)) := by omega
          by_cases h1 : err st k = 1
          · have hb1 : (err st k != 1) = false := by simp [h1]
            have hst : Hid (okStep st k) := Lib.hid (.inr ⟨by rw [HL.out]; omega, .inl (by rw [errAt_eq]; exact h1)⟩)
            clear h0 h1
            generalize err st k = x at *
            go_wp2
            go_roundg (len - (k + 1))
            case measure => omega
            case rel =>
              refine ⟨k + 1, by omega, rfl, by go_num, fun j hj => ?_, HB.out, hc⟩
              by_cases hjk : j < k
              · exact HO.out j hjk
              · obtain rfl : j = k := by omega
                exact hst.out
          · have hb1 : (err st k != 1) = true := by simp [h1]
            by_cases h2 : err st k = 2
            · have hb2 : (err st k != 2) = false := by simp [h2]
              have hst : Hid (okStep st k) := Lib.hid (.inr ⟨by rw [HL.out]; omega, .inr (by rw [errAt_eq]; exact h2)⟩)
              clear h0 h1 h2
              generalize err st k = x at *
              go_wp2
              go_roundg (len - (k + 1))
              case measure => omega
              case rel =>
                refine ⟨k + 1, by omega, rfl, by go_num, fun j hj => ?_, HB.out, hc⟩
                by_cases hjk : j < k
                · exact HO.out j hjk
                · obtain rfl : j = k := by omega
                  exact hst.out
            · have hb2 : (err st k != 2) = true := by simp [h2]
              clear h0 h1 h2
              generalize err st k = x at *
              go_wp2
              go_ret
              exact ⟨false, rfl, (fun h => by cases h), HB.out⟩
    · go_wp2
      go_ret
      exact ⟨true, rfl, fun _ => valid_of fun i hi => HO.out i (by have := HL.out; omega), HB.out⟩

theorem nth_def (l : List Int) (j : Nat) : l.getD j 0 = nth l j := rfl
theorem sum_take {zs : List Int} {k : Nat} (h : k < zs.length) : (zs.take (k + 1)).sum = (zs.take k).sum + nth zs k := by
  rw [List.take_succ_eq_append_getElem h, List.sum_append, nth_get h]; simp

theorem validSizes_any {S : Nat → Prop} {w : World} {A : Option Addr} {zs : List Int} (c : Nat) (hl : zs.length ≤ 281474976710656) (h : IntsAt S w A zs) :
    Calls Tryd.prog 18 #[.slice A zs.length c] w (SomeBool (SizesOK zs) w) := by
  have H := Lib.hid h
  clear h
  generalize hlen : zs.length = len at *
  have HL := Lib.hid hlen
  clear hlen
  go_enter Tryd.func18, Tryd.ntmps18
  go_wp2
  go_loopg [3, 4] len (fun f a i wr => ∃ (k : Nat) (t : Int), k ≤ len ∧ f = len - k ∧ i = .int .i64 k ∧ a = .int .i64 t ∧ 0 ≤ t ∧ t ≤ 1048576 ∧ Hid (t = (zs.take k).sum ∧ ∀ j, j < k → 0 ≤ nth zs j ∧ nth zs j ≤ 1048576) ∧ wr = w)
  case atStart => exact ⟨0, 0, Nat.zero_le _, by omega, rfl, rfl, by omega, by omega, Lib.hid ⟨by simp, fun j hj => absurd hj (by omega)⟩, rfl⟩
  case round =>
    obtain ⟨k, t, hk, rfl, rfl, rfl, ht0, ht1, HT, rfl⟩ := hrel
    by_cases hlt : k < len
    · obtain ⟨ab, aoff, rfl, _, _, hcs⟩ := H.out (by rw [HL.out]; omega)
      have g2 := hcs k (by rw [HL.out]; omega)
      have hsum := Lib.hid (sum_take (zs := zs) (k := k) (by rw [HL.out]; exact hlt))
      clear hcs
      generalize hz : nth zs k = z at *
      have HZ := Lib.hid hz
      clear hz
      by_cases hz0 : z < 0
      · go_wp2
        go_ret
        exact ⟨false, rfl, (fun h => by cases h), Below.refl _ _⟩
      · by_cases hz1 : 1048576 < z
        · go_wp2
          go_ret
          exact ⟨false, rfl, (fun h => by cases h), Below.refl _ _⟩
        · by_cases hz2 : 1048576 < t + z
          · go_wp2
            go_ret
            exact ⟨false, rfl, (fun h => by cases h), Below.refl _ _⟩
          · go_wp2
            go_roundg (len - (k + 1))
            case measure => omega
            case rel =>
              refine ⟨k + 1, t + z, by omega, rfl, by go_num, rfl, by omega, by omega, Lib.hid ⟨by rw [hsum.out, HT.out.1], fun j hj => ?_⟩, rfl⟩
              by_cases hjk : j < k
              · exact HT.out.2 j hjk
              · obtain rfl : j = k := by omega
                rw [HZ.out]; omega
    · have HK : Hid (k = len) := Lib.hid (by omega)
      go_wp2
      go_ret
      refine ⟨true, rfl, fun _ => ⟨fun i hi => ?_, ?_⟩, Below.refl _ _⟩
      · rw [nth_def]; exact HT.out.2 i (by have := HL.out; have := HK.out; omega)
      · have h1 := HT.out.1
        rw [List.take_of_length_le (by have := HL.out; have := HK.out; omega)] at h1
        omega

/-- a result that is bytes in new memory -/
def BytesPost (l : List Int) (w : World) (e : Ending) (w' : World) : Prop := ∃ A c, e = .returned (.slice A l.length c) ∧ l.length ≤ c ∧ BytesAt (fun j => w.heap.size ≤ j) w' A l ∧ Below w.heap.size w w'

theorem infoU8' : (Tryd.prog.info? 5).map (fun i => (i.zero, i.size, i.bytes)) = some (some (.int .u8 0), 1, 1) := by kernel_rfl

theorem last_any {S : Nat → Prop} {w : World} {A : Option Addr} {st : List (List Int × Int)} (c : Nat) (hl : st.length ≤ 281474976710656) (h : RecsAt S w A st) :
    Calls Tryd.prog 33 #[.agg #[.slice A st.length c]] w fun e w' => e = .returned (.int .i64 (lastErr st)) ∧ Below w.heap.size w w' := by
  by_cases h0 : st.length = 0
  · have HR : Hid (lastErr st = 1) := Lib.hid (by simp [lastErr, h0])
    clear h
    generalize hlen : st.length = len at *
    subst h0
    clear hlen
    go_enter Tryd.func33, Tryd.ntmps33
    go_wp2
    go_ret
    exact ⟨by rw [HR.out]; rfl, (Below.refl _ _).alloc (Nat.le_refl _) _⟩
  · obtain ⟨ab, aoff, rfl, _, hbl, hcs⟩ := h (by omega)
    obtain ⟨Ai, ci, _, g2, _, _⟩ := hcs (st.length - 1) (by omega)
    have g2' : ∀ o, (w.alloc o).cell? ⟨ab, aoff + (st.length - 1) * 2 + 1, none⟩ = some (.int .i64 (err st (st.length - 1))) := fun o => (World.cell?_alloc_lt w _ _ hbl).trans g2
    have HR : Hid (lastErr st = if err st (st.length - 1) = 0 then 1 else err st (st.length - 1)) := Lib.hid (by unfold lastErr; rw [if_neg h0]; rfl)
    clear hcs g2
    generalize hx : err st (st.length - 1) = x at *
    clear hx
    generalize hlen : st.length = len at *
    clear hlen
    have h1 : ((len : Int) == 0) = false := by simp; omega
    have h2 : (0 : Int) ≤ (len : Int) - 1 := by omega
    have h3 : 1 ≤ len := by omega
    have h4 : ((len : Int) - 1).toNat = len - 1 := by omega
    by_cases hx0 : x = 0
    · subst hx0
      go_enter Tryd.func33, Tryd.ntmps33
      go_wp2
      go_ret
      exact ⟨by rw [HR.out]; rfl, (Below.refl _ _).alloc (Nat.le_refl _) _⟩
    · have hxb : (x == 0) = false := by simp [hx0]
      have HX := Lib.hid hx0
      clear hx0
      go_enter Tryd.func33, Tryd.ntmps33
      go_wp2
      go_ret
      exact ⟨by rw [HR.out, if_neg HX.out]; rfl, (Below.refl _ _).alloc (Nat.le_refl _) _⟩

theorem dat_def (l : List (List Int × Int)) (k : Nat) : (l.getD k ([], 0)).1 = dat l k := rfl
theorem joinD_take' {l : List (List Int × Int)} {k : Nat} (h : k < l.length) : joinD (l.take (k + 1)) = joinD (l.take k) ++ dat l k := joinD_take h
theorem bytesV_append (l r : List Int) : bytesV (l ++ r) = bytesV l ++ bytesV r := by simp [bytesV]

/-- a row of bytes of the call's own is a result -/
theorem bytesPost_of {l : List Int} {w wr : World} {A : Option Addr} {n c : Nat} {base : Nat} {e : TypeId} (hn : l.length = n) (hb : w.heap.size ≤ base) (hown : wr.ownsRow base e 1 (.slice A n c) n (bytesV l)) (hbel : Below w.heap.size w wr) : BytesPost l w (.returned (.slice A n c)) wr := by
  subst hn
  refine ⟨A, c, rfl, own_cap hown, (own_bytes hown).mono fun k _ hk => ?_, hbel⟩
  have := (own_block_lt hown hk).1
  omega

theorem bytes_any {S : Nat → Prop} {w : World} {A : Option Addr} {st : List (List Int × Int)} (c : Nat) (hl : st.length ≤ 281474976710656) (hj : (joinD st).length ≤ 140737488355328) (h : RecsAt S w A st) :
    Calls Tryd.prog 23 #[.agg #[.slice A st.length c]] w (BytesPost (joinD st) w) := by
  obtain ⟨i0, hi0, hz0, hz1, hz2⟩ := info_parts infoU8'
  have H := Lib.hid (h.mono (S' := (· < w.heap.size)) fun k hk _ => hk)
  have HJ := Lib.hid hj
  clear h hj
  generalize hlen : st.length = len at *
  have HL := Lib.hid hlen
  clear hlen
  go_enter Tryd.func23, Tryd.ntmps23
  go_wp2
  go_loopg [3, 4] len (fun f v i wr => ∃ (k n : Nat) (A' : Option Addr) (c' : Nat), k ≤ len ∧ f = len - k ∧ i = .int .i64 k ∧ v = .slice A' n c' ∧ Hid (n = (joinD (st.take k)).length) ∧ Hid (wr.ownsRow (w.heap.size + 1) 5 1 (.slice A' n c') n (bytesV (joinD (st.take k)))) ∧ Hid (Below w.heap.size w wr) ∧
    wr.cell? ⟨w.heap.size, 0, none⟩ = some (.slice A len c) ∧ w.heap.size + 1 ≤ wr.heap.size)
  case atStart =>
    refine ⟨0, 0, _, 0, Nat.zero_le _, by omega, rfl, rfl, Lib.hid rfl, Lib.hid ?_, Lib.hid (((Below.refl _ _).alloc (Nat.le_refl _) _).alloc (by simp) _), ?_, by simp⟩
    · have := own_empty (w.alloc (.cells #[.slice A len c] 25)) (w.heap.size + 1) 5 1 (by simp)
      simpa [joinD, bytesV] using this
    · rw [World.cell?_alloc_lt _ _ _ (by simp)]; simp
  case round =>
    obtain ⟨k, n, A', c', hk, rfl, rfl, rfl, HN, HO, HB, hc, hsz⟩ := hrel
    by_cases hlt : k < len
    · obtain ⟨ab, aoff, rfl, _, _, hcs⟩ := H.out.below HB.out (by rw [HL.out]; omega)
      obtain ⟨Ai, ci, g1, _, _, g4⟩ := hcs k (by rw [HL.out]; omega)
      have hstep := joinD_take' (l := st) (k := k) (by rw [HL.out]; exact hlt)
      have hle := joinD_take_le st (k + 1)
      have HG := Lib.hid g4
      clear hcs g4
      have hnb : n + (dat st k).length ≤ 140737488355328 := by
        have := HN.out
        have := HJ.out
        rw [hstep, List.length_append] at hle
        omega
      have HS := Lib.hid hstep
      clear hstep hle
      generalize dat st k = d at *
      go_wp2_with (at_builtin; refine wpList_append_gen _ rfl (.tmp 13) (.tmp 19) 22 rfl (w.heap.size + 1) 5 i0 _ 1 1 Tryd.underlying22 hi0 hz0 hz1 hz2 rfl (by omega) _ n _ rfl HO.out Ai d.length ci (bytesV d) rfl (by rw [bytesV_length]; omega) HG.out.news (bytesV_one d) (by unfold maxLen; omega) (by omega) hsz ?_)
      intro A2 c2 w2 hap
      have hne : some w.heap.size ≠ (Value.slice A' n c').ownBlock := fun e => by have := (own_block_lt HO.out e.symm).1; omega
      have hc2 := (hap.cell (a := ⟨w.heap.size, 0, none⟩) (by simp; omega) hne).trans hc
      have hsz2 := Nat.le_trans hsz hap.sizeLe
      have HB2 : Hid (Below w.heap.size w w2) := Lib.hid (HB.out.grown hap.grown HB.out.size fun j e => by have := (own_block_lt HO.out e).1; omega)
      have HO2 := Lib.hid hap.own
      clear hap hne
      go_wp2
      go_roundg (len - (k + 1))
      case measure => omega
      case rel =>
        refine ⟨k + 1, n + d.length, A2, c2, by omega, rfl, by go_num, rfl, Lib.hid ?_, Lib.hid ?_, HB2, hc2, hsz2⟩
        · rw [HS.out, List.length_append, ← HN.out]
        · rw [HS.out, bytesV_append]; exact HO2.out
    · have HK : Hid (k = len) := Lib.hid (by omega)
      go_wp2
      go_ret
      have e1 : st.take k = st := List.take_of_length_le (by have := HL.out; have := HK.out; omega)
      have h1 := HO.out
      have h2 := HN.out
      rw [e1] at h1 h2
      exact bytesPost_of h2.symm (by omega) h1 HB.out

end Go.Proofs.YteljcdlnfjeaaaaDoor
