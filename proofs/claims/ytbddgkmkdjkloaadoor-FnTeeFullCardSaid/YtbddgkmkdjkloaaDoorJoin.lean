/- The reference's Join: the bytes of several answers, one behind the other. -/
import Derived.Test.YtbddgkmkdjkloaaDoorSpec
set_option linter.unusedVariables false
set_option linter.unusedSimpArgs false
namespace Go.Proofs.YtbddgkmkdjkloaaDoor
open Go.RowKit

theorem join_any {S : Nat → Prop} {w : World} {A : Option Addr} {st : List (List Int × Int)} (c : Nat) (hl : st.length ≤ 281474976710656) (hj : (joinD st).length ≤ 140737488355328) (h : RecsAt S w A st) :
    Calls Tryd.prog 22 #[.slice A st.length c] w (BytesPost (joinD st) w) := by
  obtain ⟨i0, hi0, hz0, hz1, hz2⟩ := info_parts infoU8'
  have H := Lib.hid (h.mono (S' := (· < w.heap.size)) fun k hk _ => hk)
  have HJ := Lib.hid hj
  clear h hj
  generalize hlen : st.length = len at *
  have HL := Lib.hid hlen
  clear hlen
  go_enter Tryd.func22, Tryd.ntmps22
  go_wp2
  go_loopg [3, 4] len (fun f v i wr => ∃ (k n : Nat) (A' : Option Addr) (c' : Nat), k ≤ len ∧ f = len - k ∧ i = .int .i64 k ∧ v = .slice A' n c' ∧ Hid (n = (joinD (st.take k)).length) ∧ Hid (wr.ownsRow w.heap.size 5 1 (.slice A' n c') n (bytesV (joinD (st.take k)))) ∧ Hid (Below w.heap.size w wr))
  case atStart =>
    refine ⟨0, 0, _, 0, Nat.zero_le _, by omega, rfl, rfl, Lib.hid rfl, Lib.hid ?_, Lib.hid ((Below.refl _ _).alloc (Nat.le_refl _) _)⟩
    have := own_empty w w.heap.size 5 1 (Nat.le_refl _)
    simpa [joinD, bytesV] using this
  case round =>
    obtain ⟨k, n, A', c', hk, rfl, rfl, rfl, HN, HO, HB⟩ := hrel
    by_cases hlt : k < len
    · obtain ⟨ab, aoff, rfl, _, _, hcs⟩ := H.out.below HB.out (by rw [HL.out]; omega)
      obtain ⟨Ai, ci, g1, _, _, g4⟩ := hcs k (by rw [HL.out]; omega)
      have hstep := joinD_take' (l := st) (k := k) (by rw [HL.out]; exact hlt)
      have hle := joinD_take_le st (k + 1)
      have HG := Lib.hid g4
      clear hcs g4
      have hnb : n + (dat st k).length ≤ 140737488355328 := by
        have := HN.out
        have := HJ.out
        rw [hstep, List.length_append] at hle
        omega
      have HS := Lib.hid hstep
      clear hstep hle
      generalize dat st k = d at *
      have hsz := HB.out.size
      go_wp2_with (at_builtin; refine wpList_append_gen _ rfl (.tmp 12) (.tmp 17) 32 rfl w.heap.size 5 i0 _ 1 1 Tryd.underlying32 hi0 hz0 hz1 hz2 rfl (by omega) _ n _ rfl HO.out Ai d.length ci (bytesV d) rfl (by rw [bytesV_length]; omega) HG.out.news (bytesV_one d) (by unfold maxLen; omega) (by omega) hsz ?_)
      intro A2 c2 w2 hap
      have HB2 : Hid (Below w.heap.size w w2) := Lib.hid (HB.out.grown hap.grown HB.out.size fun j e => by have := (own_block_lt HO.out e).1; omega)
      have HO2 := Lib.hid hap.own
      clear hap
      go_wp2
      go_roundg (len - (k + 1))
      case measure => omega
      case rel =>
        refine ⟨k + 1, n + d.length, A2, c2, by omega, rfl, by go_num, rfl, Lib.hid ?_, Lib.hid ?_, HB2⟩
        · rw [HS.out, List.length_append, ← HN.out]
        · rw [HS.out, bytesV_append]; exact HO2.out
    · have HK : Hid (k = len) := Lib.hid (by omega)
      go_wp2
      go_ret
      have e1 : st.take k = st := List.take_of_length_le (by have := HL.out; have := HK.out; omega)
      have h1 := HO.out
      have h2 := HN.out
      rw [e1] at h1 h2
      exact bytesPost_of h2.symm (Nat.le_refl _) h1 HB.out

end Go.Proofs.YtbddgkmkdjkloaaDoor
