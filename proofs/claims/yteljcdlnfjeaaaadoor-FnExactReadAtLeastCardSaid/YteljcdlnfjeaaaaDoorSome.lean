/- The reference's own draws: one of some numbers, and some bytes. -/
import Derived.Test.YteljcdlnfjeaaaaDoorPick
import Derived.Test.YteljcdlnfjeaaaaDoorSp
set_option linter.unusedVariables false
set_option linter.unusedSimpArgs false
namespace Go.Proofs.YteljcdlnfjeaaaaDoor
open Go.RowKit

/-- one of the numbers -/
def OnePost (S : Nat → Prop) (rb q : Nat) (zs : List Int) (w : World) (e : Ending) (w' : World) : Prop :=
  ∃ z, z ∈ zs ∧ e = .returned (.int .i64 z) ∧ RdAt S w' rb (q + 1) ∧ Kept (· = rb) w w'

theorem nth_mem {l : List Int} {j : Nat} (h : j < l.length) : nth l j ∈ l := by rw [nth_get h]; exact List.getElem_mem h

theorem one_any {S S1 : Nat → Prop} {w : World} {rb q : Nat} (h : RdAt S w rb q) (hq : q ≤ 1000000000) {A : Option Addr} {zs : List Int} (c len : Nat) (hlen : zs.length = len) (h0 : 0 < len) (h1 : len ≤ 1000) (hz : IntsAt S1 w A zs) (hS1 : ∀ k, S1 k → k ≠ rb) :
    Calls Tryd.prog 29 #[.pointer (some ⟨rb, 0, none⟩), .slice A len c] w (OnePost S rb q zs w) := by
  have C := Lib.hid (pick_any h hq len (by omega) (by omega))
  obtain ⟨ab, aoff, rfl, hS, hab, hcs⟩ := hz (by omega)
  have hne := hS1 ab hS
  have HC := Lib.hid hcs
  have HL := Lib.hid hlen
  clear h hcs hz hS1 hlen
  go_enter Tryd.func29, Tryd.ntmps29
  go_wp2_with fail
  refine C.out.mono ?_
  rintro e w2 ⟨k, hk, rfl, hr2, hk2⟩
  have g2 := (hk2.cell (p := ⟨ab, aoff + k, none⟩) hab hne).trans (HC.out k (by rw [HL.out]; exact hk))
  have HR := Lib.hid hr2
  have HK := Lib.hid hk2
  have HM := Lib.hid (nth_mem (l := zs) (j := k) (by rw [HL.out]; exact hk))
  clear hr2 hk2
  generalize nth zs k = z at *
  go_wp2_with fail
  go_ret
  exact ⟨z, HM.out, rfl, HR.out, HK.out⟩

/-- a row of numbers that was just made -/
theorem ints_new (w : World) (t : TypeId) (zs : List Int) : IntsAt (fun j => w.heap.size ≤ j) (w.alloc (.cells (zs.map (Value.int .i64)).toArray t)) (some ⟨w.heap.size, 0, none⟩) zs := fun hl => by
  refine ⟨w.heap.size, 0, rfl, Nat.le_refl _, by simp, fun j hj => ?_⟩
  rw [Nat.zero_add, (Blk.new w t _).cell, nth_get hj]
  simp [hj]

/-- one of some numbers that stand in the text: the row is made, then one of it is drawn -/
theorem one_new {S : Nat → Prop} {w : World} {rb q : Nat} (h : RdAt S w rb q) (hq : q ≤ 1000000000) (zs : List Int) (c len : Nat) (t : TypeId) (hlen : zs.length = len) (h0 : 0 < len) (h1 : len ≤ 1000) (cs : Array Value) (hcs : cs = (zs.map (Value.int .i64)).toArray) (b : Nat) (hb : b = w.heap.size) :
    Calls Tryd.prog 29 #[.pointer (some ⟨rb, 0, none⟩), .slice (some ⟨b, 0, none⟩) len c] (w.alloc (.cells cs t)) (OnePost S rb q zs w) := by
  subst hcs
  subst hb
  have hlt := h.lt
  refine (one_any (h.alloc _) hq c len hlen h0 h1 (ints_new w t zs) fun k hk => by omega).mono ?_
  rintro e w' ⟨z, hz, he, hr, hk⟩
  exact ⟨z, hz, he, hr, ((Kept.refl (· = rb) w).alloc _).trans hk fun _ _ e => e⟩

/-- some bytes, a row of the call's own -/
def SomePost (S : Nat → Prop) (rb q : Nat) (w : World) (e : Ending) (w' : World) : Prop :=
  ∃ (l : List Int) (A : Option Addr) (c : Nat), e = .returned (.slice A l.length c) ∧ l.length ≤ 700 ∧ w'.ownsRow w.heap.size 5 1 (.slice A l.length c) l.length (bytesV l) ∧ RdAt S w' rb (q + 702) ∧ Kept (· = rb) w w'

/-- what holds at the head of a round of some -/
def SomeInv (S : Nat → Prop) (rb q : Nat) (w : World) (A' : Option Addr) (n c' : Nat) (wr : World) : Prop :=
  ∃ l, l.length = n ∧ wr.ownsRow w.heap.size 5 1 (.slice A' n c') n (bytesV l) ∧ RdAt S wr rb (q + 2 + n) ∧ Kept (· = rb) w wr

set_option maxHeartbeats 1000000 in
set_option maxRecDepth 100000 in
theorem some_any {S : Nat → Prop} {w : World} {rb q : Nat} (h : RdAt S w rb q) (hS : ∀ j, S j → j < w.heap.size) (hq : q ≤ 900000000) :
    Calls Tryd.prog 38 #[.pointer (some ⟨rb, 0, none⟩)] w (SomePost S rb q w) := by
  obtain ⟨i0, hi0, hz0, hz1, hz2⟩ := info_parts infoU8
  have hlt := h.lt
  have HSS := Lib.hid hS
  have C := Lib.hid (one_new (h.alloc (.cells #[] 5)) (by omega) [3, 1, 2, 5, 0, 8] 6 6 3 rfl (by omega) (by omega) #[.int .i64 3, .int .i64 1, .int .i64 2, .int .i64 5, .int .i64 0, .int .i64 8] rfl (w.heap.size + 1) (by simp))
  have HO : Hid ((w.alloc (.cells #[] 5)).ownsRow w.heap.size 5 1 (.slice (some ⟨w.heap.size, 0, none⟩) 0 0) 0 (bytesV [])) := Lib.hid (own_empty w w.heap.size 5 1 (Nat.le_refl _))
  clear h hS
  go_enter Tryd.func38, Tryd.ntmps38
  go_wp2_with fail
  refine C.out.mono ?_
  rintro e w2 ⟨z, hz, rfl, hr2, hk2⟩
  have hz' : ∃ m : Nat, z = (m : Int) ∧ m ≤ 700 := by
    simp at hz
    rcases hz with rfl | rfl | rfl | rfl | rfl | rfl
    · exact ⟨3, rfl, by omega⟩
    · exact ⟨1, rfl, by omega⟩
    · exact ⟨2, rfl, by omega⟩
    · exact ⟨5, rfl, by omega⟩
    · exact ⟨0, rfl, by omega⟩
    · exact ⟨8, rfl, by omega⟩
  obtain ⟨m, rfl, hm⟩ := hz'
  have C2 := Lib.hid (pick_any hr2 (by omega) 24 (by omega) (by omega))
  have HO2 := Lib.hid (own_kept HO.out hk2 fun g hg _ e => by omega)
  have HK2 := Lib.hid ((((Kept.refl (· = rb) w).alloc (.cells #[] 5))).trans hk2 fun _ _ e => e)
  clear hz hr2 hk2 C HO
  go_wp2_with fail
  refine C2.out.mono ?_
  rintro e w3 ⟨k, hk, rfl, hr3, hk3⟩
  have HO3 := Lib.hid (own_kept HO2.out hk3 fun g hg _ e => by omega)
  have HK3 : Hid (Kept (· = rb) w w3) := Lib.hid (HK2.out.trans hk3 fun _ _ e => e)
  have HR3 := Lib.hid hr3
  clear hr3 hk3 C2 HO2 HK2
  have C4 : ∀ (wr : World) (n : Nat), n ≤ 700 → RdAt S wr rb (q + 2 + n) → Calls Tryd.prog 39 #[.pointer (some ⟨rb, 0, none⟩), .int .i64 256] wr (PickPost S rb (q + 2 + n) 256 wr) := fun wr n hn h => pick_any h (by omega) 256 (by omega) (by omega)
  have HC4 := Lib.hid C4
  clear C4
  by_cases hk0 : k = 0
  all_goals
    first
      | subst hk0
      | have hkb : ((k : Int) == 0) = false := by simp; omega
    go_wp2_with fail
    go_loopg [3, 4] 700 (fun f v i wr => ∃ (r n : Nat) (A' : Option Addr) (c' : Nat), r ≤ f ∧ i = .int .i64 r ∧ v = .slice A' n c' ∧ n + r ≤ 700 ∧ SomeInv S rb q w A' n c' wr)
    case atStart =>
      first
        | exact ⟨m, 0, _, 0, by omega, rfl, rfl, by omega, [], rfl, HO3.out, HR3.out, HK3.out⟩
        | exact ⟨700, 0, _, 0, by omega, rfl, rfl, by omega, [], rfl, HO3.out, HR3.out, HK3.out⟩
    case round =>
      obtain ⟨r, n, A', c', hrf, rfl, rfl, hnr, l, hl, hown, hrd, hkept⟩ := hrel
      have C5 := Lib.hid (HC4.out wr n (by omega) hrd)
      have HOW := Lib.hid hown
      have HRD := Lib.hid hrd
      have HKE := Lib.hid hkept
      have HLN := Lib.hid hl
      clear hown hrd hkept hl
      by_cases hr0 : 0 < r
      · have hr0' : (0 : Int) < (r : Int) := by omega
        go_wp2_with fail
        refine C5.out.mono ?_
        rintro e w5 ⟨x, hx, rfl, hr5, hk5⟩
        have HO5 := Lib.hid (own_kept HOW.out hk5 fun g hg _ e => by omega)
        have HK5 : Hid (Kept (· = rb) w w5) := Lib.hid (HKE.out.trans hk5 fun _ _ e => e)
        have HR5 := Lib.hid hr5
        have hsz5 := Nat.le_trans HKE.out.size hk5.size
        clear hr5 hk5 C5
        go_wp2_with (at_builtin; refine wpList_append_gen _ rfl (.tmp 16) (.tmp 20) 22 rfl w.heap.size 5 i0 _ 1 1 Tryd.underlying22 hi0 hz0 hz1 hz2 rfl (by omega) _ n (bytesV l) rfl (HO5.out.alloc _) (some ⟨w5.heap.size, 0, none⟩) 1 1 [.int .u8 x] rfl (by rfl) ((Blk.new w5 5 #[.int .u8 x]).news 1) (by simp [Value.oneCell']) (by unfold maxLen; omega) (by omega) (by simp; omega) ?_)
        intro A2 c2 w6 hap
        have hneB : ∀ j, j < w.heap.size → some j ≠ (Value.slice A' n c').ownBlock := fun j hj e => by have := (own_block_lt HO5.out e.symm).1; omega
        have HO6 := Lib.hid hap.own
        have HK6 : Hid (Kept (· = rb) w w6) := Lib.hid ((HK5.out.alloc _).grown hap.grown fun j e hj => absurd e.symm (hneB j hj))
        have HR6 : Hid (RdAt S w6 rb (q + 2 + n + 1)) := Lib.hid ((HR5.out.alloc _).kept hap.kept fun j hj hS hD => by
          have h1 := (own_block_lt HO5.out hD.symm).1
          rcases hS with h | h
          · have := HSS.out j h; omega
          · omega)
        clear hap hneB
        go_wp2_with fail
        go_roundg (gk - 1)
        case measure => omega
        case rel =>
          refine ⟨r - 1, n + 1, A2, c2, by omega, by go_num, rfl, by omega, l ++ [(x : Int)], by rw [List.length_append, HLN.out]; rfl, ?_, HR6.out, HK6.out⟩
          rw [bytesV_append]
          exact HO6.out
      · have hr0' : ¬ (0 : Int) < (r : Int) := by omega
        go_wp2_with fail
        go_ret
        refine ⟨l, A', c', by rw [HLN.out]; rfl, by rw [HLN.out]; omega, by rw [HLN.out]; exact HOW.out, HRD.out.mono (by omega), HKE.out⟩

end Go.Proofs.YteljcdlnfjeaaaaDoor
