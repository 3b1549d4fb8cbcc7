/- The reference's own draws: sizes of buffers. -/
import Derived.Test.YtmoecjhlonokfaaDoorSome
import Derived.Test.YtmoecjhlonokfaaDoorRowAt
set_option linter.unusedVariables false
set_option linter.unusedSimpArgs false
namespace Go.Proofs.YtmoecjhlonokfaaDoor
open Go.RowKit

/-- numbers as cells -/
def intsV (l : List Int) : List Value := l.map (Value.int .i64)
theorem intsV_length (l : List Int) : (intsV l).length = l.length := by simp [intsV]
theorem intsV_append (l r : List Int) : intsV (l ++ r) = intsV l ++ intsV r := by simp [intsV]
theorem infoInt : (Tryd.prog.info? 3).map (fun i => (i.zero, i.size, i.bytes)) = some (some (.int .i64 0), 1, 8) := by kernel_rfl

theorem own_ints {w : World} {base : Nat} {e : TypeId} {A : Option Addr} {n c : Nat} {l : List Int} (h : w.ownsRow base e 1 (.slice A n c) n (intsV l)) : IntsAt (fun j => (Value.slice A n c).ownBlock = some j) w A l := fun hl => by
  have hn : l.length = n := by have := h.1; rw [intsV_length] at this; omega
  rcases h.2 with ⟨_, h0⟩ | ⟨g, cap, cur, hv, _, hg, _, _, _, ht⟩
  · omega
  · obtain ⟨rfl, _⟩ : A = some ⟨g, 0, none⟩ ∧ c = cap := by injection hv with h1 _ h3; exact ⟨h1, h3⟩
    have hlt := (Array.getElem?_eq_some_iff.1 hg).1
    refine ⟨g, 0, rfl, rfl, hlt, fun j hj => ?_⟩
    have := h.cells (g := g) rfl j (.int .i64 (nth l j)) (by rw [nth_get hj]; simp [intsV, hj])
    rw [← this]
    unfold Addr.add
    split
    · next e => subst e; rfl
    · rfl

/-- a cell of a row of the call's own is set -/
theorem own_set {w : World} {base : Nat} {e : TypeId} {g n c : Nat} {xs : List Value} {i : Nat} (u : Value) (h : w.ownsRow base e 1 (.slice (some ⟨g, 0, none⟩) n c) n xs) : (w.setCell ⟨g, i, none⟩ u).ownsRow base e 1 (.slice (some ⟨g, 0, none⟩) n c) n (xs.set i u) := by
  rcases h.2 with ⟨hv, h0⟩ | ⟨g', cap, cur, hv, hg1, hg, hnc, hm, hcs, ht⟩
  · cases hv
  · obtain ⟨rfl, rfl⟩ : g = g' ∧ c = cap := by injection hv with h1 _ h3; injection h1 with h1; injection h1 with h1; exact ⟨h1, h3⟩
    have hb : Blk w g e cur := hg
    exact ⟨by simp [h.1], Or.inr ⟨g, c, cur.setIfInBounds i u, rfl, hg1, hb.put _ _, hnc, hm, by simp [hcs], by rw [Array.toList_setIfInBounds, List.take_set, ht]⟩⟩
theorem own_pos {w : World} {base : Nat} {e : TypeId} {size : Nat} {A : Option Addr} {n c : Nat} {xs : List Value} (h : w.ownsRow base e size (.slice A n c) n xs) (hn : 0 < n) : ∃ g cur, A = some ⟨g, 0, none⟩ ∧ base ≤ g ∧ g < w.heap.size ∧ Blk w g e cur ∧ n * size ≤ cur.size := by
  rcases h.2 with ⟨_, h0⟩ | ⟨g, cap, cur, hv, hg1, hg, hnc, _, hcs, ht⟩
  · omega
  · obtain ⟨rfl, rfl⟩ : A = some ⟨g, 0, none⟩ ∧ c = cap := by injection hv with h1 _ h3; exact ⟨h1, h3⟩
    exact ⟨g, cur, rfl, hg1, (Array.getElem?_eq_some_iff.1 hg).1, hg, by rw [hcs]; exact Nat.mul_le_mul_right _ hnc⟩

/-- sizes, a row of the call's own -/
def SizesPost (S : Nat → Prop) (rb q : Nat) (w : World) (e : Ending) (w' : World) : Prop :=
  ∃ (l : List Int) (A : Option Addr) (c : Nat), e = .returned (.slice A l.length c) ∧ l.length ≤ 11 ∧ (∀ z ∈ l, -1 ≤ z ∧ z ≤ 1000) ∧ w'.ownsRow w.heap.size 3 1 (.slice A l.length c) l.length (intsV l) ∧ RdAt S w' rb (q + 20) ∧ Kept (· = rb) w w'

/-- what holds at the head of a round of sizes -/
def SzInv (S : Nat → Prop) (rb q : Nat) (w : World) (A' : Option Addr) (n c' : Nat) (wr : World) : Prop :=
  ∃ l, l.length = n ∧ (∀ z ∈ l, -1 ≤ z ∧ z ≤ 1000) ∧ wr.ownsRow w.heap.size 3 1 (.slice A' n c') n (intsV l) ∧ RdAt S wr rb (q + 1 + n) ∧ Kept (· = rb) w wr

set_option maxHeartbeats 1000000 in
set_option maxRecDepth 100000 in
theorem sizes_any {S : Nat → Prop} {w : World} {rb q : Nat} (h : RdAt S w rb q) (hS : ∀ j, S j → j < w.heap.size) (hq : q ≤ 900000000) :
    Calls Tryd.prog 40 #[.pointer (some ⟨rb, 0, none⟩)] w (SizesPost S rb q w) := by
  obtain ⟨i0, hi0, hz0, hz1, hz2⟩ := info_parts infoInt
  have hlt := h.lt
  have HSS := Lib.hid hS
  have C := Lib.hid (one_new (h.alloc (.cells #[] 3)) (by omega) [4, 3, 6, 2, 0, 10] 6 6 3 rfl (by omega) (by omega) #[.int .i64 4, .int .i64 3, .int .i64 6, .int .i64 2, .int .i64 0, .int .i64 10] rfl (w.heap.size + 1) (by simp))
  have HO : Hid ((w.alloc (.cells #[] 3)).ownsRow w.heap.size 3 1 (.slice (some ⟨w.heap.size, 0, none⟩) 0 0) 0 (intsV [])) := Lib.hid (own_empty w w.heap.size 3 1 (Nat.le_refl _))
  clear h hS
  go_enter Tryd.func40, Tryd.ntmps40
  go_wp2_with fail
  refine C.out.mono ?_
  rintro e w2 ⟨z, hz, rfl, hr2, hk2⟩
  have hz' : ∃ m : Nat, z = (m : Int) ∧ m ≤ 10 := by
    simp at hz
    rcases hz with rfl | rfl | rfl | rfl | rfl | rfl
    · exact ⟨4, rfl, by omega⟩
    · exact ⟨3, rfl, by omega⟩
    · exact ⟨6, rfl, by omega⟩
    · exact ⟨2, rfl, by omega⟩
    · exact ⟨0, rfl, by omega⟩
    · exact ⟨10, rfl, by omega⟩
  obtain ⟨m, rfl, hm⟩ := hz'
  have I0 : Hid (SzInv S rb q w (some ⟨w.heap.size, 0, none⟩) 0 0 w2) := Lib.hid ⟨[], rfl, by simp, own_kept HO.out hk2 fun g hg _ e => by omega, hr2, ((Kept.refl (· = rb) w).alloc _).trans hk2 fun _ _ e => e⟩
  clear hz hr2 hk2 C HO
  go_wp2_with fail
  go_loopg [3, 4] m (fun f v i wr => ∃ (r n : Nat) (A' : Option Addr) (c' : Nat), r = f ∧ i = .int .i64 r ∧ v = .slice A' n c' ∧ n + r ≤ 10 ∧ SzInv S rb q w A' n c' wr)
  case atStart => exact ⟨m, 0, _, 0, rfl, rfl, rfl, by omega, I0.out⟩
  case round =>
    obtain ⟨r, n, A', c', rfl, rfl, rfl, hnr, l, hl, hbd, hown, hrd, hkept⟩ := hrel
    have C5 := Lib.hid (one_new hrd (by omega) [2, 1, 3, 4, 8, 0, 100, 1000] 8 8 3 rfl (by omega) (by omega) #[.int .i64 2, .int .i64 1, .int .i64 3, .int .i64 4, .int .i64 8, .int .i64 0, .int .i64 100, .int .i64 1000] rfl wr.heap.size rfl)
    have CP := Lib.hid (pick_any hrd (by omega) 24 (by omega) (by omega))
    have HOW := Lib.hid hown
    have HRD := Lib.hid hrd
    have HKE := Lib.hid hkept
    have HLN := Lib.hid hl
    have HBD := Lib.hid hbd
    clear hown hrd hkept hl hbd
    by_cases hr0 : 0 < r
    · have hr0' : (0 : Int) < (r : Int) := by omega
      clear CP
      go_wp2_with fail
      refine C5.out.mono ?_
      rintro e w5 ⟨x, hx, rfl, hr5, hk5⟩
      have hxb : Hid (-1 ≤ x ∧ x ≤ 1000) := Lib.hid (by simp at hx; omega)
      have HO5 := Lib.hid (own_kept HOW.out hk5 fun g hg _ e => by omega)
      have HK5 : Hid (Kept (· = rb) w w5) := Lib.hid (HKE.out.trans hk5 fun _ _ e => e)
      have HR5 := Lib.hid hr5
      have hsz5 := Nat.le_trans HKE.out.size hk5.size
      clear hr5 hk5 C5 hx
      go_wp2_with (at_builtin; refine wpList_append_gen _ rfl (.tmp 13) (.tmp 17) 41 rfl w.heap.size 3 i0 _ 1 8 Tryd.underlying41 hi0 hz0 hz1 hz2 rfl (by omega) _ n (intsV l) rfl (HO5.out.alloc _) (some ⟨w5.heap.size, 0, none⟩) 1 1 [.int .i64 x] rfl (by rfl) ((Blk.new w5 3 #[.int .i64 x]).news 1) (by simp [Value.oneCell']) (by unfold maxLen; omega) (by omega) (by simp; omega) ?_)
      intro A2 c2 w6 hap
      have hneB : ∀ j, j < w.heap.size → some j ≠ (Value.slice A' n c').ownBlock := fun j hj e => by have := (own_block_lt HO5.out e.symm).1; omega
      have HO6 := Lib.hid hap.own
      have HK6 : Hid (Kept (· = rb) w w6) := Lib.hid ((HK5.out.alloc _).grown hap.grown fun j e hj => absurd e.symm (hneB j hj))
      have HR6 : Hid (RdAt S w6 rb (q + 1 + n + 1)) := Lib.hid ((HR5.out.alloc _).kept hap.kept fun j hj hS hD => by
        have h1 := (own_block_lt HO5.out hD.symm).1
        rcases hS with h | h
        · have := HSS.out j h; omega
        · omega)
      clear hap hneB
      go_wp2_with fail
      go_roundg (r - 1)
      case measure => omega
      case rel =>
        refine ⟨r - 1, n + 1, A2, c2, by omega, by go_num, rfl, by omega, l ++ [x], by rw [List.length_append, HLN.out]; rfl, ?_, ?_, HR6.out, HK6.out⟩
        · intro y hy
          simp at hy
          rcases hy with hy | rfl
          · exact HBD.out y hy
          · exact hxb.out
        · rw [intsV_append]
          exact HO6.out
    · have hr0' : ¬ (0 : Int) < (r : Int) := by omega
      clear C5
      go_wp2_with fail
      refine CP.out.mono ?_
      rintro e w5 ⟨p, hp, rfl, hr5, hk5⟩
      have HO5 := Lib.hid (own_kept HOW.out hk5 fun g hg _ e => by omega)
      have HK5 : Hid (Kept (· = rb) w w5) := Lib.hid (HKE.out.trans hk5 fun _ _ e => e)
      have HR5 := Lib.hid hr5
      have hsz5 := Nat.le_trans HKE.out.size hk5.size
      clear hr5 hk5 CP
      by_cases hp0 : p = 0
      · subst hp0
        go_wp2_with (at_builtin; refine wpList_append_gen _ rfl (.tmp 22) (.tmp 23) 41 rfl w.heap.size 3 i0 _ 1 8 Tryd.underlying41 hi0 hz0 hz1 hz2 rfl (by omega) _ n (intsV l) rfl (HO5.out.alloc _) (some ⟨w5.heap.size, 0, none⟩) 1 1 [.int .i64 (-1)] rfl (by rfl) ((Blk.new w5 3 #[.int .i64 (-1)]).news 1) (by simp [Value.oneCell']) (by unfold maxLen; omega) (by omega) (by simp; omega) ?_)
        intro A2 c2 w6 hap
        have hneB : ∀ j, j < w.heap.size → some j ≠ (Value.slice A' n c').ownBlock := fun j hj e => by have := (own_block_lt HO5.out e.symm).1; omega
        have HO6 := Lib.hid hap.own
        have HK6 : Hid (Kept (· = rb) w w6) := Lib.hid ((HK5.out.alloc _).grown hap.grown fun j e hj => absurd e.symm (hneB j hj))
        have HR6 : Hid (RdAt S w6 rb (q + 1 + n + 1)) := Lib.hid ((HR5.out.alloc _).kept hap.kept fun j hj hS hD => by
          have h1 := (own_block_lt HO5.out hD.symm).1
          rcases hS with h | h
          · have := HSS.out j h; omega
          · omega)
        clear hap hneB
        go_wp2_with fail
        go_ret
        have hl1 : (l ++ [(-1 : Int)]).length = n + 1 := by rw [List.length_append, HLN.out]; rfl
        refine ⟨l ++ [-1], A2, c2, by rw [hl1]; rfl, by omega, ?_, by rw [hl1, intsV_append]; exact HO6.out, HR6.out.mono (by omega), HK6.out⟩
        intro y hy
        simp at hy
        rcases hy with hy | rfl
        · exact HBD.out y hy
        · omega
      · have hpb : ((p : Int) == 0) = false := by simp; omega
        go_wp2_with fail
        go_ret
        exact ⟨l, A', c', by rw [HLN.out]; rfl, by rw [HLN.out]; omega, HBD.out, by rw [HLN.out]; exact HO5.out, HR5.out.mono (by omega), HK5.out⟩

end Go.Proofs.YtmoecjhlonokfaaDoor
