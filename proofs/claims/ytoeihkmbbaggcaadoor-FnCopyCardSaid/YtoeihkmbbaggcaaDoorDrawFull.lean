/- The reference's own draws: the arguments of ReadFull. -/
import Derived.Test.YtoeihkmbbaggcaaDoorSource
import Derived.Test.YtoeihkmbbaggcaaDoorSizes
set_option linter.unusedVariables false
set_option linter.unusedSimpArgs false
namespace Go.Proofs.YtoeihkmbbaggcaaDoor
open Go.RowKit

theorem joinD_len_le {B : Nat} : ∀ {l : List (List Int × Int)}, (∀ i, i < l.length → (dat l i).length ≤ B) → (joinD l).length ≤ l.length * B
  | [], _ => by simp [joinD]
  | (d, e) :: r, h => by
    have h0 := h 0 (by simp)
    have ih := joinD_len_le (B := B) (l := r) fun i hi => h (i + 1) (by simpa using hi)
    rw [dat_zero] at h0
    rw [joinD_cons, List.length_append, List.length_cons, Nat.add_mul]
    simp only
    omega

/-- the drawer, just made over the bytes of an input -/
theorem rd_new {S : Nat → Prop} {w : World} {A : Option Addr} {l : List Int} (c : Nat) (h : BytesAt S w A l) (hl : l.length ≤ 1048576) (hb : ∀ j, j < l.length → 0 ≤ nth l j ∧ nth l j ≤ 255) (o : Obj) :
    RdAt (· < w.heap.size) ((w.alloc o).alloc (.cells #[.slice A l.length c, .int .i64 0] 50)) (w.heap.size + 1) 0 := by
  refine ⟨A, c, 0, l, ?_, ((h.mono fun k hk _ => hk).alloc _).alloc _, hl, Nat.le_refl _, hb, fun k hk => by omega⟩
  have := Blk.new (w.alloc o) 50 #[.slice A l.length c, .int .i64 0]
  simpa using this

/-- arguments of ReadFull, in new memory -/
def DrawFullPost (w : World) (e : Ending) (w' : World) : Prop :=
  ∃ (st : List (List Int × Int)) (A : Option Addr) (c : Nat) (zs : List Int) (A1 : Option Addr) (c1 : Nat), e = .returned (.tuple #[.agg #[.slice A st.length c], .slice A1 zs.length c1]) ∧ st.length ≤ 6 ∧ (∀ i, i < st.length → (dat st i).length ≤ 700) ∧ zs.length ≤ 11 ∧
    RecsAt (fun j => w.heap.size ≤ j) w' A st ∧ IntsAt (fun j => w.heap.size ≤ j) w' A1 zs ∧ Below w.heap.size w w'

theorem draw_done {w w' : World} {st : List (List Int × Int)} {A : Option Addr} {c : Nat} {zs : List Int} {A1 : Option Addr} {zn c1 b1 b2 b3 : Nat} {t : TypeId} (h6 : st.length ≤ 6) (h7 : ∀ i, i < st.length → (dat st i).length ≤ 700) (hz : zn ≤ 11) (hzl : zs.length = zn)
    (hr : RecsAt (fun j => b1 ≤ j ∧ j < b2) w' A st) (ho : w'.ownsRow b3 t 1 (.slice A1 zn c1) zn (intsV zs)) (hk : Kept (fun _ => False) w w') (hb1 : w.heap.size < b1) (hb3 : w.heap.size < b3) :
    DrawFullPost w (.returned (.tuple #[.agg #[.slice A st.length c], .slice A1 zn c1])) (w'.setCell ⟨w.heap.size, 0, none⟩ (.slice A st.length c)) := by
  subst hzl
  refine ⟨st, A, c, zs, A1, c1, rfl, h6, h7, hz, (hr.setCell (fun hh => by have := hh.1; simp at this; omega) _).mono fun k _ hS => by omega, ?_, (hk.setCell (D := fun _ => False) (p := ⟨w.heap.size, 0, none⟩) (fun hh => by simp at hh) _).below (Nat.le_refl _) fun _ _ hf => hf⟩
  exact (own_ints ho).move (by simp [World.setCell]) fun k hk' hS => by
    have := (own_block_lt ho hS).1
    exact ⟨by omega, Below.heap_setCell _ _ _ _ (by simp; omega)⟩

set_option maxHeartbeats 1000000 in
set_option maxRecDepth 100000 in
theorem drawFull_any {S : Nat → Prop} {w : World} {A : Option Addr} {l : List Int} (c : Nat) (h : BytesAt S w A l) (hl : l.length ≤ 1048576) (hb : ∀ j, j < l.length → 0 ≤ nth l j ∧ nth l j ≤ 255) :
    Calls Tryd.prog 18 #[.slice A l.length c] w (DrawFullPost w) := by
  have HR := Lib.hid (rd_new c h hl hb (.cells #[.slice none 0 0] 25))
  have C1 := Lib.hid (source_any HR.out (fun j hj => by simp; omega) (by omega))
  have HBR : Hid (Blk ((w.alloc (.cells #[.slice none 0 0] 25)).alloc (.cells #[.slice A l.length c, .int .i64 0] 50)) w.heap.size 25 #[.slice none 0 0]) := Lib.hid ((Blk.new w _ _).alloc _)
  have HK0 : Hid (Kept (fun _ => False) w ((w.alloc (.cells #[.slice none 0 0] 25)).alloc (.cells #[.slice A l.length c, .int .i64 0] 50))) := Lib.hid (((Kept.refl _ w).alloc _).alloc _)
  clear h hl hb HR
  generalize l.length = len at *
  go_enter Tryd.func18, Tryd.ntmps18
  go_wp2_with fail
  generalize hw1 : (w.alloc (.cells #[.slice none 0 0] 25)).alloc (.cells #[.slice A len c, .int .i64 0] 50) = w1 at *
  have hs1 : w1.heap.size = w.heap.size + 2 := by rw [← hw1]; simp
  clear hw1
  refine C1.out.mono ?_
  rintro e w2 ⟨st, A2, c2, xs, rfl, hst6, hst7, hrow, hr2, hk2⟩
  have hsz2 := hk2.size
  have C2 := Lib.hid (sizes_any (hr2.alloc (.cells #[.slice A2 st.length c2] 25)) (fun j hj => by simp; omega) (by omega))
  have HRC := Lib.hid (hrow.recs.alloc (.cells #[.slice A2 st.length c2] 25))
  have HBS : Hid (Blk (w2.alloc (.cells #[.slice A2 st.length c2] 25)) w2.heap.size 25 #[.slice A2 st.length c2]) := Lib.hid (Blk.new _ _ _)
  have HB2 : Hid (Blk (w2.alloc (.cells #[.slice A2 st.length c2] 25)) w.heap.size 25 #[.slice none 0 0]) := Lib.hid ((HBR.out.kept hk2 (by omega)).alloc _)
  have HK2 : Hid (Kept (fun _ => False) w (w2.alloc (.cells #[.slice A2 st.length c2] 25))) := Lib.hid ((HK0.out.trans (hk2.mono (D' := fun k => k = w.heap.size + 1) fun _ _ e => e) fun i hi e => by omega).alloc _)
  have H7 := Lib.hid hst7
  clear hrow hr2 hk2 HK0 HBR C1 hst7
  go_wp2_with fail
  generalize hw3 : w2.alloc (.cells #[.slice A2 st.length c2] 25) = w3 at *
  have hs3 : w3.heap.size = w2.heap.size + 1 := by rw [← hw3]; simp
  clear hw3
  refine C2.out.mono ?_
  rintro e w4 ⟨zs, A1, c1, rfl, hz11, hzb, hown, hr4, hk4⟩
  have hsz4 := hk4.size
  have HRC4 : Hid (RecsAt (fun j => w1.heap.size ≤ j ∧ j < w2.heap.size ∧ ¬ False) w4 A2 st) := Lib.hid (HRC.out.kept hk4 fun k _ hS e => by omega)
  have HBS4 : Hid (Blk w4 w2.heap.size 25 #[.slice A2 st.length c2]) := Lib.hid (HBS.out.kept hk4 (by omega))
  have HB4 : Hid (Blk w4 w.heap.size 25 #[.slice none 0 0]) := Lib.hid (HB2.out.kept hk4 (by omega))
  have HK4 : Hid (Kept (fun _ => False) w w4) := Lib.hid (HK2.out.trans hk4 fun i hi e => by omega)
  have HOW := Lib.hid hown
  have HR4 := Lib.hid hr4
  have s4 := HBS4.out.cell 0
  have r4 := HB4.out.cell 0
  have f4 := HB4.out.frozen 0
  simp at s4 r4
  clear hown hr4 hk4 HRC HBS HB2 HK2 C2
  generalize hzl : zs.length = zn at *
  have HZL := Lib.hid hzl
  clear hzl hzb
  by_cases hz0 : 0 < zn
  · have hz0' : (0 : Int) < (zn : Int) := by omega
    have CP := Lib.hid (pick_any HR4.out (by omega) 3 (by omega) (by omega))
    go_wp2_with fail
    refine CP.out.mono ?_
    rintro e w5 ⟨p, hp, rfl, hr5, hk5⟩
    have hsz5 := hk5.size
    have HRC5 : Hid (RecsAt (fun j => w1.heap.size ≤ j ∧ j < w2.heap.size ∧ ¬ False) w5 A2 st) := Lib.hid (HRC4.out.kept hk5 fun k _ hS e => by omega)
    have HBS5 : Hid (Blk w5 w2.heap.size 25 #[.slice A2 st.length c2]) := Lib.hid (HBS4.out.kept hk5 (by omega))
    have HB5 : Hid (Blk w5 w.heap.size 25 #[.slice none 0 0]) := Lib.hid (HB4.out.kept hk5 (by omega))
    have HK5 : Hid (Kept (fun _ => False) w w5) := Lib.hid (HK4.out.trans hk5 fun i hi e => by omega)
    have HO5 := Lib.hid (own_kept HOW.out hk5 fun g hg _ e => by omega)
    have s5 := HBS5.out.cell 0
    have r5 := HB5.out.cell 0
    have f5 := HB5.out.frozen 0
    simp at s5 r5
    clear hr5 hk5 CP HRC4 HBS4 HB4 HK4 HOW HR4 s4 r4 f4
    by_cases hp0 : p = 0
    · subst hp0
      have C6 := Lib.hid (bytes_any c2 (by omega) (by have := joinD_len_le H7.out; omega) HRC5.out)
      have hjl : (joinD st).length ≤ 4200 := by have := joinD_len_le H7.out; omega
      generalize hjj : joinD st = js at *
      obtain ⟨g, cur, rfl, hg1, hg2, hgb, hgs⟩ := own_pos HO5.out hz0
      have HGB := Lib.hid hgb
      clear hgb hjj
      go_wp2_with fail
      refine C6.out.mono ?_
      rintro e w6 ⟨A6, c6, rfl, hc6, hb6, hbel6⟩
      have G6 := HGB.out.below hbel6 hg2
      obtain ⟨y, hy⟩ : ∃ y, cur[0]? = some y := ⟨_, Array.getElem?_eq_getElem (by omega)⟩
      have g6 := (G6.cell 0).trans hy
      have f6 := G6.frozen 0
      have hk6 : Kept (fun _ => False) w5 w6 := (Kept.refl _ _).of_below hbel6
      have HRC6 : Hid (RecsAt (fun j => w1.heap.size ≤ j ∧ j < w2.heap.size ∧ ¬ False) w6 A2 st) := Lib.hid (HRC5.out.kept hk6 fun _ _ _ hf => hf)
      have HBS6 : Hid (Blk w6 w2.heap.size 25 #[.slice A2 st.length c2]) := Lib.hid (HBS5.out.kept hk6 id)
      have HB6 : Hid (Blk w6 w.heap.size 25 #[.slice none 0 0]) := Lib.hid (HB5.out.kept hk6 id)
      have HK6 : Hid (Kept (fun _ => False) w w6) := Lib.hid (HK5.out.trans hk6 fun _ _ hf => hf)
      have HO6 := Lib.hid (own_kept HO5.out hk6 fun _ _ _ hf => hf)
      have s6 := HBS6.out.cell 0
      have r6 := HB6.out.cell 0
      have f6r := HB6.out.frozen 0
      have hgn1 : g ≠ w2.heap.size := by omega
      have hgn2 : g ≠ w.heap.size := by omega
      simp at s6 r6
      clear hb6 hbel6 hk6 C6 HRC5 HBS5 HB5 HK5 HO5 s5 r5 f5 G6 HGB
      go_wp2_with fail
      refine bodyPost_ret (v := .tuple #[.agg #[.slice A2 st.length c2], .slice (some ⟨g, 0, none⟩) zn c1]) ?_ rfl ?_
      · simp [results, Tryd.results18, go_sem, r6, hgn2]
      · have o7 := own_set (i := 0) (.int .i64 (js.length : Int)) HO6.out
        have e7 : (intsV zs).set 0 (.int .i64 (js.length : Int)) = intsV (zs.set 0 (js.length : Int)) := by simp [intsV, List.map_set]
        rw [e7] at o7
        exact draw_done hst6 H7.out hz11 (by rw [List.length_set]; exact HZL.out) ((HRC6.out.mono (S' := fun j => w1.heap.size ≤ j ∧ j < w2.heap.size) fun k _ hS => ⟨hS.1, hS.2.1⟩).setCell (fun hh => by have := hh.2; simp at this; omega) _) o7 (HK6.out.setCell (p := ⟨g, 0, none⟩) (fun hh => by have : g < w.heap.size := hh; omega) _) (by omega) (by omega)
    · have hpb : ((p : Int) == 0) = false := by simp; omega
      go_wp2_with fail
      refine bodyPost_ret (v := .tuple #[.agg #[.slice A2 st.length c2], .slice A1 zn c1]) ?_ rfl ?_
      · simp [results, Tryd.results18, go_sem, r5]
      · exact draw_done hst6 H7.out hz11 HZL.out (HRC5.out.mono fun k _ hS => ⟨hS.1, hS.2.1⟩) HO5.out HK5.out (by omega) (by omega)
  · have hz0' : ¬ (0 : Int) < (zn : Int) := by omega
    go_wp2_with fail
    refine bodyPost_ret (v := .tuple #[.agg #[.slice A2 st.length c2], .slice A1 zn c1]) ?_ rfl ?_
    · simp [results, Tryd.results18, go_sem, r4]
    · exact draw_done hst6 H7.out hz11 HZL.out (HRC4.out.mono fun k _ hS => ⟨hS.1, hS.2.1⟩) HOW.out HK4.out (by omega) (by omega)

end Go.Proofs.YtoeihkmbbaggcaaDoor
