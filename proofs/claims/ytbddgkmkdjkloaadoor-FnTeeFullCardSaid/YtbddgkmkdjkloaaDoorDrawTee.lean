/- The reference's own draws: the arguments of Tee. -/
import Derived.Test.YtbddgkmkdjkloaaDoorDraw0
import Derived.Test.YtbddgkmkdjkloaaDoorSizes
import Derived.Test.YtbddgkmkdjkloaaDoorCopyP
import Derived.Deep.RegionHeld3
set_option linter.unusedVariables false
set_option linter.unusedSimpArgs false
namespace Go.Proofs.YtbddgkmkdjkloaaDoor
open Go.RowKit

/-- a source, a number and sizes, in new memory -/
def DrawTeePost (w : World) (e : Ending) (w' : World) : Prop :=
  ∃ (st : List (List Int × Int)) (A : Option Addr) (c : Nat) (z : Int) (zs : List Int) (A1 : Option Addr) (c1 : Nat), e = .returned (.tuple #[.agg #[.slice A st.length c], .agg #[.int .i64 z], .slice A1 zs.length c1]) ∧ st.length ≤ 6 ∧ (∀ i, i < st.length → (dat st i).length ≤ 700) ∧ (-1 ≤ z ∧ z ≤ 1073741824) ∧ zs.length ≤ 11 ∧
    RecsAt (fun j => w.heap.size ≤ j) w' A st ∧ IntsAt (fun j => w.heap.size ≤ j) w' A1 zs ∧ Below w.heap.size w w'

theorem drawTee_done {w w3 w5 w6 : World} {st : List (List Int × Int)} {A A1 : Option Addr} {c c1 rb b1 b2 : Nat} {z : Int} {zs : List Int} {u u' : Value} (h6 : st.length ≤ 6) (h7 : ∀ i, i < st.length → (dat st i).length ≤ 700) (hz : -1 ≤ z ∧ z ≤ 1073741824) (hzs : zs.length ≤ 11)
    (hr : RecsAt (fun j => b1 ≤ j ∧ j < b2) w3 A st) (ho : w6.ownsRow w5.heap.size 3 1 (.slice A1 zs.length c1) zs.length (intsV zs)) (hk3 : Kept (fun _ => False) w w3) (hk6 : Kept (· = rb) w3 w6) (h5 : w3.heap.size ≤ w5.heap.size) (hb1 : w.heap.size + 2 < b1) (hrb1 : w.heap.size + 2 ≤ rb) (hrb2 : rb ≤ w.heap.size + 2) (hb2 : b1 ≤ w3.heap.size) :
    DrawTeePost w (.returned (.tuple #[.agg #[.slice A st.length c], .agg #[.int .i64 z], .slice A1 zs.length c1])) ((w6.setCell ⟨w.heap.size, 0, none⟩ u).setCell ⟨w.heap.size + 1, 0, none⟩ u') := by
  have hk : Kept (fun k => k = rb ∨ k = w.heap.size ∨ k = w.heap.size + 1) w3 ((w6.setCell ⟨w.heap.size, 0, none⟩ u).setCell ⟨w.heap.size + 1, 0, none⟩ u') := ((hk6.mono fun _ _ e => .inl e).setCell (p := ⟨w.heap.size, 0, none⟩) (fun _ => .inr (.inl rfl)) u).setCell (p := ⟨w.heap.size + 1, 0, none⟩) (fun _ => .inr (.inr rfl)) u'
  have hkx : Kept (fun k => k = w.heap.size ∨ k = w.heap.size + 1) w6 ((w6.setCell ⟨w.heap.size, 0, none⟩ u).setCell ⟨w.heap.size + 1, 0, none⟩ u') := ((Kept.refl (fun k => k = w.heap.size ∨ k = w.heap.size + 1) w6).setCell (p := ⟨w.heap.size, 0, none⟩) (fun _ => .inl rfl) u).setCell (p := ⟨w.heap.size + 1, 0, none⟩) (fun _ => .inr rfl) u'
  refine ⟨st, A, c, z, zs, A1, c1, rfl, h6, h7, hz, hzs, (hr.kept hk fun k _ hS hD => by omega).mono fun k _ hS => by omega, ?_, ?_⟩
  · exact (own_ints ho).move hkx.size fun k hk' hS => by
      have := (own_block_lt ho hS).1
      exact ⟨by omega, hkx.block k hk' (by omega)⟩
  · exact ((hk3.mono (D' := fun k => w.heap.size ≤ k) fun _ _ hf => hf.elim).trans hk fun i hi hD => by omega).below (Nat.le_refl _) fun i hi hD => by omega

set_option maxHeartbeats 1000000 in
set_option maxRecDepth 100000 in
theorem drawTee_any {S : Nat → Prop} {w : World} {A : Option Addr} {l : List Int} (c : Nat) (h : BytesAt S w A l) (hl : l.length ≤ 1048576) (hb : ∀ j, j < l.length → 0 ≤ nth l j ∧ nth l j ≤ 255) :
    Calls Tryd.prog 28 #[.slice A l.length c] w (DrawTeePost w) := by
  have HR := Lib.hid (rd_new c (h.alloc (.cells #[.slice none 0 0] 24)) hl hb (.cells #[.int .i64 0] 46))
  have C1 := Lib.hid (source_any HR.out (fun j hj => by simp at hj ⊢; omega) (by omega))
  simp at C1
  have HB0 : Hid (Blk (((w.alloc (.cells #[.slice none 0 0] 24)).alloc (.cells #[.int .i64 0] 46)).alloc (.cells #[.slice A l.length c, .int .i64 0] 61)) w.heap.size 24 #[.slice none 0 0]) := Lib.hid (((Blk.new w _ _).alloc _).alloc _)
  have HB1 : Hid (Blk (((w.alloc (.cells #[.slice none 0 0] 24)).alloc (.cells #[.int .i64 0] 46)).alloc (.cells #[.slice A l.length c, .int .i64 0] 61)) (w.heap.size + 1) 46 #[.int .i64 0]) := Lib.hid ((blk_new2 w _ _ _ rfl).alloc _)
  have HK0 : Hid (Kept (fun _ => False) w (((w.alloc (.cells #[.slice none 0 0] 24)).alloc (.cells #[.int .i64 0] 46)).alloc (.cells #[.slice A l.length c, .int .i64 0] 61))) := Lib.hid ((((Kept.refl _ w).alloc _).alloc _).alloc _)
  clear h hl hb HR
  generalize l.length = len at *
  go_enter Tryd.func28, Tryd.ntmps28
  go_wp2_with fail
  generalize hw1 : ((w.alloc (.cells #[.slice none 0 0] 24)).alloc (.cells #[.int .i64 0] 46)).alloc (.cells #[.slice A len c, .int .i64 0] 61) = w1 at *
  have hs1 : w1.heap.size = w.heap.size + 3 := by rw [← hw1]; simp
  clear hw1
  refine C1.out.mono ?_
  rintro e w2 ⟨st, A2, c2, xs, rfl, hst6, hst7, hrow, hr2, hk2⟩
  have hsz2 := hk2.size
  generalize hwa : w2.alloc (.cells #[.slice A2 st.length c2] 24) = wa
  have hsa : wa.heap.size = w2.heap.size + 1 := by rw [← hwa]; simp
  have hKa : Kept (· = w.heap.size + 2) w1 wa := by rw [← hwa]; exact hk2.alloc _
  have HRC := Lib.hid (show RecsAt (fun j => w1.heap.size ≤ j) wa A2 st by rw [← hwa]; exact (hrow.recs.alloc _).mono fun k _ hk => hk.1)
  have C3 := Lib.hid (bytes_any c2 (by omega) (by have := joinD_bound hst7; omega) HRC.out)
  have HRa := Lib.hid (show RdAt (· < w.heap.size + 1) wa (w.heap.size + 2) 4300 by rw [← hwa]; exact hr2.alloc _)
  have ya : wa.cell? ⟨w2.heap.size, 0, none⟩ = some (.slice A2 st.length c2) := by rw [← hwa]; simp
  have HKA := Lib.hid hKa
  have H7 := Lib.hid hst7
  have hjl := joinD_bound hst7
  clear hrow hr2 hk2 hst7 hKa C1
  go_wp2_with fail
  clear hwa
  refine C3.out.mono ?_
  rintro e w3 ⟨A3, c3, rfl, hc3, _, hb3⟩
  have hs3 := hb3.size
  have hjs : (joinD st).length ≤ 4200 := by omega
  generalize (joinD st).length = all at *
  have K3 : Kept (· = w.heap.size + 2) w1 w3 := HKA.out.of_below hb3
  have HR3 : Hid (RdAt (· < w.heap.size + 1) w3 (w.heap.size + 2) 4300) := Lib.hid (HRa.out.kept (D := fun k => wa.heap.size ≤ k) ⟨hb3.os, hb3.tape, hb3.output, hb3.size, fun k hk hn => hb3.block k (by omega)⟩ fun k hk _ hD => by omega)
  have y3 : w3.cell? ⟨w2.heap.size, 0, none⟩ = some (.slice A2 st.length c2) := (hb3.cell (p := ⟨w2.heap.size, 0, none⟩) (by show w2.heap.size < wa.heap.size; omega)).trans ya
  have HRC3 : Hid (RecsAt (fun j => w1.heap.size ≤ j ∧ j < wa.heap.size) w3 A2 st) := Lib.hid ((HRC.out.mono (S' := fun j => w1.heap.size ≤ j ∧ j < wa.heap.size) fun k hk h => ⟨h, hk⟩).keep hb3.size fun k hk hS => hb3.block k hk)
  have HX0 := Lib.hid (HB0.out.kept K3 (by omega))
  have HX1 := Lib.hid (HB1.out.kept K3 (by omega))
  have HK3 := Lib.hid (HK0.out.trans K3 fun i hi e => by omega)
  clear K3 hb3 ya HRa HRC HB0 HB1 HKA HK0 C3
  go_wp2_with fail
  have hw23 : w2.heap.size < w3.heap.size := by omega
  have hw2rb' : w.heap.size + 2 < w2.heap.size := by omega
  have s1 : IntKind.i64.wrap ((all : Int) - 1) = (all : Int) - 1 := IntWalk.i64_in _ (by omega)
  have s2 : IntKind.i64.wrap ((all : Int) + 1) = (all : Int) + 1 := IntWalk.i64_in _ (by omega)
  generalize hrb : w.heap.size + 1 + 1 = rb at *
  have HR4 : Hid (RdAt (· < w.heap.size + 1) w3 rb 4300) := Lib.hid HR3.out
  have hrb1 : w.heap.size + 2 ≤ rb := by omega
  have hrb2 : rb < w3.heap.size := HR4.out.lt
  have hrb3 : rb ≤ w.heap.size + 2 := by omega
  clear hrb HR3
  have hA1 : ∀ j, j < 7 → ∃ z, (#[Value.int .i64 1073741824, Value.int .i64 (all : Int), Value.int .i64 ((all : Int) - 1), Value.int .i64 3, Value.int .i64 0, Value.int .i64 ((all : Int) + 1), Value.int .i64 (-1)] : Array Value)[j]? = some (.int .i64 z) ∧ (fun z => -1 ≤ z ∧ z ≤ 1073741824) z := by intro j hj; rcases j with _|_|_|_|_|_|_|_|_|j <;> first | exact ⟨_, rfl, by omega⟩ | omega
  have HA1 := Lib.hid hA1
  clear hA1
  have ya := fun o => (World.cell?_alloc_lt w3 (a := ⟨w2.heap.size, 0, none⟩) o hw23).trans y3
  go_region_held3 (fun w' => w'.cell? ⟨w2.heap.size, 0, none⟩ = some (.slice A2 st.length c2))
    (first
      | go_keep
      | exact ya _
      | exact y5
      | exact y6
      | exact y7 _
      | exact y8 _ _)
    (first
      | (go_at_call 34; (with_reducible refine (one_blk (q := 4300) _ (HR4.out.alloc _).drew (by omega) (by omega) (by omega) (Blk.new _ _ _).drew HA1.out (by omega)).mono ?_); rintro e w5 ⟨z, hz, rfl, hr5, hk5⟩; have K5 := ((Kept.refl (· = rb) w3).alloc _).drew.trans hk5 fun _ _ e => e; have hs5 := K5.size; have y5 := (hk5.cell (p := ⟨w2.heap.size, 0, none⟩) (show w2.heap.size < _ by first | omega | (simp; omega)) (show ¬ w2.heap.size = rb by omega)).trans (ya _); have CZ := sizes_any (q := 4301) hr5 (fun j hj => by have hj' : j < w.heap.size + 1 := hj; omega) (by omega))
      | (go_at_call 35; refine CZ.mono ?_; rintro e w6 ⟨zs, A6, c6, rfl, hzl, _, ho6, hr6, hk6⟩; have K6 := K5.trans hk6 fun _ _ e => e; have y6 := (hk6.cell (p := ⟨w2.heap.size, 0, none⟩) (show w2.heap.size < _ by first | omega | (simp; omega)) (show ¬ w2.heap.size = rb by omega)).trans y5; have hs6 := K6.size; have y7 := fun u => (((Kept.refl (· = w.heap.size) w6).setCell (p := ⟨w.heap.size, 0, none⟩) (fun _ => rfl) u).cell (p := ⟨w2.heap.size, 0, none⟩) (show w2.heap.size < w6.heap.size by omega) (show ¬ w2.heap.size = w.heap.size by omega)).trans y6; have y8 := fun u u' => (((Kept.refl (fun k => k = w.heap.size ∨ k = w.heap.size + 1) w6).setCell (p := ⟨w.heap.size, 0, none⟩) (fun _ => .inl rfl) u).setCell (p := ⟨w.heap.size + 1, 0, none⟩) (fun _ => .inr rfl) u').cell (p := ⟨w2.heap.size, 0, none⟩) (show w2.heap.size < w6.heap.size by omega) (show ¬ (w2.heap.size = w.heap.size ∨ w2.heap.size = w.heap.size + 1) by omega) |>.trans y6; have B0 := HX0.out.kept K6 (show ¬ w.heap.size = rb by omega); have b0 := B0.cell 0; have f0 := B0.frozen 0; simp at b0; have B1 := HX1.out.kept K6 (show ¬ w.heap.size + 1 = rb by omega); have b1 := B1.cell 0; have f1 := B1.frozen 0; simp at b1; clear B1; have HK6 := Lib.hid K6; have HO6 := Lib.hid ho6; clear K6 hk6 hr6 B0 ho6 CZ))
  all_goals
    have HZ := Lib.hid hz
    clear s1 s2 ya y5 y6 y7 y8 hz
    go_wp2_with fail
    refine bodyPost_ret (v := .tuple #[.agg #[.slice A2 st.length c2], .agg #[.int .i64 z], .slice A6 zs.length c6]) ?_ rfl ?_
    · simp [results, Tryd.results28, go_sem, b0, b1]
    · exact drawTee_done hst6 H7.out HZ.out hzl HRC3.out HO6.out HK3.out HK6.out hs5 (by omega) hrb1 hrb3 (by omega)

end Go.Proofs.YtbddgkmkdjkloaaDoor
