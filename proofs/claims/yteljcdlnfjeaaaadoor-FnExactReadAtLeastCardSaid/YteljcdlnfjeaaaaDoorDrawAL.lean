/- The reference's own draws: the arguments of ReadAtLeast. -/
import Derived.Test.YteljcdlnfjeaaaaDoorDraw0
import Derived.Deep.RegionHeld3
set_option linter.unusedVariables false
set_option linter.unusedSimpArgs false
namespace Go.Proofs.YteljcdlnfjeaaaaDoor
open Go.RowKit

/-- arguments of ReadAtLeast, in new memory -/
def DrawALPost (w : World) (e : Ending) (w' : World) : Prop :=
  ∃ (st : List (List Int × Int)) (A : Option Addr) (c : Nat) (size least thn : Int), e = .returned (.tuple #[.agg #[.slice A st.length c], .int .i64 size, .int .i64 least, .int .i64 thn]) ∧ st.length ≤ 6 ∧ (∀ i, i < st.length → (dat st i).length ≤ 700) ∧ (0 ≤ size ∧ size ≤ 1000) ∧ (-1 ≤ least ∧ least ≤ 1001) ∧ (0 ≤ thn ∧ thn ≤ 100) ∧
    RecsAt (fun j => w.heap.size ≤ j) w' A st ∧ Below w.heap.size w w'

theorem drawAL_done {w w3 w6 : World} {st : List (List Int × Int)} {A : Option Addr} {c rb b1 b2 : Nat} {z0 z z2 : Int} {u : Value} (h6 : st.length ≤ 6) (h7 : ∀ i, i < st.length → (dat st i).length ≤ 700) (hz0 : 0 ≤ z0 ∧ z0 ≤ 1000) (hz : -1 ≤ z ∧ z ≤ 1001) (hz2 : 0 ≤ z2 ∧ z2 ≤ 100)
    (hr : RecsAt (fun j => b1 ≤ j ∧ j < b2) w3 A st) (hk3 : Kept (fun _ => False) w w3) (hk6 : Kept (· = rb) w3 w6) (hb1 : w.heap.size + 1 < b1) (hrb1 : w.heap.size + 1 ≤ rb) (hrb2 : rb ≤ w.heap.size + 1) :
    DrawALPost w (.returned (.tuple #[.agg #[.slice A st.length c], .int .i64 z0, .int .i64 z, .int .i64 z2])) (w6.setCell ⟨w.heap.size, 0, none⟩ u) := by
  have hk : Kept (fun k => k = rb ∨ k = w.heap.size) w3 (w6.setCell ⟨w.heap.size, 0, none⟩ u) :=
    (hk6.mono fun _ _ e => .inl e).setCell (p := ⟨w.heap.size, 0, none⟩) (fun _ => .inr rfl) u
  refine ⟨st, A, c, z0, z, z2, rfl, h6, h7, hz0, hz, hz2, (hr.kept hk fun k _ hS hD => by omega).mono fun k _ hS => by omega, ?_⟩
  exact ((hk3.mono (D' := fun k => w.heap.size ≤ k) fun _ _ hf => hf.elim).trans hk fun i hi hD => by omega).below (Nat.le_refl _) fun i hi hD => by omega

set_option maxHeartbeats 1000000 in
set_option maxRecDepth 100000 in
theorem drawAL_any {S : Nat → Prop} {w : World} {A : Option Addr} {l : List Int} (c : Nat) (h : BytesAt S w A l) (hl : l.length ≤ 1048576) (hb : ∀ j, j < l.length → 0 ≤ nth l j ∧ nth l j ≤ 255) :
    Calls Tryd.prog 22 #[.slice A l.length c] w (DrawALPost w) := by
  have HR := Lib.hid (rd_new c h hl hb (.cells #[.slice none 0 0] 25))
  have C1 := Lib.hid (source_any HR.out (fun j hj => by simp; omega) (by omega))
  have HB0 : Hid (Blk ((w.alloc (.cells #[.slice none 0 0] 25)).alloc (.cells #[.slice A l.length c, .int .i64 0] 55)) w.heap.size 25 #[.slice none 0 0]) := Lib.hid ((Blk.new w _ _).alloc _)
  have HK0 : Hid (Kept (fun _ => False) w ((w.alloc (.cells #[.slice none 0 0] 25)).alloc (.cells #[.slice A l.length c, .int .i64 0] 55))) := Lib.hid (((Kept.refl _ w).alloc _).alloc _)
  clear h hl hb HR
  generalize l.length = len at *
  go_enter Tryd.func22, Tryd.ntmps22
  go_wp2_with fail
  generalize hw1 : (w.alloc (.cells #[.slice none 0 0] 25)).alloc (.cells #[.slice A len c, .int .i64 0] 55) = w1 at *
  have hs1 : w1.heap.size = w.heap.size + 2 := by rw [← hw1]; simp
  clear hw1
  refine C1.out.mono ?_
  rintro e w2 ⟨st, A2, c2, xs, rfl, hst6, hst7, hrow, hr2, hk2⟩
  have hsz2 := hk2.size
  generalize hwa : w2.alloc (.cells #[.slice A2 st.length c2] 25) = wa
  have hsa : wa.heap.size = w2.heap.size + 1 := by rw [← hwa]; simp
  have hKa : Kept (· = w.heap.size + 1) w1 wa := by rw [← hwa]; exact hk2.alloc _
  have HRC := Lib.hid (show RecsAt (fun j => w1.heap.size ≤ j) wa A2 st by rw [← hwa]; exact (hrow.recs.alloc _).mono fun k _ hk => hk.1)
  have hRa : RdAt (· < w.heap.size) wa (w.heap.size + 1) 4300 := by rw [← hwa]; exact hr2.alloc _
  have ya : wa.cell? ⟨w2.heap.size, 0, none⟩ = some (.slice A2 st.length c2) := by rw [← hwa]; simp
  have HKA := Lib.hid hKa
  have H7 := Lib.hid hst7
  have hA0 : ∀ j, j < 7 → ∃ z, (#[Value.int .i64 4, Value.int .i64 2, Value.int .i64 8, Value.int .i64 1, Value.int .i64 0, Value.int .i64 100, Value.int .i64 1000] : Array Value)[j]? = some (.int .i64 z) ∧ (fun z => 0 ≤ z ∧ z ≤ 1000) z := by intro j hj; rcases j with _|_|_|_|_|_|_|_|j <;> first | exact ⟨_, rfl, by omega⟩ | omega
  have C2 := Lib.hid (one_blk (q := 4300) (c := 7) _ (hRa.alloc (.cells #[Value.int .i64 4, Value.int .i64 2, Value.int .i64 8, Value.int .i64 1, Value.int .i64 0, Value.int .i64 100, Value.int .i64 1000] 3)) (by omega) (by omega) (by omega) (b := w2.heap.size + 1) (t := 3) (by rw [← hsa]; exact Blk.new wa _ _) hA0 (by omega))
  clear hrow hr2 hk2 hst7 hKa C1 hA0 hRa
  go_wp2_with fail
  clear hwa
  refine C2.out.mono ?_
  rintro e w3 ⟨z0, hz0, rfl, hr3, hk3⟩
  have hs3 := hk3.size
  simp at hs3
  have hk3' : Kept (· = w.heap.size + 1) wa w3 := ((Kept.refl (· = w.heap.size + 1) wa).alloc _).trans hk3 fun _ _ e => e
  have K3 : Kept (· = w.heap.size + 1) w1 w3 := HKA.out.trans hk3' fun _ _ e => e
  have HR3 := Lib.hid hr3
  have y3 : w3.cell? ⟨w2.heap.size, 0, none⟩ = some (.slice A2 st.length c2) := (hk3'.cell (p := ⟨w2.heap.size, 0, none⟩) (show w2.heap.size < wa.heap.size by omega) (show ¬ w2.heap.size = w.heap.size + 1 by omega)).trans ya
  have HRC3 : Hid (RecsAt (fun j => w1.heap.size ≤ j ∧ j < wa.heap.size) w3 A2 st) := Lib.hid ((HRC.out.mono (S' := fun j => w1.heap.size ≤ j ∧ j < wa.heap.size) fun k hk h => ⟨h, hk⟩).kept hk3' fun k hk hS e => by omega)
  have HX0 := Lib.hid (HB0.out.kept K3 (by omega))
  have HK3 := Lib.hid (HK0.out.trans K3 fun i hi e => by omega)
  have hz01 := hz0.1
  have hz02 := hz0.2
  have HZ0 := Lib.hid hz0
  clear K3 hk3 hk3' hr3 ya HRC HB0 HKA HK0 C2 hz0
  go_wp2_with fail
  have hw23 : w2.heap.size < w3.heap.size := by omega
  have hw2rb' : w.heap.size + 1 < w2.heap.size := by omega
  have s2 : IntKind.i64.wrap (z0 + 1) = z0 + 1 := IntWalk.i64_in _ (by omega)
  generalize hrb : w.heap.size + 1 = rb at *
  have hrb2 : rb < w3.heap.size := HR3.out.lt
  have hrb1 : w.heap.size + 1 ≤ rb := by omega
  have hrb3 : rb ≤ w.heap.size + 1 := by omega
  clear hrb
  have hA1 : ∀ j, j < 7 → ∃ z, (#[Value.int .i64 1, Value.int .i64 2, Value.int .i64 z0, Value.int .i64 (z0 + 1), Value.int .i64 0, Value.int .i64 5, Value.int .i64 (-1)] : Array Value)[j]? = some (.int .i64 z) ∧ (fun z => -1 ≤ z ∧ z ≤ 1001) z := by intro j hj; rcases j with _|_|_|_|_|_|_|_|j <;> first | exact ⟨_, rfl, by omega⟩ | omega
  have hA2 : ∀ j, j < 4 → ∃ z, (#[Value.int .i64 2, Value.int .i64 0, Value.int .i64 5, Value.int .i64 100] : Array Value)[j]? = some (.int .i64 z) ∧ (fun z => 0 ≤ z ∧ z ≤ 100) z := by intro j hj; rcases j with _|_|_|_|_|_|_|_|j <;> first | exact ⟨_, rfl, by omega⟩ | omega
  have HA1 := Lib.hid hA1
  have HA2 := Lib.hid hA2
  clear hA1 hA2
  have ya := fun o => (World.cell?_alloc_lt w3 (a := ⟨w2.heap.size, 0, none⟩) o hw23).trans y3
  have yb := fun o o' => (World.cell?_alloc_lt (w3.alloc o) (a := ⟨w2.heap.size, 0, none⟩) o' (by simp; omega)).trans (ya o)
  go_region_held3 (fun w' => w'.cell? ⟨w2.heap.size, 0, none⟩ = some (.slice A2 st.length c2))
    (first
      | go_keep
      | exact ya _
      | exact yb _ _
      | exact y5
      | exact y5a _
      | exact y6
      | exact y7 _)
    (first
      | (go_at_call 29; (with_reducible refine (one_blk (q := 4301) _ (HR3.out.alloc _).drew (by omega) (by omega) (by omega) (Blk.new _ _ _).drew HA1.out (by omega)).mono ?_); rintro e w5 ⟨z, hz, rfl, hr5, hk5⟩; have K5 := ((Kept.refl (· = rb) w3).alloc _).drew.trans hk5 fun _ _ e => e; have hs5 := K5.size; have y5 := (hk5.cell (p := ⟨w2.heap.size, 0, none⟩) (show w2.heap.size < _ by first | omega | (simp; omega)) (show ¬ w2.heap.size = rb by omega)).trans (ya _); have y5a := fun o => (World.cell?_alloc_lt w5 (a := ⟨w2.heap.size, 0, none⟩) o (by simp; omega)).trans y5)
      | (go_at_call 29; (with_reducible refine (one_blk (q := 4302) _ (hr5.alloc _) (by omega) (by omega) (by omega) (Blk.new _ _ _) HA2.out (by omega)).mono ?_); rintro e w6 ⟨z2, hz2, rfl, hr6, hk6⟩; have K6 := (K5.alloc _).trans hk6 fun _ _ e => e; have y6 := (hk6.cell (p := ⟨w2.heap.size, 0, none⟩) (show w2.heap.size < _ by first | omega | (simp; omega)) (show ¬ w2.heap.size = rb by omega)).trans (y5a _); have hs6 := K6.size; have y7 := fun u => (((Kept.refl (· = w.heap.size) w6).setCell (p := ⟨w.heap.size, 0, none⟩) (fun _ => rfl) u).cell (p := ⟨w2.heap.size, 0, none⟩) (show w2.heap.size < w6.heap.size by omega) (show ¬ w2.heap.size = w.heap.size by omega)).trans y6; have B0 := HX0.out.kept K6 (show ¬ w.heap.size = rb by omega); have b0 := B0.cell 0; have f0 := B0.frozen 0; simp at b0; have HK6 := Lib.hid K6; clear K6 hk6 hr6 B0)
      | (go_at_call 29; (with_reducible refine (one_blk (q := 4301) _ ((HR3.out.alloc _).alloc _).drew (by omega) (by omega) (by omega) ((Blk.new _ _ _).alloc _).drew HA1.out (by omega)).mono ?_); rintro e w5 ⟨z, hz, rfl, hr5, hk5⟩; have K5 := (((Kept.refl (· = rb) w3).alloc _).alloc _).drew.trans hk5 fun _ _ e => e; have hs5 := K5.size; have hb5 := (blk_new2 _ _ _ _ rfl).drew.kept hk5 (show ¬ w3.heap.size + 1 = rb by omega); have y5 := (hk5.cell (p := ⟨w2.heap.size, 0, none⟩) (show w2.heap.size < _ by first | omega | (simp; omega)) (show ¬ w2.heap.size = rb by omega)).trans (yb _ _))
      | (go_at_call 29; (with_reducible refine (one_blk (q := 4301) _ ((HR3.out.alloc _).alloc _).drew (by omega) (by omega) (by omega) (blk_new2 _ _ _ _ rfl).drew HA1.out (by omega)).mono ?_); rintro e w5 ⟨z, hz, rfl, hr5, hk5⟩; have K5 := (((Kept.refl (· = rb) w3).alloc _).alloc _).drew.trans hk5 fun _ _ e => e; have hs5 := K5.size; have hb5 := ((Blk.new _ _ _).alloc _).drew.kept hk5 (show ¬ w3.heap.size = rb by omega); have y5 := (hk5.cell (p := ⟨w2.heap.size, 0, none⟩) (show w2.heap.size < _ by first | omega | (simp; omega)) (show ¬ w2.heap.size = rb by omega)).trans (yb _ _))
      | (go_at_call 29; (with_reducible refine (one_blk (q := 4302) _ hr5 (by omega) (by omega) (by omega) hb5 HA2.out (by omega)).mono ?_); rintro e w6 ⟨z2, hz2, rfl, hr6, hk6⟩; have K6 := K5.trans hk6 fun _ _ e => e; have y6 := (hk6.cell (p := ⟨w2.heap.size, 0, none⟩) (show w2.heap.size < _ by first | omega | (simp; omega)) (show ¬ w2.heap.size = rb by omega)).trans y5; have hs6 := K6.size; have y7 := fun u => (((Kept.refl (· = w.heap.size) w6).setCell (p := ⟨w.heap.size, 0, none⟩) (fun _ => rfl) u).cell (p := ⟨w2.heap.size, 0, none⟩) (show w2.heap.size < w6.heap.size by omega) (show ¬ w2.heap.size = w.heap.size by omega)).trans y6; have B0 := HX0.out.kept K6 (show ¬ w.heap.size = rb by omega); have b0 := B0.cell 0; have f0 := B0.frozen 0; simp at b0; have HK6 := Lib.hid K6; clear K6 hk6 hr6 B0))
  all_goals
    have HZ := Lib.hid hz
    have HZ2 := Lib.hid hz2
    clear s2 ya yb y5 y6 y7 hz hz2
    go_wp2_with fail
    refine bodyPost_ret (v := .tuple #[.agg #[.slice A2 st.length c2], .int .i64 z0, .int .i64 z, .int .i64 z2]) ?_ rfl ?_
    · simp [results, Tryd.results22, go_sem, b0]
    · exact drawAL_done hst6 H7.out HZ0.out HZ.out HZ2.out HRC3.out HK3.out HK6.out (by omega) hrb1 hrb3

end Go.Proofs.YteljcdlnfjeaaaaDoor
