/- The reference's own draws: the arguments of Section. -/
import Derived.Test.YtdlgknaipljhhaaDoorDraw0
import Derived.Test.YtdlgknaipljhhaaDoorEls
set_option linter.unusedVariables false
set_option linter.unusedSimpArgs false
namespace Go.Proofs.YtdlgknaipljhhaaDoor
open Go.RowKit

theorem infoOpA : (Tryd.prog.info? 26).map (fun i => (i.zero, i.size, i.bytes)) = some (some (.agg #[.int .i64 0, .int .i64 0, .int .i64 0]), 3, 24) := by kernel_rfl
theorem infoU8d : (Tryd.prog.info? 5).map (fun i => (i.zero, i.size, i.bytes)) = some (some (.int .u8 0), 1, 1) := by kernel_rfl

/-- the drawer, just made over the bytes of an input -/
theorem rd_new0 {S : Nat → Prop} {w : World} {A : Option Addr} {l : List Int} (c : Nat) (h : BytesAt S w A l) (hl : l.length ≤ 1048576) (hb : ∀ j, j < l.length → 0 ≤ nth l j ∧ nth l j ≤ 255) :
    RdAt (· < w.heap.size) (w.alloc (.cells #[.slice A l.length c, .int .i64 0] 53)) w.heap.size 0 :=
  ⟨A, c, 0, l, Blk.new w _ _, (h.mono fun k hk _ => hk).alloc _, hl, Nat.le_refl _, hb, fun k hk => by omega⟩

/-- bytes, two numbers and operations, in new memory -/
def DrawSecPost (w : World) (e : Ending) (w' : World) : Prop :=
  ∃ (data : List Int) (A : Option Addr) (c : Nat) (off n : Int) (ops : List (Int × Int × Int)) (A1 : Option Addr) (c1 : Nat), e = .returned (.tuple #[.slice A data.length c, .int .i64 off, .int .i64 n, .slice A1 ops.length c1]) ∧ data.length ≤ 1400 ∧ data.length ≤ c ∧ (0 ≤ off ∧ off ≤ 1400) ∧ (0 ≤ n ∧ n ≤ 1402) ∧ ops.length ≤ 10 ∧
    BytesAt (fun j => w.heap.size ≤ j) w' A data ∧ ElsAt ElP 3 (fun j => w.heap.size ≤ j) w' A1 ops ∧ Below w.heap.size w w'

/-- what holds at the head of a round -/
def DSInv (w : World) (rb : Nat) (Ad : Option Addr) (dl cd : Nat) (data : List Int) (k : Nat) (A' : Option Addr) (c' : Nat) (wr : World) : Prop :=
  ∃ ops xs, ElRow ElP 3 26 (w.heap.size + 1) (fun j => (Value.slice Ad dl cd).ownBlock = some j) wr A' k c' ops xs ∧ wr.ownsRow (w.heap.size + 1) 5 1 (.slice Ad dl cd) dl (bytesV data) ∧ RdAt (· < w.heap.size) wr rb (3000 + 4 * k) ∧ Kept (· = rb) w wr

theorem own_keptD {base rb : Nat} {X : Nat → Prop} {wr w' : World} {A : Option Addr} {k c : Nat} {l : List (Int × Int × Int)} {xs : List Value} (h : ElRow ElP 3 26 (base + 1) X wr A k c l xs) (hk : Kept (· = rb) wr w') (hrb : rb = base) : w'.ownsRow (base + 1) 26 3 (.slice A k c) k xs := (h.kept mvP hk fun j hj _ _ e => by omega).own

theorem ds_next {w wr w6 w0 w4 : World} {rb : Nat} {Ad A' A2 : Option Addr} {dl cd k c' c2 : Nat} {data : List Int} {ops : List (Int × Int × Int)} {xs : List Value} {x : Int × Int × Int} {vs : List Value} (hrow : ElRow ElP 3 26 (w.heap.size + 1) (fun j => (Value.slice Ad dl cd).ownBlock = some j) wr A' k c' ops xs)
    (hod : wr.ownsRow (w.heap.size + 1) 5 1 (.slice Ad dl cd) dl (bytesV data)) (hkw : Kept (· = rb) w wr) (hk : Kept (· = rb) wr w6) (hr : RdAt (· < w.heap.size) w6 rb (3000 + 4 * (k + 1))) (hsz : wr.heap.size ≤ w6.heap.size) (hw0 : Kept (fun _ => False) w6 w0)
    (hap : Appended (w.heap.size + 1) 26 3 A2 (k + 1) c2 (xs ++ vs) (Value.slice A' k c').ownBlock w0 w4) (hv : vs = [.int .i64 x.1, .int .i64 x.2.1, .int .i64 x.2.2]) (hrb : rb = w.heap.size) : DSInv w rb Ad dl cd data (k + 1) A2 c2 w4 := by
  have hlo : ∀ j, (Value.slice A' k c').ownBlock = some j → w.heap.size + 1 ≤ j ∧ j < wr.heap.size := fun j e => own_block_lt hrow.own e
  have hlD : ∀ j, (Value.slice Ad dl cd).ownBlock = some j → w.heap.size + 1 ≤ j ∧ j < wr.heap.size := fun j e => own_block_lt hod e
  have hr6 := hrow.kept mvP hk fun j hj _ _ e => by omega
  have hn := ElRow.snoc (x := x) mvP (by omega) hr6 hw0 hap (fun j hj e => by have := (hlD j e).2; omega) (by rw [hv]; rfl) (by rw [hv]; rfl)
  refine ⟨_, _, hn, ?_, ?_, ?_⟩
  · have h6 := own_kept (own_kept hod hk fun g hg _ e => by omega) hw0 fun g hg _ hf => hf
    refine World.ownsRow.kept h6 hap.grown ?_
    cases ho : (Value.slice Ad dl cd).ownBlock with
    | none => exact .inl rfl
    | some gg => exact .inr (fun e => by
        have := hrow.nx gg
        rw [ho] at this
        exact this (by first | exact e | exact e.symm) rfl)
  · refine (hr.kept hw0 fun _ _ _ hf => hf).kept hap.kept fun j _ hj e => ?_
    have := (hlo j e.symm).1
    rcases hj with h | h <;> omega
  · exact ((hkw.trans hk fun _ _ e => e).trans hw0 fun _ _ hf => hf.elim).trans hap.kept fun j hj e => by have := (hlo j e.symm).1; omega

theorem ds_done {w wr : World} {rb : Nat} {Ad A' : Option Addr} {dl cd k c' off : Nat} {nn : Int} {data : List Int} {ops : List (Int × Int × Int)} {xs : List Value} (hrow : ElRow ElP 3 26 (w.heap.size + 1) (fun j => (Value.slice Ad dl cd).ownBlock = some j) wr A' k c' ops xs)
    (hod : wr.ownsRow (w.heap.size + 1) 5 1 (.slice Ad dl cd) dl (bytesV data)) (hkw : Kept (· = rb) w wr) (hdl : dl ≤ 1400) (ho : off ≤ dl) (h0 : 0 ≤ nn) (h1 : nn ≤ 1402) (hk : k ≤ 10) (hrb : rb = w.heap.size) :
    DrawSecPost w (.returned (.tuple #[.slice Ad dl cd, .int .i64 (off : Int), .int .i64 nn, .slice A' k c'])) wr := by
  have hl : data.length = dl := by have := hod.1; rw [bytesV_length] at this; omega
  have hlo := hrow.len
  subst hl
  subst hlo
  refine ⟨data, Ad, cd, off, nn, ops, A', c', rfl, hdl, own_cap hod, ⟨by omega, by omega⟩, ⟨h0, h1⟩, hk, (own_bytes hod).mono (fun j _ e => by have := (own_block_lt hod e).1; omega), (hrow.els mvP).mono mvP (fun j _ hj => by omega), ?_⟩
  exact hkw.below (Nat.le_refl _) fun j hj e => by omega

set_option maxHeartbeats 4000000 in
set_option maxRecDepth 100000 in
theorem drawSection_any {S : Nat → Prop} {w : World} {A : Option Addr} {l : List Int} (c : Nat) (h : BytesAt S w A l) (hl : l.length ≤ 1048576) (hb : ∀ j, j < l.length → 0 ≤ nth l j ∧ nth l j ≤ 255) :
    Calls Tryd.prog 11 #[.slice A l.length c] w (DrawSecPost w) := by
  obtain ⟨i0, hi0, hz0, hz1, hz2⟩ := info_parts infoU8d
  obtain ⟨i2, hi2, hx0, hx1, hx2⟩ := info_parts infoOpA
  have HR := Lib.hid (rd_new0 c h hl hb)
  have C1 := Lib.hid (some_any HR.out (fun j hj => by simp; omega) (by omega))
  have HK0 : Hid (Kept (fun k => k = w.heap.size) w (w.alloc (.cells #[.slice A l.length c, .int .i64 0] 53))) := Lib.hid ((Kept.refl _ w).alloc _)
  clear h hl hb HR
  generalize l.length = len at *
  go_enter Tryd.func11, Tryd.ntmps11
  go_wp2_with fail
  generalize hw1 : w.alloc (.cells #[.slice A len c, .int .i64 0] 53) = w1 at *
  have hs1 : w1.heap.size = w.heap.size + 1 := by rw [← hw1]; simp
  clear hw1
  refine C1.out.mono ?_
  rintro e w2 ⟨l1, A1, c1, rfl, hl1, ho1, hr2, hk2⟩
  have hs2 := hk2.size
  have C2 := Lib.hid (some_any hr2 (fun j hj => by omega) (by omega))
  have HO1 := Lib.hid ho1
  have HK2 := Lib.hid (HK0.out.trans hk2 fun _ _ e => e)
  have HS1 : Hid (w1.heap.size = w.heap.size + 1) := Lib.hid hs1
  clear C1 ho1 hr2 hk2 HK0 hs1
  go_wp2_with fail
  refine C2.out.mono ?_
  rintro e w3 ⟨l2, A2, c2, rfl, hl2, ho2, hr3, hk3⟩
  have hs3 := hk3.size
  have HO1' : Hid (w3.ownsRow (w.heap.size + 1) 5 1 (.slice A1 l1.length c1) l1.length (bytesV l1)) := Lib.hid (by have := HO1.out; rw [HS1.out] at this; exact own_kept this hk3 fun g hg _ e => by omega)
  have HNW := Lib.hid (own_bytes ho2).news
  have HBV := Lib.hid (show (bytesV l2).length = l2.length * 1 by rw [bytesV_length]; omega)
  have HR3 := Lib.hid hr3
  have HK3 := Lib.hid (HK2.out.trans hk3 fun _ _ e => e)
  have hs13 : w.heap.size + 1 ≤ w3.heap.size := by have := HS1.out; omega
  have HDL : Hid (∃ data : List Int, data = l1 ++ l2) := Lib.hid ⟨_, rfl⟩
  clear C2 ho2 hr3 hk3 HK2 HO1 HS1 hs2 hs3
  go_wp2_with (at_builtin; refine wpList_append_gen _ rfl (.tmp 17) (.tmp 19) 22 rfl (w.heap.size + 1) 5 i0 _ 1 1 Tryd.underlying22 hi0 hz0 hz1 hz2 rfl (by omega) _ l1.length (bytesV l1) rfl HO1'.out A2 l2.length c2 (bytesV l2) rfl HBV.out HNW.out (bytesV_one l2) (by unfold maxLen; omega) (by omega) (by omega) ?_)
  intro Ad cd w4 hap
  have hs4 := hap.sizeLe
  have HOD4 : Hid (w4.ownsRow (w.heap.size + 1) 5 1 (.slice Ad (l1.length + l2.length) cd) (l1.length + l2.length) (bytesV (l1 ++ l2))) := Lib.hid (by have := hap.own; rw [← bytesV_append] at this; exact this)
  have hneO : ∀ j, j < w.heap.size + 1 → some j ≠ (Value.slice A1 l1.length c1).ownBlock := fun j hj e => by have := (own_block_lt HO1'.out e.symm).1; omega
  have HR4 : Hid (RdAt (· < w.heap.size) w4 w.heap.size (0 + 702 + 702)) := Lib.hid (HR3.out.kept hap.kept fun j _ hj e => hneO j (by rcases hj with h | h <;> omega) e)
  have HK4 : Hid (Kept (· = w.heap.size) w w4) := Lib.hid (HK3.out.trans hap.kept fun j hj e => absurd e (hneO j (by omega)))
  have hs14 : w.heap.size + 1 ≤ w4.heap.size := by omega
  clear hap hneO HO1' HR3 HK3 HNW HBV HDL hs4
  generalize hdata : l1 ++ l2 = data at *
  generalize hdl0 : l1.length + l2.length = dl at *
  have hdl : dl ≤ 1400 := by omega
  clear hdata hdl0 hl1 hl2
  have C5 := Lib.hid (pick_any HR4.out (by omega) (dl + 1) (by omega) (by omega))
  have hcast : ((dl + 1 : Nat) : Int) = (dl : Int) + 1 := by omega
  rw [hcast] at C5
  clear hcast
  go_wp2_with fail
  refine C5.out.mono ?_
  rintro e w5 ⟨off, hoff, rfl, hr5, hk5⟩
  have hol : off ≤ dl := by omega
  have C6 := Lib.hid (pick_any hr5 (by omega) (dl - off + 1) (by omega) (by omega))
  have hcast : ((dl - off + 1 : Nat) : Int) = (dl : Int) - (off : Int) + 1 := by omega
  rw [hcast] at C6
  have HOD5 := Lib.hid (own_kept HOD4.out hk5 fun g hg _ e => by omega)
  have HK5 := Lib.hid (HK4.out.trans hk5 fun _ _ e => e)
  have hs15 : w.heap.size + 1 ≤ w5.heap.size := Nat.le_trans hs14 hk5.size
  clear hcast hr5 hk5 C5 HOD4 HK4 HR4 hoff
  go_wp2_with fail
  refine C6.out.mono ?_
  rintro e w6 ⟨n, hn, rfl, hr6, hk6⟩
  have hnl : n ≤ dl - off := by omega
  have C7 := Lib.hid (pick_any hr6 (by omega) 3 (by omega) (by omega))
  have HOD6 := Lib.hid (own_kept HOD5.out hk6 fun g hg _ e => by omega)
  have HK6 := Lib.hid (HK5.out.trans hk6 fun _ _ e => e)
  have hs16 : w.heap.size + 1 ≤ w6.heap.size := Nat.le_trans hs15 hk6.size
  clear hr6 hk6 C6 HOD5 HK5 hn
  go_wp2_with fail
  refine C7.out.mono ?_
  rintro e w7 ⟨p3, hp3, rfl, hr7, hk7⟩
  have C8 := Lib.hid (pick_any hr7 (by omega) 24 (by omega) (by omega))
  have HOD7 := Lib.hid (own_kept HOD6.out hk7 fun g hg _ e => by omega)
  have HK7 := Lib.hid (HK6.out.trans hk7 fun _ _ e => e)
  have hs17 : w.heap.size + 1 ≤ w7.heap.size := Nat.le_trans hs16 hk7.size
  clear hr7 hk7 C7 HOD6 HK6
  have hsubb : (dl : Int) - (off : Int) = ((dl - off : Nat) : Int) := by omega
  generalize hmm : dl - off = mm at *
  have hmmb : mm ≤ 1400 := by omega
  clear hmm
  by_cases hp0 : p3 = 0
  · subst hp0
    go_wp2_with fail
    refine C8.out.mono ?_
    rintro e w8 ⟨p24, hp24, rfl, hr8, hk8⟩
    have HR3 := Lib.hid hr8
    have HOD3 := Lib.hid (own_kept HOD7.out hk8 fun g hg _ e => by omega)
    have HK3 := Lib.hid (HK7.out.trans hk8 fun _ _ e => e)
    have hs13 : w.heap.size + 1 ≤ w8.heap.size := Nat.le_trans hs17 hk8.size
    clear hr8 hk8 C8 HOD7 HK7
    by_cases hq0 : p24 = 0
    · subst hq0
      have CK := Lib.hid (one_new (q := 0 + 702 + 702 + 1 + 1 + 1 + 1) ((HR3.out.alloc (.cells #[] 26))) (by omega) [4, 3, 6, 2, 0, 10] 6 6 3 rfl (by omega) (by omega) #[.int .i64 4, .int .i64 3, .int .i64 6, .int .i64 2, .int .i64 0, .int .i64 10] rfl (w8.heap.size + 1) (by simp))
      obtain ⟨nn, hnn⟩ : ∃ nn : Int, (mm : Int) + 2 = nn := ⟨_, rfl⟩
      have hnn0 : 0 ≤ nn := by omega
      have hnn1 : nn ≤ 1402 := by omega
      go_wp2_with fail
      clear hnn
      refine CK.out.mono ?_
      rintro e w4 ⟨z0, hz0', rfl, hr4, hk4⟩
      obtain ⟨m, rfl, hm⟩ : ∃ m : Nat, z0 = (m : Int) ∧ m ≤ 10 := by
        simp at hz0'
        rcases hz0' with rfl | rfl | rfl | rfl | rfl | rfl
        · exact ⟨4, rfl, by omega⟩
        · exact ⟨3, rfl, by omega⟩
        · exact ⟨6, rfl, by omega⟩
        · exact ⟨2, rfl, by omega⟩
        · exact ⟨0, rfl, by omega⟩
        · exact ⟨10, rfl, by omega⟩
      have HI0 : Hid (DSInv w w.heap.size Ad dl cd data 0 (some ⟨w8.heap.size, 0, none⟩) 0 w4) := Lib.hid ⟨[], [], (ElRow.empty 26 w8 (w.heap.size + 1) _ (by omega) (fun hX => by have := (own_block_lt HOD3.out hX).2; omega)).kept mvP hk4 (fun j hj _ _ e => by omega), own_kept (HOD3.out.alloc _) hk4 (fun g hg _ e => by omega), hr4.mono (by omega), (HK3.out.alloc _).trans hk4 fun _ _ e => e⟩
      clear hz0' hr4 hk4 CK HK3 HOD3 HR3
      go_wp2_with fail
      go_loopg [10, 11] m (fun f v i wr => ∃ (r k : Nat) (A' : Option Addr) (c' : Nat), r = f ∧ i = .int .i64 r ∧ v = .slice A' k c' ∧ k + r ≤ 10 ∧ DSInv w w.heap.size Ad dl cd data k A' c' wr)
      case atStart => exact ⟨m, 0, _, 0, rfl, rfl, rfl, by omega, HI0.out⟩
      case round =>
        obtain ⟨r, k, A', c', rfl, rfl, rfl, hkr, ops, xs, hrow, hod, hrd, hkw⟩ := hrel
        have hszr := hkw.size
        have hrlt := hrd.lt
        have CP := Lib.hid (pick_any hrd (by omega) 4 (by omega) (by omega))
        have HRW := Lib.hid hrow
        have HOD := Lib.hid hod
        have HRD := Lib.hid hrd
        have HKW := Lib.hid hkw
        clear hrow hod hrd hkw
        by_cases hr0 : 0 < r
        · have hr0' : (0 : Int) < (r : Int) := by omega
          go_wp2_with fail
          refine CP.out.mono ?_
          rintro e w5 ⟨kd, hkd, rfl, hr5, hk5⟩
          have hs5 := hk5.size
          have HR5 := Lib.hid hr5
          have HK5 := Lib.hid hk5
          have hkd4 : kd = 0 ∨ kd = 1 ∨ kd = 2 ∨ kd = 3 := by omega
          clear hr5 hk5 CP hkd
          rcases hkd4 with rfl | rfl | rfl | rfl
          · have C1 := Lib.hid (one_new (q := (3000 + 4 * k + 1)) (HR5.out.alloc (.cells #[.int .i64 0, .int .i64 0, .int .i64 0] 26)) (by omega) [2, 1, 3, 0, 100] 5 5 3 rfl (by omega) (by omega) #[.int .i64 2, .int .i64 1, .int .i64 3, .int .i64 0, .int .i64 100] rfl (w5.heap.size + 1) (by simp))
            go_wp2_with fail
            refine C1.out.mono ?_
            rintro e w6 ⟨z, _, rfl, hr6, hk6⟩
            have hs6 := hk6.size
            simp at hs6
            have B6 : Blk w6 w5.heap.size 26 #[.int .i64 0, .int .i64 0, .int .i64 0] := (Blk.new w5 26 #[.int .i64 0, .int .i64 0, .int .i64 0]).kept hk6 (by omega)
            have B7 := B6.put 1 (.int .i64 z)
            have c0 := B6.cell 0
            have c1 := B6.cell 1
            have c2 := B6.cell 2
            have f1 := B6.frozen 1
            simp at c0 c1 c2
            have K6 : Kept (· = w.heap.size) wr w6 := (HK5.out.alloc _).trans hk6 fun _ _ e => e
            have HK9 : Hid (Kept (· = w.heap.size) wr (w6.setCell ⟨w5.heap.size, 1, none⟩ (.int .i64 z))) := Lib.hid (K6.setCell (p := ⟨w5.heap.size, 1, none⟩) (fun hh => by have : w5.heap.size < wr.heap.size := hh; omega) _)
            have hsz9 : wr.heap.size ≤ (w6.setCell ⟨w5.heap.size, 1, none⟩ (.int .i64 z)).heap.size := HK9.out.size
            have HR9 : Hid (RdAt (· < w.heap.size) (w6.setCell ⟨w5.heap.size, 1, none⟩ (.int .i64 z)) w.heap.size (3000 + 4 * (k + 1))) := Lib.hid ((hr6.mono (by omega)).kept ((Kept.refl (· = w5.heap.size) w6).setCell (p := ⟨w5.heap.size, 1, none⟩) (fun _ => rfl) _) fun j _ hj e => by omega)
            have HO9 := Lib.hid (own_keptD HRW.out HK9.out rfl)
            have hw9 : (w6.setCell ⟨w5.heap.size, 1, none⟩ (.int .i64 z)).heap.size = w6.heap.size := by simp [World.setCell]
            have HNS : Hid (NewsAt ((w6.setCell ⟨w5.heap.size, 1, none⟩ (.int .i64 z)).alloc (.cells #[.int .i64 0, .int .i64 z, .int .i64 0] 26)) (some ⟨w6.heap.size, 0, none⟩) 1 [.int .i64 0, .int .i64 z, .int .i64 0]) := Lib.hid (by have := (Blk.new (w6.setCell ⟨w5.heap.size, 1, none⟩ (.int .i64 z)) 26 #[.int .i64 0, .int .i64 z, .int .i64 0]).news 1; rw [hw9] at this; exact this)
            have HSZ9 := Lib.hid hw9
            clear hr6 hk6 B6 B7 K6 C1 hw9
            go_wp2_with (at_builtin; refine wpList_append_gen _ rfl (.tmp 90) (.tmp 92) 27 rfl (w.heap.size + 1) 26 i2 _ 3 24 Tryd.underlying27 hi2 hx0 hx1 hx2 rfl (by omega) _ k xs rfl (HO9.out.alloc _) (some ⟨w6.heap.size, 0, none⟩) 1 1 [.int .i64 0, .int .i64 z, .int .i64 0] rfl (by rfl) (HNS.out) (by simp [Value.oneCell']) (by unfold maxLen; omega) (by omega) (by simp; omega) ?_)
            intro A9 c9 wz hap
            have HIn := Lib.hid (ds_next (w := w) (x := (0, z, 0)) HRW.out HOD.out HKW.out HK9.out HR9.out hsz9 ((Kept.refl (fun _ => False) _).alloc _) hap rfl rfl)
            clear hap
            go_wp2_with fail
            go_roundg (r - 1)
            case measure => omega
            case rel => exact ⟨r - 1, k + 1, A9, c9, by omega, by go_num, rfl, by omega, HIn.out⟩
          · have C1 := Lib.hid (one_new (q := (3000 + 4 * k + 1)) (HR5.out.alloc (.cells #[.int .i64 1, .int .i64 0, .int .i64 0] 26)) (by omega) [2, 1, 3, 0, 100] 5 5 3 rfl (by omega) (by omega) #[.int .i64 2, .int .i64 1, .int .i64 3, .int .i64 0, .int .i64 100] rfl (w5.heap.size + 1) (by simp))
            go_wp2_with fail
            refine C1.out.mono ?_
            rintro e w6 ⟨z, _, rfl, hr6, hk6⟩
            have hs6 := hk6.size
            simp at hs6
            have B6 : Blk w6 w5.heap.size 26 #[.int .i64 1, .int .i64 0, .int .i64 0] := (Blk.new w5 26 #[.int .i64 1, .int .i64 0, .int .i64 0]).kept hk6 (by omega)
            have HB7 : Hid (Blk (w6.setCell ⟨w5.heap.size, 1, none⟩ (.int .i64 z)) w5.heap.size 26 #[.int .i64 1, .int .i64 z, .int .i64 0]) := Lib.hid (by simpa using B6.put 1 (.int .i64 z))
            have c1 := B6.cell 1
            have f1 := B6.frozen 1
            simp at c1
            have K6 : Kept (· = w.heap.size) wr w6 := (HK5.out.alloc _).trans hk6 fun _ _ e => e
            have HK7 : Hid (Kept (· = w.heap.size) wr (w6.setCell ⟨w5.heap.size, 1, none⟩ (.int .i64 z))) := Lib.hid (K6.setCell (p := ⟨w5.heap.size, 1, none⟩) (fun hh => by have : w5.heap.size < wr.heap.size := hh; omega) _)
            have hw6 : (w6.setCell ⟨w5.heap.size, 1, none⟩ (.int .i64 z)).heap.size = w6.heap.size := by simp [World.setCell]
            have HR7 : Hid (RdAt (· < w.heap.size) (w6.setCell ⟨w5.heap.size, 1, none⟩ (.int .i64 z)) w.heap.size (3000 + 4 * k + 2)) := Lib.hid ((hr6.mono (by omega)).kept ((Kept.refl (· = w5.heap.size) w6).setCell (p := ⟨w5.heap.size, 1, none⟩) (fun _ => rfl) _) fun j _ hj e => by omega)
            have C2 := Lib.hid (one_new (q := 3000 + 4 * k + 2) HR7.out (by omega) [0, 1, 2, nn, (nn - 1), (nn + 1), 5] 7 7 3 rfl (by omega) (by omega) #[.int .i64 0, .int .i64 1, .int .i64 2, .int .i64 nn, .int .i64 (nn - 1), .int .i64 (nn + 1), .int .i64 5] rfl w6.heap.size (by rw [hw6]))
            have HW6 := Lib.hid hw6
            clear hr6 hk6 B6 K6 C1 hw6
            go_wp2_with fail
            refine C2.out.mono ?_
            rintro e w7 ⟨y, _, rfl, hr7, hk7⟩
            have hs7 : w6.heap.size ≤ w7.heap.size := by have := hk7.size; have := HW6.out; omega
            have B8 : Blk w7 w5.heap.size 26 #[.int .i64 1, .int .i64 z, .int .i64 0] := HB7.out.kept hk7 (by omega)
            have d0 := B8.cell 0
            have d1 := B8.cell 1
            have d2 := B8.cell 2
            have f2 := B8.frozen 2
            simp at d0 d1 d2
            have K7 : Kept (· = w.heap.size) wr w7 := HK7.out.trans hk7 fun _ _ e => e
            have HK9 : Hid (Kept (· = w.heap.size) wr (w7.setCell ⟨w5.heap.size, 2, none⟩ (.int .i64 y))) := Lib.hid (K7.setCell (p := ⟨w5.heap.size, 2, none⟩) (fun hh => by have : w5.heap.size < wr.heap.size := hh; omega) _)
            have hsz9 : wr.heap.size ≤ (w7.setCell ⟨w5.heap.size, 2, none⟩ (.int .i64 y)).heap.size := HK9.out.size
            have HR9 : Hid (RdAt (· < w.heap.size) (w7.setCell ⟨w5.heap.size, 2, none⟩ (.int .i64 y)) w.heap.size (3000 + 4 * (k + 1))) := Lib.hid ((hr7.mono (by omega)).kept ((Kept.refl (· = w5.heap.size) w7).setCell (p := ⟨w5.heap.size, 2, none⟩) (fun _ => rfl) _) fun j _ hj e => by omega)
            have HO9 := Lib.hid (own_keptD HRW.out HK9.out rfl)
            have hw9 : (w7.setCell ⟨w5.heap.size, 2, none⟩ (.int .i64 y)).heap.size = w7.heap.size := by simp [World.setCell]
            have HNS : Hid (NewsAt ((w7.setCell ⟨w5.heap.size, 2, none⟩ (.int .i64 y)).alloc (.cells #[.int .i64 1, .int .i64 z, .int .i64 y] 26)) (some ⟨w7.heap.size, 0, none⟩) 1 [.int .i64 1, .int .i64 z, .int .i64 y]) := Lib.hid (by have := (Blk.new (w7.setCell ⟨w5.heap.size, 2, none⟩ (.int .i64 y)) 26 #[.int .i64 1, .int .i64 z, .int .i64 y]).news 1; rw [hw9] at this; exact this)
            clear hr7 hk7 B8 K7 C2 hw9
            go_wp2_with (at_builtin; refine wpList_append_gen _ rfl (.tmp 90) (.tmp 92) 27 rfl (w.heap.size + 1) 26 i2 _ 3 24 Tryd.underlying27 hi2 hx0 hx1 hx2 rfl (by omega) _ k xs rfl (HO9.out.alloc _) (some ⟨w7.heap.size, 0, none⟩) 1 1 [.int .i64 1, .int .i64 z, .int .i64 y] rfl (by rfl) (HNS.out) (by simp [Value.oneCell']) (by unfold maxLen; omega) (by omega) (by simp; omega) ?_)
            intro A9 c9 wz hap
            have HIn := Lib.hid (ds_next (w := w) (x := (1, z, y)) HRW.out HOD.out HKW.out HK9.out HR9.out hsz9 ((Kept.refl (fun _ => False) _).alloc _) hap rfl rfl)
            clear hap
            go_wp2_with fail
            go_roundg (r - 1)
            case measure => omega
            case rel => exact ⟨r - 1, k + 1, A9, c9, by omega, by go_num, rfl, by omega, HIn.out⟩
          · have C1 := Lib.hid (one_new (q := (3000 + 4 * k + 1)) (HR5.out.alloc (.cells #[.int .i64 2, .int .i64 0, .int .i64 0] 26)) (by omega) [0, 1, (-1), 2, (-3), nn, 100] 7 7 3 rfl (by omega) (by omega) #[.int .i64 0, .int .i64 1, .int .i64 (-1), .int .i64 2, .int .i64 (-3), .int .i64 nn, .int .i64 100] rfl (w5.heap.size + 1) (by simp))
            go_wp2_with fail
            refine C1.out.mono ?_
            rintro e w6 ⟨z, _, rfl, hr6, hk6⟩
            have hs6 := hk6.size
            simp at hs6
            have B6 : Blk w6 w5.heap.size 26 #[.int .i64 2, .int .i64 0, .int .i64 0] := (Blk.new w5 26 #[.int .i64 2, .int .i64 0, .int .i64 0]).kept hk6 (by omega)
            have HB7 : Hid (Blk (w6.setCell ⟨w5.heap.size, 1, none⟩ (.int .i64 z)) w5.heap.size 26 #[.int .i64 2, .int .i64 z, .int .i64 0]) := Lib.hid (by simpa using B6.put 1 (.int .i64 z))
            have c1 := B6.cell 1
            have f1 := B6.frozen 1
            simp at c1
            have K6 : Kept (· = w.heap.size) wr w6 := (HK5.out.alloc _).trans hk6 fun _ _ e => e
            have HK7 : Hid (Kept (· = w.heap.size) wr (w6.setCell ⟨w5.heap.size, 1, none⟩ (.int .i64 z))) := Lib.hid (K6.setCell (p := ⟨w5.heap.size, 1, none⟩) (fun hh => by have : w5.heap.size < wr.heap.size := hh; omega) _)
            have hw6 : (w6.setCell ⟨w5.heap.size, 1, none⟩ (.int .i64 z)).heap.size = w6.heap.size := by simp [World.setCell]
            have HR7 : Hid (RdAt (· < w.heap.size) (w6.setCell ⟨w5.heap.size, 1, none⟩ (.int .i64 z)) w.heap.size (3000 + 4 * k + 2)) := Lib.hid ((hr6.mono (by omega)).kept ((Kept.refl (· = w5.heap.size) w6).setCell (p := ⟨w5.heap.size, 1, none⟩) (fun _ => rfl) _) fun j _ hj e => by omega)
            have C2 := Lib.hid (one_new (q := 3000 + 4 * k + 2) HR7.out (by omega) [0, 1, 2, 0, 1, 2, 3, (-1)] 8 8 3 rfl (by omega) (by omega) #[.int .i64 0, .int .i64 1, .int .i64 2, .int .i64 0, .int .i64 1, .int .i64 2, .int .i64 3, .int .i64 (-1)] rfl w6.heap.size (by rw [hw6]))
            have HW6 := Lib.hid hw6
            clear hr6 hk6 B6 K6 C1 hw6
            go_wp2_with fail
            refine C2.out.mono ?_
            rintro e w7 ⟨y, _, rfl, hr7, hk7⟩
            have hs7 : w6.heap.size ≤ w7.heap.size := by have := hk7.size; have := HW6.out; omega
            have B8 : Blk w7 w5.heap.size 26 #[.int .i64 2, .int .i64 z, .int .i64 0] := HB7.out.kept hk7 (by omega)
            have d0 := B8.cell 0
            have d1 := B8.cell 1
            have d2 := B8.cell 2
            have f2 := B8.frozen 2
            simp at d0 d1 d2
            have K7 : Kept (· = w.heap.size) wr w7 := HK7.out.trans hk7 fun _ _ e => e
            have HK9 : Hid (Kept (· = w.heap.size) wr (w7.setCell ⟨w5.heap.size, 2, none⟩ (.int .i64 y))) := Lib.hid (K7.setCell (p := ⟨w5.heap.size, 2, none⟩) (fun hh => by have : w5.heap.size < wr.heap.size := hh; omega) _)
            have hsz9 : wr.heap.size ≤ (w7.setCell ⟨w5.heap.size, 2, none⟩ (.int .i64 y)).heap.size := HK9.out.size
            have HR9 : Hid (RdAt (· < w.heap.size) (w7.setCell ⟨w5.heap.size, 2, none⟩ (.int .i64 y)) w.heap.size (3000 + 4 * (k + 1))) := Lib.hid ((hr7.mono (by omega)).kept ((Kept.refl (· = w5.heap.size) w7).setCell (p := ⟨w5.heap.size, 2, none⟩) (fun _ => rfl) _) fun j _ hj e => by omega)
            have HO9 := Lib.hid (own_keptD HRW.out HK9.out rfl)
            have hw9 : (w7.setCell ⟨w5.heap.size, 2, none⟩ (.int .i64 y)).heap.size = w7.heap.size := by simp [World.setCell]
            have HNS : Hid (NewsAt ((w7.setCell ⟨w5.heap.size, 2, none⟩ (.int .i64 y)).alloc (.cells #[.int .i64 2, .int .i64 z, .int .i64 y] 26)) (some ⟨w7.heap.size, 0, none⟩) 1 [.int .i64 2, .int .i64 z, .int .i64 y]) := Lib.hid (by have := (Blk.new (w7.setCell ⟨w5.heap.size, 2, none⟩ (.int .i64 y)) 26 #[.int .i64 2, .int .i64 z, .int .i64 y]).news 1; rw [hw9] at this; exact this)
            clear hr7 hk7 B8 K7 C2 hw9
            go_wp2_with (at_builtin; refine wpList_append_gen _ rfl (.tmp 90) (.tmp 92) 27 rfl (w.heap.size + 1) 26 i2 _ 3 24 Tryd.underlying27 hi2 hx0 hx1 hx2 rfl (by omega) _ k xs rfl (HO9.out.alloc _) (some ⟨w7.heap.size, 0, none⟩) 1 1 [.int .i64 2, .int .i64 z, .int .i64 y] rfl (by rfl) (HNS.out) (by simp [Value.oneCell']) (by unfold maxLen; omega) (by omega) (by simp; omega) ?_)
            intro A9 c9 wz hap
            have HIn := Lib.hid (ds_next (w := w) (x := (2, z, y)) HRW.out HOD.out HKW.out HK9.out HR9.out hsz9 ((Kept.refl (fun _ => False) _).alloc _) hap rfl rfl)
            clear hap
            go_wp2_with fail
            go_roundg (r - 1)
            case measure => omega
            case rel => exact ⟨r - 1, k + 1, A9, c9, by omega, by go_num, rfl, by omega, HIn.out⟩
          · have HK9 : Hid (Kept (· = w.heap.size) wr (w5.alloc (.cells #[.int .i64 3, .int .i64 0, .int .i64 0] 26))) := Lib.hid (HK5.out.alloc _)
            have hsz9 : wr.heap.size ≤ (w5.alloc (.cells #[.int .i64 3, .int .i64 0, .int .i64 0] 26)).heap.size := HK9.out.size
            have HR9 : Hid (RdAt (· < w.heap.size) (w5.alloc (.cells #[.int .i64 3, .int .i64 0, .int .i64 0] 26)) w.heap.size (3000 + 4 * (k + 1))) := Lib.hid ((HR5.out.alloc _).mono (by omega))
            have HO9 := Lib.hid (own_keptD HRW.out HK9.out rfl)
            have HNS : Hid (NewsAt ((w5.alloc (.cells #[.int .i64 3, .int .i64 0, .int .i64 0] 26)).alloc (.cells #[.int .i64 3, .int .i64 0, .int .i64 0] 26)) (some ⟨w5.heap.size + 1, 0, none⟩) 1 [.int .i64 3, .int .i64 0, .int .i64 0]) := Lib.hid (by have := (Blk.new (w5.alloc (.cells #[.int .i64 3, .int .i64 0, .int .i64 0] 26)) 26 #[.int .i64 3, .int .i64 0, .int .i64 0]).news 1; simpa using this)
            go_wp2_with (at_builtin; refine wpList_append_gen _ rfl (.tmp 90) (.tmp 92) 27 rfl (w.heap.size + 1) 26 i2 _ 3 24 Tryd.underlying27 hi2 hx0 hx1 hx2 rfl (by omega) _ k xs rfl (HO9.out.alloc _) (some ⟨w5.heap.size + 1, 0, none⟩) 1 1 [.int .i64 3, .int .i64 0, .int .i64 0] rfl (by rfl) (HNS.out) (by simp [Value.oneCell']) (by unfold maxLen; omega) (by omega) (by simp; omega) ?_)
            intro A9 c9 wz hap
            have HIn := Lib.hid (ds_next (w := w) (x := (3, 0, 0)) HRW.out HOD.out HKW.out HK9.out HR9.out hsz9 ((Kept.refl (fun _ => False) _).alloc _) hap rfl rfl)
            clear hap
            go_wp2_with fail
            go_roundg (r - 1)
            case measure => omega
            case rel => exact ⟨r - 1, k + 1, A9, c9, by omega, by go_num, rfl, by omega, HIn.out⟩
        · have hr0' : ¬ (0 : Int) < (r : Int) := by omega
          clear CP
          go_wp2_with fail
          refine bodyPost_ret (v := .tuple #[.slice Ad dl cd, .int .i64 (off : Int), .int .i64 nn, .slice A' k c']) ?_ rfl ?_
          · simp [results, Tryd.results11, go_sem]
          · exact ds_done HRW.out HOD.out HKW.out hdl hol hnn0 hnn1 (by omega) rfl
    · have hqb : ((p24 : Int) == 0) = false := by simp; omega
      have CK := Lib.hid (one_new (q := 0 + 702 + 702 + 1 + 1 + 1 + 1) ((HR3.out.alloc (.cells #[] 26))) (by omega) [4, 3, 6, 2, 0, 10] 6 6 3 rfl (by omega) (by omega) #[.int .i64 4, .int .i64 3, .int .i64 6, .int .i64 2, .int .i64 0, .int .i64 10] rfl (w8.heap.size + 1) (by simp))
      obtain ⟨nn, hnn⟩ : ∃ nn : Int, (mm : Int) = nn := ⟨_, rfl⟩
      have hnn0 : 0 ≤ nn := by omega
      have hnn1 : nn ≤ 1402 := by omega
      go_wp2_with fail
      clear hnn
      refine CK.out.mono ?_
      rintro e w4 ⟨z0, hz0', rfl, hr4, hk4⟩
      obtain ⟨m, rfl, hm⟩ : ∃ m : Nat, z0 = (m : Int) ∧ m ≤ 10 := by
        simp at hz0'
        rcases hz0' with rfl | rfl | rfl | rfl | rfl | rfl
        · exact ⟨4, rfl, by omega⟩
        · exact ⟨3, rfl, by omega⟩
        · exact ⟨6, rfl, by omega⟩
        · exact ⟨2, rfl, by omega⟩
        · exact ⟨0, rfl, by omega⟩
        · exact ⟨10, rfl, by omega⟩
      have HI0 : Hid (DSInv w w.heap.size Ad dl cd data 0 (some ⟨w8.heap.size, 0, none⟩) 0 w4) := Lib.hid ⟨[], [], (ElRow.empty 26 w8 (w.heap.size + 1) _ (by omega) (fun hX => by have := (own_block_lt HOD3.out hX).2; omega)).kept mvP hk4 (fun j hj _ _ e => by omega), own_kept (HOD3.out.alloc _) hk4 (fun g hg _ e => by omega), hr4.mono (by omega), (HK3.out.alloc _).trans hk4 fun _ _ e => e⟩
      clear hz0' hr4 hk4 CK HK3 HOD3 HR3
      go_wp2_with fail
      go_loopg [10, 11] m (fun f v i wr => ∃ (r k : Nat) (A' : Option Addr) (c' : Nat), r = f ∧ i = .int .i64 r ∧ v = .slice A' k c' ∧ k + r ≤ 10 ∧ DSInv w w.heap.size Ad dl cd data k A' c' wr)
      case atStart => exact ⟨m, 0, _, 0, rfl, rfl, rfl, by omega, HI0.out⟩
      case round =>
        obtain ⟨r, k, A', c', rfl, rfl, rfl, hkr, ops, xs, hrow, hod, hrd, hkw⟩ := hrel
        have hszr := hkw.size
        have hrlt := hrd.lt
        have CP := Lib.hid (pick_any hrd (by omega) 4 (by omega) (by omega))
        have HRW := Lib.hid hrow
        have HOD := Lib.hid hod
        have HRD := Lib.hid hrd
        have HKW := Lib.hid hkw
        clear hrow hod hrd hkw
        by_cases hr0 : 0 < r
        · have hr0' : (0 : Int) < (r : Int) := by omega
          go_wp2_with fail
          refine CP.out.mono ?_
          rintro e w5 ⟨kd, hkd, rfl, hr5, hk5⟩
          have hs5 := hk5.size
          have HR5 := Lib.hid hr5
          have HK5 := Lib.hid hk5
          have hkd4 : kd = 0 ∨ kd = 1 ∨ kd = 2 ∨ kd = 3 := by omega
          clear hr5 hk5 CP hkd
          rcases hkd4 with rfl | rfl | rfl | rfl
          · have C1 := Lib.hid (one_new (q := (3000 + 4 * k + 1)) (HR5.out.alloc (.cells #[.int .i64 0, .int .i64 0, .int .i64 0] 26)) (by omega) [2, 1, 3, 0, 100] 5 5 3 rfl (by omega) (by omega) #[.int .i64 2, .int .i64 1, .int .i64 3, .int .i64 0, .int .i64 100] rfl (w5.heap.size + 1) (by simp))
            go_wp2_with fail
            refine C1.out.mono ?_
            rintro e w6 ⟨z, _, rfl, hr6, hk6⟩
            have hs6 := hk6.size
            simp at hs6
            have B6 : Blk w6 w5.heap.size 26 #[.int .i64 0, .int .i64 0, .int .i64 0] := (Blk.new w5 26 #[.int .i64 0, .int .i64 0, .int .i64 0]).kept hk6 (by omega)
            have B7 := B6.put 1 (.int .i64 z)
            have c0 := B6.cell 0
            have c1 := B6.cell 1
            have c2 := B6.cell 2
            have f1 := B6.frozen 1
            simp at c0 c1 c2
            have K6 : Kept (· = w.heap.size) wr w6 := (HK5.out.alloc _).trans hk6 fun _ _ e => e
            have HK9 : Hid (Kept (· = w.heap.size) wr (w6.setCell ⟨w5.heap.size, 1, none⟩ (.int .i64 z))) := Lib.hid (K6.setCell (p := ⟨w5.heap.size, 1, none⟩) (fun hh => by have : w5.heap.size < wr.heap.size := hh; omega) _)
            have hsz9 : wr.heap.size ≤ (w6.setCell ⟨w5.heap.size, 1, none⟩ (.int .i64 z)).heap.size := HK9.out.size
            have HR9 : Hid (RdAt (· < w.heap.size) (w6.setCell ⟨w5.heap.size, 1, none⟩ (.int .i64 z)) w.heap.size (3000 + 4 * (k + 1))) := Lib.hid ((hr6.mono (by omega)).kept ((Kept.refl (· = w5.heap.size) w6).setCell (p := ⟨w5.heap.size, 1, none⟩) (fun _ => rfl) _) fun j _ hj e => by omega)
            have HO9 := Lib.hid (own_keptD HRW.out HK9.out rfl)
            have hw9 : (w6.setCell ⟨w5.heap.size, 1, none⟩ (.int .i64 z)).heap.size = w6.heap.size := by simp [World.setCell]
            have HNS : Hid (NewsAt ((w6.setCell ⟨w5.heap.size, 1, none⟩ (.int .i64 z)).alloc (.cells #[.int .i64 0, .int .i64 z, .int .i64 0] 26)) (some ⟨w6.heap.size, 0, none⟩) 1 [.int .i64 0, .int .i64 z, .int .i64 0]) := Lib.hid (by have := (Blk.new (w6.setCell ⟨w5.heap.size, 1, none⟩ (.int .i64 z)) 26 #[.int .i64 0, .int .i64 z, .int .i64 0]).news 1; rw [hw9] at this; exact this)
            have HSZ9 := Lib.hid hw9
            clear hr6 hk6 B6 B7 K6 C1 hw9
            go_wp2_with (at_builtin; refine wpList_append_gen _ rfl (.tmp 90) (.tmp 92) 27 rfl (w.heap.size + 1) 26 i2 _ 3 24 Tryd.underlying27 hi2 hx0 hx1 hx2 rfl (by omega) _ k xs rfl (HO9.out.alloc _) (some ⟨w6.heap.size, 0, none⟩) 1 1 [.int .i64 0, .int .i64 z, .int .i64 0] rfl (by rfl) (HNS.out) (by simp [Value.oneCell']) (by unfold maxLen; omega) (by omega) (by simp; omega) ?_)
            intro A9 c9 wz hap
            have HIn := Lib.hid (ds_next (w := w) (x := (0, z, 0)) HRW.out HOD.out HKW.out HK9.out HR9.out hsz9 ((Kept.refl (fun _ => False) _).alloc _) hap rfl rfl)
            clear hap
            go_wp2_with fail
            go_roundg (r - 1)
            case measure => omega
            case rel => exact ⟨r - 1, k + 1, A9, c9, by omega, by go_num, rfl, by omega, HIn.out⟩
          · have C1 := Lib.hid (one_new (q := (3000 + 4 * k + 1)) (HR5.out.alloc (.cells #[.int .i64 1, .int .i64 0, .int .i64 0] 26)) (by omega) [2, 1, 3, 0, 100] 5 5 3 rfl (by omega) (by omega) #[.int .i64 2, .int .i64 1, .int .i64 3, .int .i64 0, .int .i64 100] rfl (w5.heap.size + 1) (by simp))
            go_wp2_with fail
            refine C1.out.mono ?_
            rintro e w6 ⟨z, _, rfl, hr6, hk6⟩
            have hs6 := hk6.size
            simp at hs6
            have B6 : Blk w6 w5.heap.size 26 #[.int .i64 1, .int .i64 0, .int .i64 0] := (Blk.new w5 26 #[.int .i64 1, .int .i64 0, .int .i64 0]).kept hk6 (by omega)
            have HB7 : Hid (Blk (w6.setCell ⟨w5.heap.size, 1, none⟩ (.int .i64 z)) w5.heap.size 26 #[.int .i64 1, .int .i64 z, .int .i64 0]) := Lib.hid (by simpa using B6.put 1 (.int .i64 z))
            have c1 := B6.cell 1
            have f1 := B6.frozen 1
            simp at c1
            have K6 : Kept (· = w.heap.size) wr w6 := (HK5.out.alloc _).trans hk6 fun _ _ e => e
            have HK7 : Hid (Kept (· = w.heap.size) wr (w6.setCell ⟨w5.heap.size, 1, none⟩ (.int .i64 z))) := Lib.hid (K6.setCell (p := ⟨w5.heap.size, 1, none⟩) (fun hh => by have : w5.heap.size < wr.heap.size := hh; omega) _)
            have hw6 : (w6.setCell ⟨w5.heap.size, 1, none⟩ (.int .i64 z)).heap.size = w6.heap.size := by simp [World.setCell]
            have HR7 : Hid (RdAt (· < w.heap.size) (w6.setCell ⟨w5.heap.size, 1, none⟩ (.int .i64 z)) w.heap.size (3000 + 4 * k + 2)) := Lib.hid ((hr6.mono (by omega)).kept ((Kept.refl (· = w5.heap.size) w6).setCell (p := ⟨w5.heap.size, 1, none⟩) (fun _ => rfl) _) fun j _ hj e => by omega)
            have C2 := Lib.hid (one_new (q := 3000 + 4 * k + 2) HR7.out (by omega) [0, 1, 2, nn, (nn - 1), (nn + 1), 5] 7 7 3 rfl (by omega) (by omega) #[.int .i64 0, .int .i64 1, .int .i64 2, .int .i64 nn, .int .i64 (nn - 1), .int .i64 (nn + 1), .int .i64 5] rfl w6.heap.size (by rw [hw6]))
            have HW6 := Lib.hid hw6
            clear hr6 hk6 B6 K6 C1 hw6
            go_wp2_with fail
            refine C2.out.mono ?_
            rintro e w7 ⟨y, _, rfl, hr7, hk7⟩
            have hs7 : w6.heap.size ≤ w7.heap.size := by have := hk7.size; have := HW6.out; omega
            have B8 : Blk w7 w5.heap.size 26 #[.int .i64 1, .int .i64 z, .int .i64 0] := HB7.out.kept hk7 (by omega)
            have d0 := B8.cell 0
            have d1 := B8.cell 1
            have d2 := B8.cell 2
            have f2 := B8.frozen 2
            simp at d0 d1 d2
            have K7 : Kept (· = w.heap.size) wr w7 := HK7.out.trans hk7 fun _ _ e => e
            have HK9 : Hid (Kept (· = w.heap.size) wr (w7.setCell ⟨w5.heap.size, 2, none⟩ (.int .i64 y))) := Lib.hid (K7.setCell (p := ⟨w5.heap.size, 2, none⟩) (fun hh => by have : w5.heap.size < wr.heap.size := hh; omega) _)
            have hsz9 : wr.heap.size ≤ (w7.setCell ⟨w5.heap.size, 2, none⟩ (.int .i64 y)).heap.size := HK9.out.size
            have HR9 : Hid (RdAt (· < w.heap.size) (w7.setCell ⟨w5.heap.size, 2, none⟩ (.int .i64 y)) w.heap.size (3000 + 4 * (k + 1))) := Lib.hid ((hr7.mono (by omega)).kept ((Kept.refl (· = w5.heap.size) w7).setCell (p := ⟨w5.heap.size, 2, none⟩) (fun _ => rfl) _) fun j _ hj e => by omega)
            have HO9 := Lib.hid (own_keptD HRW.out HK9.out rfl)
            have hw9 : (w7.setCell ⟨w5.heap.size, 2, none⟩ (.int .i64 y)).heap.size = w7.heap.size := by simp [World.setCell]
            have HNS : Hid (NewsAt ((w7.setCell ⟨w5.heap.size, 2, none⟩ (.int .i64 y)).alloc (.cells #[.int .i64 1, .int .i64 z, .int .i64 y] 26)) (some ⟨w7.heap.size, 0, none⟩) 1 [.int .i64 1, .int .i64 z, .int .i64 y]) := Lib.hid (by have := (Blk.new (w7.setCell ⟨w5.heap.size, 2, none⟩ (.int .i64 y)) 26 #[.int .i64 1, .int .i64 z, .int .i64 y]).news 1; rw [hw9] at this; exact this)
            clear hr7 hk7 B8 K7 C2 hw9
            go_wp2_with (at_builtin; refine wpList_append_gen _ rfl (.tmp 90) (.tmp 92) 27 rfl (w.heap.size + 1) 26 i2 _ 3 24 Tryd.underlying27 hi2 hx0 hx1 hx2 rfl (by omega) _ k xs rfl (HO9.out.alloc _) (some ⟨w7.heap.size, 0, none⟩) 1 1 [.int .i64 1, .int .i64 z, .int .i64 y] rfl (by rfl) (HNS.out) (by simp [Value.oneCell']) (by unfold maxLen; omega) (by omega) (by simp; omega) ?_)
            intro A9 c9 wz hap
            have HIn := Lib.hid (ds_next (w := w) (x := (1, z, y)) HRW.out HOD.out HKW.out HK9.out HR9.out hsz9 ((Kept.refl (fun _ => False) _).alloc _) hap rfl rfl)
            clear hap
            go_wp2_with fail
            go_roundg (r - 1)
            case measure => omega
            case rel => exact ⟨r - 1, k + 1, A9, c9, by omega, by go_num, rfl, by omega, HIn.out⟩
          · have C1 := Lib.hid (one_new (q := (3000 + 4 * k + 1)) (HR5.out.alloc (.cells #[.int .i64 2, .int .i64 0, .int .i64 0] 26)) (by omega) [0, 1, (-1), 2, (-3), nn, 100] 7 7 3 rfl (by omega) (by omega) #[.int .i64 0, .int .i64 1, .int .i64 (-1), .int .i64 2, .int .i64 (-3), .int .i64 nn, .int .i64 100] rfl (w5.heap.size + 1) (by simp))
            go_wp2_with fail
            refine C1.out.mono ?_
            rintro e w6 ⟨z, _, rfl, hr6, hk6⟩
            have hs6 := hk6.size
            simp at hs6
            have B6 : Blk w6 w5.heap.size 26 #[.int .i64 2, .int .i64 0, .int .i64 0] := (Blk.new w5 26 #[.int .i64 2, .int .i64 0, .int .i64 0]).kept hk6 (by omega)
            have HB7 : Hid (Blk (w6.setCell ⟨w5.heap.size, 1, none⟩ (.int .i64 z)) w5.heap.size 26 #[.int .i64 2, .int .i64 z, .int .i64 0]) := Lib.hid (by simpa using B6.put 1 (.int .i64 z))
            have c1 := B6.cell 1
            have f1 := B6.frozen 1
            simp at c1
            have K6 : Kept (· = w.heap.size) wr w6 := (HK5.out.alloc _).trans hk6 fun _ _ e => e
            have HK7 : Hid (Kept (· = w.heap.size) wr (w6.setCell ⟨w5.heap.size, 1, none⟩ (.int .i64 z))) := Lib.hid (K6.setCell (p := ⟨w5.heap.size, 1, none⟩) (fun hh => by have : w5.heap.size < wr.heap.size := hh; omega) _)
            have hw6 : (w6.setCell ⟨w5.heap.size, 1, none⟩ (.int .i64 z)).heap.size = w6.heap.size := by simp [World.setCell]
            have HR7 : Hid (RdAt (· < w.heap.size) (w6.setCell ⟨w5.heap.size, 1, none⟩ (.int .i64 z)) w.heap.size (3000 + 4 * k + 2)) := Lib.hid ((hr6.mono (by omega)).kept ((Kept.refl (· = w5.heap.size) w6).setCell (p := ⟨w5.heap.size, 1, none⟩) (fun _ => rfl) _) fun j _ hj e => by omega)
            have C2 := Lib.hid (one_new (q := 3000 + 4 * k + 2) HR7.out (by omega) [0, 1, 2, 0, 1, 2, 3, (-1)] 8 8 3 rfl (by omega) (by omega) #[.int .i64 0, .int .i64 1, .int .i64 2, .int .i64 0, .int .i64 1, .int .i64 2, .int .i64 3, .int .i64 (-1)] rfl w6.heap.size (by rw [hw6]))
            have HW6 := Lib.hid hw6
            clear hr6 hk6 B6 K6 C1 hw6
            go_wp2_with fail
            refine C2.out.mono ?_
            rintro e w7 ⟨y, _, rfl, hr7, hk7⟩
            have hs7 : w6.heap.size ≤ w7.heap.size := by have := hk7.size; have := HW6.out; omega
            have B8 : Blk w7 w5.heap.size 26 #[.int .i64 2, .int .i64 z, .int .i64 0] := HB7.out.kept hk7 (by omega)
            have d0 := B8.cell 0
            have d1 := B8.cell 1
            have d2 := B8.cell 2
            have f2 := B8.frozen 2
            simp at d0 d1 d2
            have K7 : Kept (· = w.heap.size) wr w7 := HK7.out.trans hk7 fun _ _ e => e
            have HK9 : Hid (Kept (· = w.heap.size) wr (w7.setCell ⟨w5.heap.size, 2, none⟩ (.int .i64 y))) := Lib.hid (K7.setCell (p := ⟨w5.heap.size, 2, none⟩) (fun hh => by have : w5.heap.size < wr.heap.size := hh; omega) _)
            have hsz9 : wr.heap.size ≤ (w7.setCell ⟨w5.heap.size, 2, none⟩ (.int .i64 y)).heap.size := HK9.out.size
            have HR9 : Hid (RdAt (· < w.heap.size) (w7.setCell ⟨w5.heap.size, 2, none⟩ (.int .i64 y)) w.heap.size (3000 + 4 * (k + 1))) := Lib.hid ((hr7.mono (by omega)).kept ((Kept.refl (· = w5.heap.size) w7).setCell (p := ⟨w5.heap.size, 2, none⟩) (fun _ => rfl) _) fun j _ hj e => by omega)
            have HO9 := Lib.hid (own_keptD HRW.out HK9.out rfl)
            have hw9 : (w7.setCell ⟨w5.heap.size, 2, none⟩ (.int .i64 y)).heap.size = w7.heap.size := by simp [World.setCell]
            have HNS : Hid (NewsAt ((w7.setCell ⟨w5.heap.size, 2, none⟩ (.int .i64 y)).alloc (.cells #[.int .i64 2, .int .i64 z, .int .i64 y] 26)) (some ⟨w7.heap.size, 0, none⟩) 1 [.int .i64 2, .int .i64 z, .int .i64 y]) := Lib.hid (by have := (Blk.new (w7.setCell ⟨w5.heap.size, 2, none⟩ (.int .i64 y)) 26 #[.int .i64 2, .int .i64 z, .int .i64 y]).news 1; rw [hw9] at this; exact this)
            clear hr7 hk7 B8 K7 C2 hw9
            go_wp2_with (at_builtin; refine wpList_append_gen _ rfl (.tmp 90) (.tmp 92) 27 rfl (w.heap.size + 1) 26 i2 _ 3 24 Tryd.underlying27 hi2 hx0 hx1 hx2 rfl (by omega) _ k xs rfl (HO9.out.alloc _) (some ⟨w7.heap.size, 0, none⟩) 1 1 [.int .i64 2, .int .i64 z, .int .i64 y] rfl (by rfl) (HNS.out) (by simp [Value.oneCell']) (by unfold maxLen; omega) (by omega) (by simp; omega) ?_)
            intro A9 c9 wz hap
            have HIn := Lib.hid (ds_next (w := w) (x := (2, z, y)) HRW.out HOD.out HKW.out HK9.out HR9.out hsz9 ((Kept.refl (fun _ => False) _).alloc _) hap rfl rfl)
            clear hap
            go_wp2_with fail
            go_roundg (r - 1)
            case measure => omega
            case rel => exact ⟨r - 1, k + 1, A9, c9, by omega, by go_num, rfl, by omega, HIn.out⟩
          · have HK9 : Hid (Kept (· = w.heap.size) wr (w5.alloc (.cells #[.int .i64 3, .int .i64 0, .int .i64 0] 26))) := Lib.hid (HK5.out.alloc _)
            have hsz9 : wr.heap.size ≤ (w5.alloc (.cells #[.int .i64 3, .int .i64 0, .int .i64 0] 26)).heap.size := HK9.out.size
            have HR9 : Hid (RdAt (· < w.heap.size) (w5.alloc (.cells #[.int .i64 3, .int .i64 0, .int .i64 0] 26)) w.heap.size (3000 + 4 * (k + 1))) := Lib.hid ((HR5.out.alloc _).mono (by omega))
            have HO9 := Lib.hid (own_keptD HRW.out HK9.out rfl)
            have HNS : Hid (NewsAt ((w5.alloc (.cells #[.int .i64 3, .int .i64 0, .int .i64 0] 26)).alloc (.cells #[.int .i64 3, .int .i64 0, .int .i64 0] 26)) (some ⟨w5.heap.size + 1, 0, none⟩) 1 [.int .i64 3, .int .i64 0, .int .i64 0]) := Lib.hid (by have := (Blk.new (w5.alloc (.cells #[.int .i64 3, .int .i64 0, .int .i64 0] 26)) 26 #[.int .i64 3, .int .i64 0, .int .i64 0]).news 1; simpa using this)
            go_wp2_with (at_builtin; refine wpList_append_gen _ rfl (.tmp 90) (.tmp 92) 27 rfl (w.heap.size + 1) 26 i2 _ 3 24 Tryd.underlying27 hi2 hx0 hx1 hx2 rfl (by omega) _ k xs rfl (HO9.out.alloc _) (some ⟨w5.heap.size + 1, 0, none⟩) 1 1 [.int .i64 3, .int .i64 0, .int .i64 0] rfl (by rfl) (HNS.out) (by simp [Value.oneCell']) (by unfold maxLen; omega) (by omega) (by simp; omega) ?_)
            intro A9 c9 wz hap
            have HIn := Lib.hid (ds_next (w := w) (x := (3, 0, 0)) HRW.out HOD.out HKW.out HK9.out HR9.out hsz9 ((Kept.refl (fun _ => False) _).alloc _) hap rfl rfl)
            clear hap
            go_wp2_with fail
            go_roundg (r - 1)
            case measure => omega
            case rel => exact ⟨r - 1, k + 1, A9, c9, by omega, by go_num, rfl, by omega, HIn.out⟩
        · have hr0' : ¬ (0 : Int) < (r : Int) := by omega
          clear CP
          go_wp2_with fail
          refine bodyPost_ret (v := .tuple #[.slice Ad dl cd, .int .i64 (off : Int), .int .i64 nn, .slice A' k c']) ?_ rfl ?_
          · simp [results, Tryd.results11, go_sem]
          · exact ds_done HRW.out HOD.out HKW.out hdl hol hnn0 hnn1 (by omega) rfl
  · have hpb : ((p3 : Int) == 0) = false := by simp; omega
    go_wp2_with fail
    refine C8.out.mono ?_
    rintro e w8 ⟨p24, hp24, rfl, hr8, hk8⟩
    have HR3 := Lib.hid hr8
    have HOD3 := Lib.hid (own_kept HOD7.out hk8 fun g hg _ e => by omega)
    have HK3 := Lib.hid (HK7.out.trans hk8 fun _ _ e => e)
    have hs13 : w.heap.size + 1 ≤ w8.heap.size := Nat.le_trans hs17 hk8.size
    clear hr8 hk8 C8 HOD7 HK7
    by_cases hq0 : p24 = 0
    · subst hq0
      have CK := Lib.hid (one_new (q := 0 + 702 + 702 + 1 + 1 + 1 + 1) ((HR3.out.alloc (.cells #[] 26))) (by omega) [4, 3, 6, 2, 0, 10] 6 6 3 rfl (by omega) (by omega) #[.int .i64 4, .int .i64 3, .int .i64 6, .int .i64 2, .int .i64 0, .int .i64 10] rfl (w8.heap.size + 1) (by simp))
      obtain ⟨nn, hnn⟩ : ∃ nn : Int, (n : Int) + 2 = nn := ⟨_, rfl⟩
      have hnn0 : 0 ≤ nn := by omega
      have hnn1 : nn ≤ 1402 := by omega
      go_wp2_with fail
      clear hnn
      refine CK.out.mono ?_
      rintro e w4 ⟨z0, hz0', rfl, hr4, hk4⟩
      obtain ⟨m, rfl, hm⟩ : ∃ m : Nat, z0 = (m : Int) ∧ m ≤ 10 := by
        simp at hz0'
        rcases hz0' with rfl | rfl | rfl | rfl | rfl | rfl
        · exact ⟨4, rfl, by omega⟩
        · exact ⟨3, rfl, by omega⟩
        · exact ⟨6, rfl, by omega⟩
        · exact ⟨2, rfl, by omega⟩
        · exact ⟨0, rfl, by omega⟩
        · exact ⟨10, rfl, by omega⟩
      have HI0 : Hid (DSInv w w.heap.size Ad dl cd data 0 (some ⟨w8.heap.size, 0, none⟩) 0 w4) := Lib.hid ⟨[], [], (ElRow.empty 26 w8 (w.heap.size + 1) _ (by omega) (fun hX => by have := (own_block_lt HOD3.out hX).2; omega)).kept mvP hk4 (fun j hj _ _ e => by omega), own_kept (HOD3.out.alloc _) hk4 (fun g hg _ e => by omega), hr4.mono (by omega), (HK3.out.alloc _).trans hk4 fun _ _ e => e⟩
      clear hz0' hr4 hk4 CK HK3 HOD3 HR3
      go_wp2_with fail
      go_loopg [10, 11] m (fun f v i wr => ∃ (r k : Nat) (A' : Option Addr) (c' : Nat), r = f ∧ i = .int .i64 r ∧ v = .slice A' k c' ∧ k + r ≤ 10 ∧ DSInv w w.heap.size Ad dl cd data k A' c' wr)
      case atStart => exact ⟨m, 0, _, 0, rfl, rfl, rfl, by omega, HI0.out⟩
      case round =>
        obtain ⟨r, k, A', c', rfl, rfl, rfl, hkr, ops, xs, hrow, hod, hrd, hkw⟩ := hrel
        have hszr := hkw.size
        have hrlt := hrd.lt
        have CP := Lib.hid (pick_any hrd (by omega) 4 (by omega) (by omega))
        have HRW := Lib.hid hrow
        have HOD := Lib.hid hod
        have HRD := Lib.hid hrd
        have HKW := Lib.hid hkw
        clear hrow hod hrd hkw
        by_cases hr0 : 0 < r
        · have hr0' : (0 : Int) < (r : Int) := by omega
          go_wp2_with fail
          refine CP.out.mono ?_
          rintro e w5 ⟨kd, hkd, rfl, hr5, hk5⟩
          have hs5 := hk5.size
          have HR5 := Lib.hid hr5
          have HK5 := Lib.hid hk5
          have hkd4 : kd = 0 ∨ kd = 1 ∨ kd = 2 ∨ kd = 3 := by omega
          clear hr5 hk5 CP hkd
          rcases hkd4 with rfl | rfl | rfl | rfl
          · have C1 := Lib.hid (one_new (q := (3000 + 4 * k + 1)) (HR5.out.alloc (.cells #[.int .i64 0, .int .i64 0, .int .i64 0] 26)) (by omega) [2, 1, 3, 0, 100] 5 5 3 rfl (by omega) (by omega) #[.int .i64 2, .int .i64 1, .int .i64 3, .int .i64 0, .int .i64 100] rfl (w5.heap.size + 1) (by simp))
            go_wp2_with fail
            refine C1.out.mono ?_
            rintro e w6 ⟨z, _, rfl, hr6, hk6⟩
            have hs6 := hk6.size
            simp at hs6
            have B6 : Blk w6 w5.heap.size 26 #[.int .i64 0, .int .i64 0, .int .i64 0] := (Blk.new w5 26 #[.int .i64 0, .int .i64 0, .int .i64 0]).kept hk6 (by omega)
            have B7 := B6.put 1 (.int .i64 z)
            have c0 := B6.cell 0
            have c1 := B6.cell 1
            have c2 := B6.cell 2
            have f1 := B6.frozen 1
            simp at c0 c1 c2
            have K6 : Kept (· = w.heap.size) wr w6 := (HK5.out.alloc _).trans hk6 fun _ _ e => e
            have HK9 : Hid (Kept (· = w.heap.size) wr (w6.setCell ⟨w5.heap.size, 1, none⟩ (.int .i64 z))) := Lib.hid (K6.setCell (p := ⟨w5.heap.size, 1, none⟩) (fun hh => by have : w5.heap.size < wr.heap.size := hh; omega) _)
            have hsz9 : wr.heap.size ≤ (w6.setCell ⟨w5.heap.size, 1, none⟩ (.int .i64 z)).heap.size := HK9.out.size
            have HR9 : Hid (RdAt (· < w.heap.size) (w6.setCell ⟨w5.heap.size, 1, none⟩ (.int .i64 z)) w.heap.size (3000 + 4 * (k + 1))) := Lib.hid ((hr6.mono (by omega)).kept ((Kept.refl (· = w5.heap.size) w6).setCell (p := ⟨w5.heap.size, 1, none⟩) (fun _ => rfl) _) fun j _ hj e => by omega)
            have HO9 := Lib.hid (own_keptD HRW.out HK9.out rfl)
            have hw9 : (w6.setCell ⟨w5.heap.size, 1, none⟩ (.int .i64 z)).heap.size = w6.heap.size := by simp [World.setCell]
            have HNS : Hid (NewsAt ((w6.setCell ⟨w5.heap.size, 1, none⟩ (.int .i64 z)).alloc (.cells #[.int .i64 0, .int .i64 z, .int .i64 0] 26)) (some ⟨w6.heap.size, 0, none⟩) 1 [.int .i64 0, .int .i64 z, .int .i64 0]) := Lib.hid (by have := (Blk.new (w6.setCell ⟨w5.heap.size, 1, none⟩ (.int .i64 z)) 26 #[.int .i64 0, .int .i64 z, .int .i64 0]).news 1; rw [hw9] at this; exact this)
            have HSZ9 := Lib.hid hw9
            clear hr6 hk6 B6 B7 K6 C1 hw9
            go_wp2_with (at_builtin; refine wpList_append_gen _ rfl (.tmp 90) (.tmp 92) 27 rfl (w.heap.size + 1) 26 i2 _ 3 24 Tryd.underlying27 hi2 hx0 hx1 hx2 rfl (by omega) _ k xs rfl (HO9.out.alloc _) (some ⟨w6.heap.size, 0, none⟩) 1 1 [.int .i64 0, .int .i64 z, .int .i64 0] rfl (by rfl) (HNS.out) (by simp [Value.oneCell']) (by unfold maxLen; omega) (by omega) (by simp; omega) ?_)
            intro A9 c9 wz hap
            have HIn := Lib.hid (ds_next (w := w) (x := (0, z, 0)) HRW.out HOD.out HKW.out HK9.out HR9.out hsz9 ((Kept.refl (fun _ => False) _).alloc _) hap rfl rfl)
            clear hap
            go_wp2_with fail
            go_roundg (r - 1)
            case measure => omega
            case rel => exact ⟨r - 1, k + 1, A9, c9, by omega, by go_num, rfl, by omega, HIn.out⟩
          · have C1 := Lib.hid (one_new (q := (3000 + 4 * k + 1)) (HR5.out.alloc (.cells #[.int .i64 1, .int .i64 0, .int .i64 0] 26)) (by omega) [2, 1, 3, 0, 100] 5 5 3 rfl (by omega) (by omega) #[.int .i64 2, .int .i64 1, .int .i64 3, .int .i64 0, .int .i64 100] rfl (w5.heap.size + 1) (by simp))
            go_wp2_with fail
            refine C1.out.mono ?_
            rintro e w6 ⟨z, _, rfl, hr6, hk6⟩
            have hs6 := hk6.size
            simp at hs6
            have B6 : Blk w6 w5.heap.size 26 #[.int .i64 1, .int .i64 0, .int .i64 0] := (Blk.new w5 26 #[.int .i64 1, .int .i64 0, .int .i64 0]).kept hk6 (by omega)
            have HB7 : Hid (Blk (w6.setCell ⟨w5.heap.size, 1, none⟩ (.int .i64 z)) w5.heap.size 26 #[.int .i64 1, .int .i64 z, .int .i64 0]) := Lib.hid (by simpa using B6.put 1 (.int .i64 z))
            have c1 := B6.cell 1
            have f1 := B6.frozen 1
            simp at c1
            have K6 : Kept (· = w.heap.size) wr w6 := (HK5.out.alloc _).trans hk6 fun _ _ e => e
            have HK7 : Hid (Kept (· = w.heap.size) wr (w6.setCell ⟨w5.heap.size, 1, none⟩ (.int .i64 z))) := Lib.hid (K6.setCell (p := ⟨w5.heap.size, 1, none⟩) (fun hh => by have : w5.heap.size < wr.heap.size := hh; omega) _)
            have hw6 : (w6.setCell ⟨w5.heap.size, 1, none⟩ (.int .i64 z)).heap.size = w6.heap.size := by simp [World.setCell]
            have HR7 : Hid (RdAt (· < w.heap.size) (w6.setCell ⟨w5.heap.size, 1, none⟩ (.int .i64 z)) w.heap.size (3000 + 4 * k + 2)) := Lib.hid ((hr6.mono (by omega)).kept ((Kept.refl (· = w5.heap.size) w6).setCell (p := ⟨w5.heap.size, 1, none⟩) (fun _ => rfl) _) fun j _ hj e => by omega)
            have C2 := Lib.hid (one_new (q := 3000 + 4 * k + 2) HR7.out (by omega) [0, 1, 2, nn, (nn - 1), (nn + 1), 5] 7 7 3 rfl (by omega) (by omega) #[.int .i64 0, .int .i64 1, .int .i64 2, .int .i64 nn, .int .i64 (nn - 1), .int .i64 (nn + 1), .int .i64 5] rfl w6.heap.size (by rw [hw6]))
            have HW6 := Lib.hid hw6
            clear hr6 hk6 B6 K6 C1 hw6
            go_wp2_with fail
            refine C2.out.mono ?_
            rintro e w7 ⟨y, _, rfl, hr7, hk7⟩
            have hs7 : w6.heap.size ≤ w7.heap.size := by have := hk7.size; have := HW6.out; omega
            have B8 : Blk w7 w5.heap.size 26 #[.int .i64 1, .int .i64 z, .int .i64 0] := HB7.out.kept hk7 (by omega)
            have d0 := B8.cell 0
            have d1 := B8.cell 1
            have d2 := B8.cell 2
            have f2 := B8.frozen 2
            simp at d0 d1 d2
            have K7 : Kept (· = w.heap.size) wr w7 := HK7.out.trans hk7 fun _ _ e => e
            have HK9 : Hid (Kept (· = w.heap.size) wr (w7.setCell ⟨w5.heap.size, 2, none⟩ (.int .i64 y))) := Lib.hid (K7.setCell (p := ⟨w5.heap.size, 2, none⟩) (fun hh => by have : w5.heap.size < wr.heap.size := hh; omega) _)
            have hsz9 : wr.heap.size ≤ (w7.setCell ⟨w5.heap.size, 2, none⟩ (.int .i64 y)).heap.size := HK9.out.size
            have HR9 : Hid (RdAt (· < w.heap.size) (w7.setCell ⟨w5.heap.size, 2, none⟩ (.int .i64 y)) w.heap.size (3000 + 4 * (k + 1))) := Lib.hid ((hr7.mono (by omega)).kept ((Kept.refl (· = w5.heap.size) w7).setCell (p := ⟨w5.heap.size, 2, none⟩) (fun _ => rfl) _) fun j _ hj e => by omega)
            have HO9 := Lib.hid (own_keptD HRW.out HK9.out rfl)
            have hw9 : (w7.setCell ⟨w5.heap.size, 2, none⟩ (.int .i64 y)).heap.size = w7.heap.size := by simp [World.setCell]
            have HNS : Hid (NewsAt ((w7.setCell ⟨w5.heap.size, 2, none⟩ (.int .i64 y)).alloc (.cells #[.int .i64 1, .int .i64 z, .int .i64 y] 26)) (some ⟨w7.heap.size, 0, none⟩) 1 [.int .i64 1, .int .i64 z, .int .i64 y]) := Lib.hid (by have := (Blk.new (w7.setCell ⟨w5.heap.size, 2, none⟩ (.int .i64 y)) 26 #[.int .i64 1, .int .i64 z, .int .i64 y]).news 1; rw [hw9] at this; exact this)
            clear hr7 hk7 B8 K7 C2 hw9
            go_wp2_with (at_builtin; refine wpList_append_gen _ rfl (.tmp 90) (.tmp 92) 27 rfl (w.heap.size + 1) 26 i2 _ 3 24 Tryd.underlying27 hi2 hx0 hx1 hx2 rfl (by omega) _ k xs rfl (HO9.out.alloc _) (some ⟨w7.heap.size, 0, none⟩) 1 1 [.int .i64 1, .int .i64 z, .int .i64 y] rfl (by rfl) (HNS.out) (by simp [Value.oneCell']) (by unfold maxLen; omega) (by omega) (by simp; omega) ?_)
            intro A9 c9 wz hap
            have HIn := Lib.hid (ds_next (w := w) (x := (1, z, y)) HRW.out HOD.out HKW.out HK9.out HR9.out hsz9 ((Kept.refl (fun _ => False) _).alloc _) hap rfl rfl)
            clear hap
            go_wp2_with fail
            go_roundg (r - 1)
            case measure => omega
            case rel => exact ⟨r - 1, k + 1, A9, c9, by omega, by go_num, rfl, by omega, HIn.out⟩
          · have C1 := Lib.hid (one_new (q := (3000 + 4 * k + 1)) (HR5.out.alloc (.cells #[.int .i64 2, .int .i64 0, .int .i64 0] 26)) (by omega) [0, 1, (-1), 2, (-3), nn, 100] 7 7 3 rfl (by omega) (by omega) #[.int .i64 0, .int .i64 1, .int .i64 (-1), .int .i64 2, .int .i64 (-3), .int .i64 nn, .int .i64 100] rfl (w5.heap.size + 1) (by simp))
            go_wp2_with fail
            refine C1.out.mono ?_
            rintro e w6 ⟨z, _, rfl, hr6, hk6⟩
            have hs6 := hk6.size
            simp at hs6
            have B6 : Blk w6 w5.heap.size 26 #[.int .i64 2, .int .i64 0, .int .i64 0] := (Blk.new w5 26 #[.int .i64 2, .int .i64 0, .int .i64 0]).kept hk6 (by omega)
            have HB7 : Hid (Blk (w6.setCell ⟨w5.heap.size, 1, none⟩ (.int .i64 z)) w5.heap.size 26 #[.int .i64 2, .int .i64 z, .int .i64 0]) := Lib.hid (by simpa using B6.put 1 (.int .i64 z))
            have c1 := B6.cell 1
            have f1 := B6.frozen 1
            simp at c1
            have K6 : Kept (· = w.heap.size) wr w6 := (HK5.out.alloc _).trans hk6 fun _ _ e => e
            have HK7 : Hid (Kept (· = w.heap.size) wr (w6.setCell ⟨w5.heap.size, 1, none⟩ (.int .i64 z))) := Lib.hid (K6.setCell (p := ⟨w5.heap.size, 1, none⟩) (fun hh => by have : w5.heap.size < wr.heap.size := hh; omega) _)
            have hw6 : (w6.setCell ⟨w5.heap.size, 1, none⟩ (.int .i64 z)).heap.size = w6.heap.size := by simp [World.setCell]
            have HR7 : Hid (RdAt (· < w.heap.size) (w6.setCell ⟨w5.heap.size, 1, none⟩ (.int .i64 z)) w.heap.size (3000 + 4 * k + 2)) := Lib.hid ((hr6.mono (by omega)).kept ((Kept.refl (· = w5.heap.size) w6).setCell (p := ⟨w5.heap.size, 1, none⟩) (fun _ => rfl) _) fun j _ hj e => by omega)
            have C2 := Lib.hid (one_new (q := 3000 + 4 * k + 2) HR7.out (by omega) [0, 1, 2, 0, 1, 2, 3, (-1)] 8 8 3 rfl (by omega) (by omega) #[.int .i64 0, .int .i64 1, .int .i64 2, .int .i64 0, .int .i64 1, .int .i64 2, .int .i64 3, .int .i64 (-1)] rfl w6.heap.size (by rw [hw6]))
            have HW6 := Lib.hid hw6
            clear hr6 hk6 B6 K6 C1 hw6
            go_wp2_with fail
            refine C2.out.mono ?_
            rintro e w7 ⟨y, _, rfl, hr7, hk7⟩
            have hs7 : w6.heap.size ≤ w7.heap.size := by have := hk7.size; have := HW6.out; omega
            have B8 : Blk w7 w5.heap.size 26 #[.int .i64 2, .int .i64 z, .int .i64 0] := HB7.out.kept hk7 (by omega)
            have d0 := B8.cell 0
            have d1 := B8.cell 1
            have d2 := B8.cell 2
            have f2 := B8.frozen 2
            simp at d0 d1 d2
            have K7 : Kept (· = w.heap.size) wr w7 := HK7.out.trans hk7 fun _ _ e => e
            have HK9 : Hid (Kept (· = w.heap.size) wr (w7.setCell ⟨w5.heap.size, 2, none⟩ (.int .i64 y))) := Lib.hid (K7.setCell (p := ⟨w5.heap.size, 2, none⟩) (fun hh => by have : w5.heap.size < wr.heap.size := hh; omega) _)
            have hsz9 : wr.heap.size ≤ (w7.setCell ⟨w5.heap.size, 2, none⟩ (.int .i64 y)).heap.size := HK9.out.size
            have HR9 : Hid (RdAt (· < w.heap.size) (w7.setCell ⟨w5.heap.size, 2, none⟩ (.int .i64 y)) w.heap.size (3000 + 4 * (k + 1))) := Lib.hid ((hr7.mono (by omega)).kept ((Kept.refl (· = w5.heap.size) w7).setCell (p := ⟨w5.heap.size, 2, none⟩) (fun _ => rfl) _) fun j _ hj e => by omega)
            have HO9 := Lib.hid (own_keptD HRW.out HK9.out rfl)
            have hw9 : (w7.setCell ⟨w5.heap.size, 2, none⟩ (.int .i64 y)).heap.size = w7.heap.size := by simp [World.setCell]
            have HNS : Hid (NewsAt ((w7.setCell ⟨w5.heap.size, 2, none⟩ (.int .i64 y)).alloc (.cells #[.int .i64 2, .int .i64 z, .int .i64 y] 26)) (some ⟨w7.heap.size, 0, none⟩) 1 [.int .i64 2, .int .i64 z, .int .i64 y]) := Lib.hid (by have := (Blk.new (w7.setCell ⟨w5.heap.size, 2, none⟩ (.int .i64 y)) 26 #[.int .i64 2, .int .i64 z, .int .i64 y]).news 1; rw [hw9] at this; exact this)
            clear hr7 hk7 B8 K7 C2 hw9
            go_wp2_with (at_builtin; refine wpList_append_gen _ rfl (.tmp 90) (.tmp 92) 27 rfl (w.heap.size + 1) 26 i2 _ 3 24 Tryd.underlying27 hi2 hx0 hx1 hx2 rfl (by omega) _ k xs rfl (HO9.out.alloc _) (some ⟨w7.heap.size, 0, none⟩) 1 1 [.int .i64 2, .int .i64 z, .int .i64 y] rfl (by rfl) (HNS.out) (by simp [Value.oneCell']) (by unfold maxLen; omega) (by omega) (by simp; omega) ?_)
            intro A9 c9 wz hap
            have HIn := Lib.hid (ds_next (w := w) (x := (2, z, y)) HRW.out HOD.out HKW.out HK9.out HR9.out hsz9 ((Kept.refl (fun _ => False) _).alloc _) hap rfl rfl)
            clear hap
            go_wp2_with fail
            go_roundg (r - 1)
            case measure => omega
            case rel => exact ⟨r - 1, k + 1, A9, c9, by omega, by go_num, rfl, by omega, HIn.out⟩
          · have HK9 : Hid (Kept (· = w.heap.size) wr (w5.alloc (.cells #[.int .i64 3, .int .i64 0, .int .i64 0] 26))) := Lib.hid (HK5.out.alloc _)
            have hsz9 : wr.heap.size ≤ (w5.alloc (.cells #[.int .i64 3, .int .i64 0, .int .i64 0] 26)).heap.size := HK9.out.size
            have HR9 : Hid (RdAt (· < w.heap.size) (w5.alloc (.cells #[.int .i64 3, .int .i64 0, .int .i64 0] 26)) w.heap.size (3000 + 4 * (k + 1))) := Lib.hid ((HR5.out.alloc _).mono (by omega))
            have HO9 := Lib.hid (own_keptD HRW.out HK9.out rfl)
            have HNS : Hid (NewsAt ((w5.alloc (.cells #[.int .i64 3, .int .i64 0, .int .i64 0] 26)).alloc (.cells #[.int .i64 3, .int .i64 0, .int .i64 0] 26)) (some ⟨w5.heap.size + 1, 0, none⟩) 1 [.int .i64 3, .int .i64 0, .int .i64 0]) := Lib.hid (by have := (Blk.new (w5.alloc (.cells #[.int .i64 3, .int .i64 0, .int .i64 0] 26)) 26 #[.int .i64 3, .int .i64 0, .int .i64 0]).news 1; simpa using this)
            go_wp2_with (at_builtin; refine wpList_append_gen _ rfl (.tmp 90) (.tmp 92) 27 rfl (w.heap.size + 1) 26 i2 _ 3 24 Tryd.underlying27 hi2 hx0 hx1 hx2 rfl (by omega) _ k xs rfl (HO9.out.alloc _) (some ⟨w5.heap.size + 1, 0, none⟩) 1 1 [.int .i64 3, .int .i64 0, .int .i64 0] rfl (by rfl) (HNS.out) (by simp [Value.oneCell']) (by unfold maxLen; omega) (by omega) (by simp; omega) ?_)
            intro A9 c9 wz hap
            have HIn := Lib.hid (ds_next (w := w) (x := (3, 0, 0)) HRW.out HOD.out HKW.out HK9.out HR9.out hsz9 ((Kept.refl (fun _ => False) _).alloc _) hap rfl rfl)
            clear hap
            go_wp2_with fail
            go_roundg (r - 1)
            case measure => omega
            case rel => exact ⟨r - 1, k + 1, A9, c9, by omega, by go_num, rfl, by omega, HIn.out⟩
        · have hr0' : ¬ (0 : Int) < (r : Int) := by omega
          clear CP
          go_wp2_with fail
          refine bodyPost_ret (v := .tuple #[.slice Ad dl cd, .int .i64 (off : Int), .int .i64 nn, .slice A' k c']) ?_ rfl ?_
          · simp [results, Tryd.results11, go_sem]
          · exact ds_done HRW.out HOD.out HKW.out hdl hol hnn0 hnn1 (by omega) rfl
    · have hqb : ((p24 : Int) == 0) = false := by simp; omega
      have CK := Lib.hid (one_new (q := 0 + 702 + 702 + 1 + 1 + 1 + 1) ((HR3.out.alloc (.cells #[] 26))) (by omega) [4, 3, 6, 2, 0, 10] 6 6 3 rfl (by omega) (by omega) #[.int .i64 4, .int .i64 3, .int .i64 6, .int .i64 2, .int .i64 0, .int .i64 10] rfl (w8.heap.size + 1) (by simp))
      obtain ⟨nn, hnn⟩ : ∃ nn : Int, (n : Int) = nn := ⟨_, rfl⟩
      have hnn0 : 0 ≤ nn := by omega
      have hnn1 : nn ≤ 1402 := by omega
      go_wp2_with fail
      clear hnn
      refine CK.out.mono ?_
      rintro e w4 ⟨z0, hz0', rfl, hr4, hk4⟩
      obtain ⟨m, rfl, hm⟩ : ∃ m : Nat, z0 = (m : Int) ∧ m ≤ 10 := by
        simp at hz0'
        rcases hz0' with rfl | rfl | rfl | rfl | rfl | rfl
        · exact ⟨4, rfl, by omega⟩
        · exact ⟨3, rfl, by omega⟩
        · exact ⟨6, rfl, by omega⟩
        · exact ⟨2, rfl, by omega⟩
        · exact ⟨0, rfl, by omega⟩
        · exact ⟨10, rfl, by omega⟩
      have HI0 : Hid (DSInv w w.heap.size Ad dl cd data 0 (some ⟨w8.heap.size, 0, none⟩) 0 w4) := Lib.hid ⟨[], [], (ElRow.empty 26 w8 (w.heap.size + 1) _ (by omega) (fun hX => by have := (own_block_lt HOD3.out hX).2; omega)).kept mvP hk4 (fun j hj _ _ e => by omega), own_kept (HOD3.out.alloc _) hk4 (fun g hg _ e => by omega), hr4.mono (by omega), (HK3.out.alloc _).trans hk4 fun _ _ e => e⟩
      clear hz0' hr4 hk4 CK HK3 HOD3 HR3
      go_wp2_with fail
      go_loopg [10, 11] m (fun f v i wr => ∃ (r k : Nat) (A' : Option Addr) (c' : Nat), r = f ∧ i = .int .i64 r ∧ v = .slice A' k c' ∧ k + r ≤ 10 ∧ DSInv w w.heap.size Ad dl cd data k A' c' wr)
      case atStart => exact ⟨m, 0, _, 0, rfl, rfl, rfl, by omega, HI0.out⟩
      case round =>
        obtain ⟨r, k, A', c', rfl, rfl, rfl, hkr, ops, xs, hrow, hod, hrd, hkw⟩ := hrel
        have hszr := hkw.size
        have hrlt := hrd.lt
        have CP := Lib.hid (pick_any hrd (by omega) 4 (by omega) (by omega))
        have HRW := Lib.hid hrow
        have HOD := Lib.hid hod
        have HRD := Lib.hid hrd
        have HKW := Lib.hid hkw
        clear hrow hod hrd hkw
        by_cases hr0 : 0 < r
        · have hr0' : (0 : Int) < (r : Int) := by omega
          go_wp2_with fail
          refine CP.out.mono ?_
          rintro e w5 ⟨kd, hkd, rfl, hr5, hk5⟩
          have hs5 := hk5.size
          have HR5 := Lib.hid hr5
          have HK5 := Lib.hid hk5
          have hkd4 : kd = 0 ∨ kd = 1 ∨ kd = 2 ∨ kd = 3 := by omega
          clear hr5 hk5 CP hkd
          rcases hkd4 with rfl | rfl | rfl | rfl
          · have C1 := Lib.hid (one_new (q := (3000 + 4 * k + 1)) (HR5.out.alloc (.cells #[.int .i64 0, .int .i64 0, .int .i64 0] 26)) (by omega) [2, 1, 3, 0, 100] 5 5 3 rfl (by omega) (by omega) #[.int .i64 2, .int .i64 1, .int .i64 3, .int .i64 0, .int .i64 100] rfl (w5.heap.size + 1) (by simp))
            go_wp2_with fail
            refine C1.out.mono ?_
            rintro e w6 ⟨z, _, rfl, hr6, hk6⟩
            have hs6 := hk6.size
            simp at hs6
            have B6 : Blk w6 w5.heap.size 26 #[.int .i64 0, .int .i64 0, .int .i64 0] := (Blk.new w5 26 #[.int .i64 0, .int .i64 0, .int .i64 0]).kept hk6 (by omega)
            have B7 := B6.put 1 (.int .i64 z)
            have c0 := B6.cell 0
            have c1 := B6.cell 1
            have c2 := B6.cell 2
            have f1 := B6.frozen 1
            simp at c0 c1 c2
            have K6 : Kept (· = w.heap.size) wr w6 := (HK5.out.alloc _).trans hk6 fun _ _ e => e
            have HK9 : Hid (Kept (· = w.heap.size) wr (w6.setCell ⟨w5.heap.size, 1, none⟩ (.int .i64 z))) := Lib.hid (K6.setCell (p := ⟨w5.heap.size, 1, none⟩) (fun hh => by have : w5.heap.size < wr.heap.size := hh; omega) _)
            have hsz9 : wr.heap.size ≤ (w6.setCell ⟨w5.heap.size, 1, none⟩ (.int .i64 z)).heap.size := HK9.out.size
            have HR9 : Hid (RdAt (· < w.heap.size) (w6.setCell ⟨w5.heap.size, 1, none⟩ (.int .i64 z)) w.heap.size (3000 + 4 * (k + 1))) := Lib.hid ((hr6.mono (by omega)).kept ((Kept.refl (· = w5.heap.size) w6).setCell (p := ⟨w5.heap.size, 1, none⟩) (fun _ => rfl) _) fun j _ hj e => by omega)
            have HO9 := Lib.hid (own_keptD HRW.out HK9.out rfl)
            have hw9 : (w6.setCell ⟨w5.heap.size, 1, none⟩ (.int .i64 z)).heap.size = w6.heap.size := by simp [World.setCell]
            have HNS : Hid (NewsAt ((w6.setCell ⟨w5.heap.size, 1, none⟩ (.int .i64 z)).alloc (.cells #[.int .i64 0, .int .i64 z, .int .i64 0] 26)) (some ⟨w6.heap.size, 0, none⟩) 1 [.int .i64 0, .int .i64 z, .int .i64 0]) := Lib.hid (by have := (Blk.new (w6.setCell ⟨w5.heap.size, 1, none⟩ (.int .i64 z)) 26 #[.int .i64 0, .int .i64 z, .int .i64 0]).news 1; rw [hw9] at this; exact this)
            have HSZ9 := Lib.hid hw9
            clear hr6 hk6 B6 B7 K6 C1 hw9
            go_wp2_with (at_builtin; refine wpList_append_gen _ rfl (.tmp 90) (.tmp 92) 27 rfl (w.heap.size + 1) 26 i2 _ 3 24 Tryd.underlying27 hi2 hx0 hx1 hx2 rfl (by omega) _ k xs rfl (HO9.out.alloc _) (some ⟨w6.heap.size, 0, none⟩) 1 1 [.int .i64 0, .int .i64 z, .int .i64 0] rfl (by rfl) (HNS.out) (by simp [Value.oneCell']) (by unfold maxLen; omega) (by omega) (by simp; omega) ?_)
            intro A9 c9 wz hap
            have HIn := Lib.hid (ds_next (w := w) (x := (0, z, 0)) HRW.out HOD.out HKW.out HK9.out HR9.out hsz9 ((Kept.refl (fun _ => False) _).alloc _) hap rfl rfl)
            clear hap
            go_wp2_with fail
            go_roundg (r - 1)
            case measure => omega
            case rel => exact ⟨r - 1, k + 1, A9, c9, by omega, by go_num, rfl, by omega, HIn.out⟩
          · have C1 := Lib.hid (one_new (q := (3000 + 4 * k + 1)) (HR5.out.alloc (.cells #[.int .i64 1, .int .i64 0, .int .i64 0] 26)) (by omega) [2, 1, 3, 0, 100] 5 5 3 rfl (by omega) (by omega) #[.int .i64 2, .int .i64 1, .int .i64 3, .int .i64 0, .int .i64 100] rfl (w5.heap.size + 1) (by simp))
            go_wp2_with fail
            refine C1.out.mono ?_
            rintro e w6 ⟨z, _, rfl, hr6, hk6⟩
            have hs6 := hk6.size
            simp at hs6
            have B6 : Blk w6 w5.heap.size 26 #[.int .i64 1, .int .i64 0, .int .i64 0] := (Blk.new w5 26 #[.int .i64 1, .int .i64 0, .int .i64 0]).kept hk6 (by omega)
            have HB7 : Hid (Blk (w6.setCell ⟨w5.heap.size, 1, none⟩ (.int .i64 z)) w5.heap.size 26 #[.int .i64 1, .int .i64 z, .int .i64 0]) := Lib.hid (by simpa using B6.put 1 (.int .i64 z))
            have c1 := B6.cell 1
            have f1 := B6.frozen 1
            simp at c1
            have K6 : Kept (· = w.heap.size) wr w6 := (HK5.out.alloc _).trans hk6 fun _ _ e => e
            have HK7 : Hid (Kept (· = w.heap.size) wr (w6.setCell ⟨w5.heap.size, 1, none⟩ (.int .i64 z))) := Lib.hid (K6.setCell (p := ⟨w5.heap.size, 1, none⟩) (fun hh => by have : w5.heap.size < wr.heap.size := hh; omega) _)
            have hw6 : (w6.setCell ⟨w5.heap.size, 1, none⟩ (.int .i64 z)).heap.size = w6.heap.size := by simp [World.setCell]
            have HR7 : Hid (RdAt (· < w.heap.size) (w6.setCell ⟨w5.heap.size, 1, none⟩ (.int .i64 z)) w.heap.size (3000 + 4 * k + 2)) := Lib.hid ((hr6.mono (by omega)).kept ((Kept.refl (· = w5.heap.size) w6).setCell (p := ⟨w5.heap.size, 1, none⟩) (fun _ => rfl) _) fun j _ hj e => by omega)
            have C2 := Lib.hid (one_new (q := 3000 + 4 * k + 2) HR7.out (by omega) [0, 1, 2, nn, (nn - 1), (nn + 1), 5] 7 7 3 rfl (by omega) (by omega) #[.int .i64 0, .int .i64 1, .int .i64 2, .int .i64 nn, .int .i64 (nn - 1), .int .i64 (nn + 1), .int .i64 5] rfl w6.heap.size (by rw [hw6]))
            have HW6 := Lib.hid hw6
            clear hr6 hk6 B6 K6 C1 hw6
            go_wp2_with fail
            refine C2.out.mono ?_
            rintro e w7 ⟨y, _, rfl, hr7, hk7⟩
            have hs7 : w6.heap.size ≤ w7.heap.size := by have := hk7.size; have := HW6.out; omega
            have B8 : Blk w7 w5.heap.size 26 #[.int .i64 1, .int .i64 z, .int .i64 0] := HB7.out.kept hk7 (by omega)
            have d0 := B8.cell 0
            have d1 := B8.cell 1
            have d2 := B8.cell 2
            have f2 := B8.frozen 2
            simp at d0 d1 d2
            have K7 : Kept (· = w.heap.size) wr w7 := HK7.out.trans hk7 fun _ _ e => e
            have HK9 : Hid (Kept (· = w.heap.size) wr (w7.setCell ⟨w5.heap.size, 2, none⟩ (.int .i64 y))) := Lib.hid (K7.setCell (p := ⟨w5.heap.size, 2, none⟩) (fun hh => by have : w5.heap.size < wr.heap.size := hh; omega) _)
            have hsz9 : wr.heap.size ≤ (w7.setCell ⟨w5.heap.size, 2, none⟩ (.int .i64 y)).heap.size := HK9.out.size
            have HR9 : Hid (RdAt (· < w.heap.size) (w7.setCell ⟨w5.heap.size, 2, none⟩ (.int .i64 y)) w.heap.size (3000 + 4 * (k + 1))) := Lib.hid ((hr7.mono (by omega)).kept ((Kept.refl (· = w5.heap.size) w7).setCell (p := ⟨w5.heap.size, 2, none⟩) (fun _ => rfl) _) fun j _ hj e => by omega)
            have HO9 := Lib.hid (own_keptD HRW.out HK9.out rfl)
            have hw9 : (w7.setCell ⟨w5.heap.size, 2, none⟩ (.int .i64 y)).heap.size = w7.heap.size := by simp [World.setCell]
            have HNS : Hid (NewsAt ((w7.setCell ⟨w5.heap.size, 2, none⟩ (.int .i64 y)).alloc (.cells #[.int .i64 1, .int .i64 z, .int .i64 y] 26)) (some ⟨w7.heap.size, 0, none⟩) 1 [.int .i64 1, .int .i64 z, .int .i64 y]) := Lib.hid (by have := (Blk.new (w7.setCell ⟨w5.heap.size, 2, none⟩ (.int .i64 y)) 26 #[.int .i64 1, .int .i64 z, .int .i64 y]).news 1; rw [hw9] at this; exact this)
            clear hr7 hk7 B8 K7 C2 hw9
            go_wp2_with (at_builtin; refine wpList_append_gen _ rfl (.tmp 90) (.tmp 92) 27 rfl (w.heap.size + 1) 26 i2 _ 3 24 Tryd.underlying27 hi2 hx0 hx1 hx2 rfl (by omega) _ k xs rfl (HO9.out.alloc _) (some ⟨w7.heap.size, 0, none⟩) 1 1 [.int .i64 1, .int .i64 z, .int .i64 y] rfl (by rfl) (HNS.out) (by simp [Value.oneCell']) (by unfold maxLen; omega) (by omega) (by simp; omega) ?_)
            intro A9 c9 wz hap
            have HIn := Lib.hid (ds_next (w := w) (x := (1, z, y)) HRW.out HOD.out HKW.out HK9.out HR9.out hsz9 ((Kept.refl (fun _ => False) _).alloc _) hap rfl rfl)
            clear hap
            go_wp2_with fail
            go_roundg (r - 1)
            case measure => omega
            case rel => exact ⟨r - 1, k + 1, A9, c9, by omega, by go_num, rfl, by omega, HIn.out⟩
          · have C1 := Lib.hid (one_new (q := (3000 + 4 * k + 1)) (HR5.out.alloc (.cells #[.int .i64 2, .int .i64 0, .int .i64 0] 26)) (by omega) [0, 1, (-1), 2, (-3), nn, 100] 7 7 3 rfl (by omega) (by omega) #[.int .i64 0, .int .i64 1, .int .i64 (-1), .int .i64 2, .int .i64 (-3), .int .i64 nn, .int .i64 100] rfl (w5.heap.size + 1) (by simp))
            go_wp2_with fail
            refine C1.out.mono ?_
            rintro e w6 ⟨z, _, rfl, hr6, hk6⟩
            have hs6 := hk6.size
            simp at hs6
            have B6 : Blk w6 w5.heap.size 26 #[.int .i64 2, .int .i64 0, .int .i64 0] := (Blk.new w5 26 #[.int .i64 2, .int .i64 0, .int .i64 0]).kept hk6 (by omega)
            have HB7 : Hid (Blk (w6.setCell ⟨w5.heap.size, 1, none⟩ (.int .i64 z)) w5.heap.size 26 #[.int .i64 2, .int .i64 z, .int .i64 0]) := Lib.hid (by simpa using B6.put 1 (.int .i64 z))
            have c1 := B6.cell 1
            have f1 := B6.frozen 1
            simp at c1
            have K6 : Kept (· = w.heap.size) wr w6 := (HK5.out.alloc _).trans hk6 fun _ _ e => e
            have HK7 : Hid (Kept (· = w.heap.size) wr (w6.setCell ⟨w5.heap.size, 1, none⟩ (.int .i64 z))) := Lib.hid (K6.setCell (p := ⟨w5.heap.size, 1, none⟩) (fun hh => by have : w5.heap.size < wr.heap.size := hh; omega) _)
            have hw6 : (w6.setCell ⟨w5.heap.size, 1, none⟩ (.int .i64 z)).heap.size = w6.heap.size := by simp [World.setCell]
            have HR7 : Hid (RdAt (· < w.heap.size) (w6.setCell ⟨w5.heap.size, 1, none⟩ (.int .i64 z)) w.heap.size (3000 + 4 * k + 2)) := Lib.hid ((hr6.mono (by omega)).kept ((Kept.refl (· = w5.heap.size) w6).setCell (p := ⟨w5.heap.size, 1, none⟩) (fun _ => rfl) _) fun j _ hj e => by omega)
            have C2 := Lib.hid (one_new (q := 3000 + 4 * k + 2) HR7.out (by omega) [0, 1, 2, 0, 1, 2, 3, (-1)] 8 8 3 rfl (by omega) (by omega) #[.int .i64 0, .int .i64 1, .int .i64 2, .int .i64 0, .int .i64 1, .int .i64 2, .int .i64 3, .int .i64 (-1)] rfl w6.heap.size (by rw [hw6]))
            have HW6 := Lib.hid hw6
            clear hr6 hk6 B6 K6 C1 hw6
            go_wp2_with fail
            refine C2.out.mono ?_
            rintro e w7 ⟨y, _, rfl, hr7, hk7⟩
            have hs7 : w6.heap.size ≤ w7.heap.size := by have := hk7.size; have := HW6.out; omega
            have B8 : Blk w7 w5.heap.size 26 #[.int .i64 2, .int .i64 z, .int .i64 0] := HB7.out.kept hk7 (by omega)
            have d0 := B8.cell 0
            have d1 := B8.cell 1
            have d2 := B8.cell 2
            have f2 := B8.frozen 2
            simp at d0 d1 d2
            have K7 : Kept (· = w.heap.size) wr w7 := HK7.out.trans hk7 fun _ _ e => e
            have HK9 : Hid (Kept (· = w.heap.size) wr (w7.setCell ⟨w5.heap.size, 2, none⟩ (.int .i64 y))) := Lib.hid (K7.setCell (p := ⟨w5.heap.size, 2, none⟩) (fun hh => by have : w5.heap.size < wr.heap.size := hh; omega) _)
            have hsz9 : wr.heap.size ≤ (w7.setCell ⟨w5.heap.size, 2, none⟩ (.int .i64 y)).heap.size := HK9.out.size
            have HR9 : Hid (RdAt (· < w.heap.size) (w7.setCell ⟨w5.heap.size, 2, none⟩ (.int .i64 y)) w.heap.size (3000 + 4 * (k + 1))) := Lib.hid ((hr7.mono (by omega)).kept ((Kept.refl (· = w5.heap.size) w7).setCell (p := ⟨w5.heap.size, 2, none⟩) (fun _ => rfl) _) fun j _ hj e => by omega)
            have HO9 := Lib.hid (own_keptD HRW.out HK9.out rfl)
            have hw9 : (w7.setCell ⟨w5.heap.size, 2, none⟩ (.int .i64 y)).heap.size = w7.heap.size := by simp [World.setCell]
            have HNS : Hid (NewsAt ((w7.setCell ⟨w5.heap.size, 2, none⟩ (.int .i64 y)).alloc (.cells #[.int .i64 2, .int .i64 z, .int .i64 y] 26)) (some ⟨w7.heap.size, 0, none⟩) 1 [.int .i64 2, .int .i64 z, .int .i64 y]) := Lib.hid (by have := (Blk.new (w7.setCell ⟨w5.heap.size, 2, none⟩ (.int .i64 y)) 26 #[.int .i64 2, .int .i64 z, .int .i64 y]).news 1; rw [hw9] at this; exact this)
            clear hr7 hk7 B8 K7 C2 hw9
            go_wp2_with (at_builtin; refine wpList_append_gen _ rfl (.tmp 90) (.tmp 92) 27 rfl (w.heap.size + 1) 26 i2 _ 3 24 Tryd.underlying27 hi2 hx0 hx1 hx2 rfl (by omega) _ k xs rfl (HO9.out.alloc _) (some ⟨w7.heap.size, 0, none⟩) 1 1 [.int .i64 2, .int .i64 z, .int .i64 y] rfl (by rfl) (HNS.out) (by simp [Value.oneCell']) (by unfold maxLen; omega) (by omega) (by simp; omega) ?_)
            intro A9 c9 wz hap
            have HIn := Lib.hid (ds_next (w := w) (x := (2, z, y)) HRW.out HOD.out HKW.out HK9.out HR9.out hsz9 ((Kept.refl (fun _ => False) _).alloc _) hap rfl rfl)
            clear hap
            go_wp2_with fail
            go_roundg (r - 1)
            case measure => omega
            case rel => exact ⟨r - 1, k + 1, A9, c9, by omega, by go_num, rfl, by omega, HIn.out⟩
          · have HK9 : Hid (Kept (· = w.heap.size) wr (w5.alloc (.cells #[.int .i64 3, .int .i64 0, .int .i64 0] 26))) := Lib.hid (HK5.out.alloc _)
            have hsz9 : wr.heap.size ≤ (w5.alloc (.cells #[.int .i64 3, .int .i64 0, .int .i64 0] 26)).heap.size := HK9.out.size
            have HR9 : Hid (RdAt (· < w.heap.size) (w5.alloc (.cells #[.int .i64 3, .int .i64 0, .int .i64 0] 26)) w.heap.size (3000 + 4 * (k + 1))) := Lib.hid ((HR5.out.alloc _).mono (by omega))
            have HO9 := Lib.hid (own_keptD HRW.out HK9.out rfl)
            have HNS : Hid (NewsAt ((w5.alloc (.cells #[.int .i64 3, .int .i64 0, .int .i64 0] 26)).alloc (.cells #[.int .i64 3, .int .i64 0, .int .i64 0] 26)) (some ⟨w5.heap.size + 1, 0, none⟩) 1 [.int .i64 3, .int .i64 0, .int .i64 0]) := Lib.hid (by have := (Blk.new (w5.alloc (.cells #[.int .i64 3, .int .i64 0, .int .i64 0] 26)) 26 #[.int .i64 3, .int .i64 0, .int .i64 0]).news 1; simpa using this)
            go_wp2_with (at_builtin; refine wpList_append_gen _ rfl (.tmp 90) (.tmp 92) 27 rfl (w.heap.size + 1) 26 i2 _ 3 24 Tryd.underlying27 hi2 hx0 hx1 hx2 rfl (by omega) _ k xs rfl (HO9.out.alloc _) (some ⟨w5.heap.size + 1, 0, none⟩) 1 1 [.int .i64 3, .int .i64 0, .int .i64 0] rfl (by rfl) (HNS.out) (by simp [Value.oneCell']) (by unfold maxLen; omega) (by omega) (by simp; omega) ?_)
            intro A9 c9 wz hap
            have HIn := Lib.hid (ds_next (w := w) (x := (3, 0, 0)) HRW.out HOD.out HKW.out HK9.out HR9.out hsz9 ((Kept.refl (fun _ => False) _).alloc _) hap rfl rfl)
            clear hap
            go_wp2_with fail
            go_roundg (r - 1)
            case measure => omega
            case rel => exact ⟨r - 1, k + 1, A9, c9, by omega, by go_num, rfl, by omega, HIn.out⟩
        · have hr0' : ¬ (0 : Int) < (r : Int) := by omega
          clear CP
          go_wp2_with fail
          refine bodyPost_ret (v := .tuple #[.slice Ad dl cd, .int .i64 (off : Int), .int .i64 nn, .slice A' k c']) ?_ rfl ?_
          · simp [results, Tryd.results11, go_sem]
          · exact ds_done HRW.out HOD.out HKW.out hdl hol hnn0 hnn1 (by omega) rfl

end Go.Proofs.YtdlgknaipljhhaaDoor
