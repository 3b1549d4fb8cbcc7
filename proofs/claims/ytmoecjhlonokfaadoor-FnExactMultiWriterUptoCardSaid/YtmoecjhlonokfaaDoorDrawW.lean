/- The reference's own draws: the arguments of MultiWriter. -/
import Derived.Test.YtmoecjhlonokfaaDoorDraw0
import Derived.Test.YtmoecjhlonokfaaDoorSizes
import Derived.Test.YtmoecjhlonokfaaDoorEls
set_option linter.unusedVariables false
set_option linter.unusedSimpArgs false
namespace Go.Proofs.YtmoecjhlonokfaaDoor
open Go.RowKit

theorem infoSink : (Tryd.prog.info? 36).map (fun i => (i.zero, i.size, i.bytes)) = some (some (.agg #[.int .i64 0]), 1, 8) := by kernel_rfl
theorem infoBsD : (Tryd.prog.info? 31).map (fun i => (i.zero, i.size, i.bytes)) = some (some (.slice none 0 0), 1, 24) := by kernel_rfl

/-- the drawer, just made over the bytes of an input -/
theorem rd_new0 {S : Nat → Prop} {w : World} {A : Option Addr} {l : List Int} (c : Nat) (h : BytesAt S w A l) (hl : l.length ≤ 1048576) (hb : ∀ j, j < l.length → 0 ≤ nth l j ∧ nth l j ≤ 255) :
    RdAt (· < w.heap.size) (w.alloc (.cells #[.slice A l.length c, .int .i64 0] 73)) w.heap.size 0 :=
  ⟨A, c, 0, l, Blk.new w _ _, (h.mono fun k hk _ => hk).alloc _, hl, Nat.le_refl _, hb, fun k hk => by omega⟩

/-- limits and writes, in new memory -/
def DrawWPost (w : World) (e : Ending) (w' : World) : Prop :=
  ∃ (lims : List Int) (A : Option Addr) (c : Nat) (ps : List (List Int)) (A1 : Option Addr) (c1 : Nat), e = .returned (.tuple #[.slice A lims.length c, .slice A1 ps.length c1]) ∧ lims.length ≤ 5 ∧ (∀ z ∈ lims, -1 ≤ z ∧ z ≤ 1073741824) ∧ ps.length ≤ 4 ∧ (∀ p ∈ ps, p.length ≤ 700) ∧ ps.length ≤ c1 ∧
    IntsAt (fun j => w.heap.size ≤ j) w' A lims ∧ ElsAt ElB 1 (fun j => w.heap.size ≤ j) w' A1 ps ∧ Below w.heap.size w w'

/-- what holds at the head of a round of the writes -/
def DWInv (w : World) (Al : Option Addr) (n cl : Nat) (lims : List Int) (k : Nat) (A' : Option Addr) (c' : Nat) (wr : World) : Prop :=
  ∃ ps xs, ElRow ElB 1 31 (w.heap.size + 1) (fun j => (Value.slice Al n cl).ownBlock = some j) wr A' k c' ps xs ∧ wr.ownsRow (w.heap.size + 1) 36 1 (.slice Al n cl) n (intsV lims) ∧ RdAt (· < w.heap.size) wr w.heap.size (3000 + 702 * k) ∧ Kept (· = w.heap.size) w wr ∧ ∀ p ∈ ps, p.length ≤ 700

theorem dw_next {w wr w5 w0 w4 : World} {Al A' A2 : Option Addr} {n cl k c' c2 : Nat} {lims : List Int} {ps : List (List Int)} {xs vs : List Value} {x : List Int} (hrow : ElRow ElB 1 31 (w.heap.size + 1) (fun j => (Value.slice Al n cl).ownBlock = some j) wr A' k c' ps xs)
    (hol : wr.ownsRow (w.heap.size + 1) 36 1 (.slice Al n cl) n (intsV lims)) (hkw : Kept (· = w.heap.size) w wr) (hps : ∀ p ∈ ps, p.length ≤ 700) (hk : Kept (· = w.heap.size) wr w5) (hr : RdAt (· < w.heap.size) w5 w.heap.size (3000 + 702 * k + 702)) (hw0 : Kept (fun _ => False) w5 w0)
    (hap : Appended (w.heap.size + 1) 31 1 A2 (k + 1) c2 (xs ++ vs) (Value.slice A' k c').ownBlock w0 w4) (hv : vs.length = 1) (hd : ElB (fun j => wr.heap.size ≤ j) w5 vs x) (hx : x.length ≤ 700) (hlt : w.heap.size < wr.heap.size) : DWInv w Al n cl lims (k + 1) A2 c2 w4 := by
  have hlo : ∀ j, (Value.slice A' k c').ownBlock = some j → w.heap.size + 1 ≤ j ∧ j < wr.heap.size := fun j e => own_block_lt hrow.own e
  have hlD : ∀ j, (Value.slice Al n cl).ownBlock = some j → w.heap.size + 1 ≤ j ∧ j < wr.heap.size := fun j e => own_block_lt hol e
  have hz := hk.size
  have hzw := hkw.size
  have hr5 := hrow.kept mvB hk fun j hj _ _ e => by omega
  have hn := ElRow.snoc (x := x) mvB (by omega) hr5 hw0 hap (fun j hj e => by have := (hlD j e).2; omega) hv (mvB.mv hd (Nat.le_refl _) fun j _ hj => ⟨⟨by omega, fun e => by have := (hlo j e.symm).2; omega, fun e => by have := (hlD j e).2; omega⟩, rfl⟩)
  refine ⟨_, _, hn, ?_, ?_, ?_, fun p hp => ?_⟩
  · have h6 := own_kept (own_kept hol hk fun g hg _ e => by omega) hw0 fun g hg _ hf => hf
    refine World.ownsRow.kept h6 hap.grown ?_
    cases ho : (Value.slice Al n cl).ownBlock with
    | none => exact .inl rfl
    | some gg => exact .inr (fun e => by
        have := hrow.nx gg
        rw [ho] at this
        exact this (by first | exact e | exact e.symm) rfl)
  · refine ((hr.mono (by omega)).kept hw0 fun _ _ _ hf => hf).kept hap.kept fun j _ hj e => ?_
    have := (hlo j e.symm).1
    rcases hj with h | h <;> omega
  · exact ((hkw.trans hk fun _ _ e => e).trans hw0 fun _ _ hf => hf.elim).trans hap.kept fun j hj e => by have := (hlo j e.symm).1; omega
  · rcases List.mem_append.1 hp with h | h
    · exact hps p h
    · rw [List.mem_singleton.1 h]; exact hx

theorem dw_done {w wr : World} {Al A' : Option Addr} {n cl k c' : Nat} {lims : List Int} {ps : List (List Int)} {xs : List Value} (hrow : ElRow ElB 1 31 (w.heap.size + 1) (fun j => (Value.slice Al n cl).ownBlock = some j) wr A' k c' ps xs)
    (hol : wr.ownsRow (w.heap.size + 1) 36 1 (.slice Al n cl) n (intsV lims)) (hkw : Kept (· = w.heap.size) w wr) (hps : ∀ p ∈ ps, p.length ≤ 700) (hn : n ≤ 5) (hl : ∀ z ∈ lims, -1 ≤ z ∧ z ≤ 1073741824) (hk : k ≤ 4) :
    DrawWPost w (.returned (.tuple #[.slice Al n cl, .slice A' k c'])) wr := by
  have h1 : lims.length = n := by have := hol.1; rw [intsV_length] at this; omega
  have h2 := hrow.len
  subst h1
  subst h2
  exact ⟨lims, Al, cl, ps, A', c', rfl, hn, hl, hk, hps, own_cap hrow.own, (own_ints hol).mono (fun j _ e => by have := (own_block_lt hol e).1; omega), (hrow.els mvB).mono mvB (fun j _ hj => by omega), hkw.below (Nat.le_refl _) fun j hj e => by omega⟩

set_option maxHeartbeats 4000000 in
set_option maxRecDepth 100000 in
theorem drawWriter_any {S : Nat → Prop} {w : World} {A : Option Addr} {l : List Int} (c : Nat) (h : BytesAt S w A l) (hl : l.length ≤ 1048576) (hb : ∀ j, j < l.length → 0 ≤ nth l j ∧ nth l j ≤ 255) :
    Calls Tryd.prog 17 #[.slice A l.length c] w (DrawWPost w) := by
  obtain ⟨is, his, hs0, hs1, hs2⟩ := info_parts infoSink
  obtain ⟨ib, hib, hb0, hb1, hb2⟩ := info_parts infoBsD
  have HR := Lib.hid ((rd_new0 c h hl hb).alloc (.cells #[] 36))
  have C1 := Lib.hid (one_new HR.out (by omega) [2, 3, 1, 0, 5] 5 5 3 rfl (by omega) (by omega) #[.int .i64 2, .int .i64 3, .int .i64 1, .int .i64 0, .int .i64 5] rfl (w.heap.size + 2) (by simp))
  have HO : Hid (((w.alloc (.cells #[.slice A l.length c, .int .i64 0] 73)).alloc (.cells #[] 36)).ownsRow (w.heap.size + 1) 36 1 (.slice (some ⟨w.heap.size + 1, 0, none⟩) 0 0) 0 (intsV [])) := Lib.hid (by
    have := own_empty (w.alloc (.cells #[.slice A l.length c, .int .i64 0] 73)) (w.heap.size + 1) 36 1 (by simp)
    simpa [intsV] using this)
  have HK : Hid (Kept (· = w.heap.size) w ((w.alloc (.cells #[.slice A l.length c, .int .i64 0] 73)).alloc (.cells #[] 36))) := Lib.hid (((Kept.refl _ w).alloc _).alloc _)
  have hlim0 : w.heap.size + 2 ≤ ((w.alloc (.cells #[.slice A l.length c, .int .i64 0] 73)).alloc (.cells #[] 36)).heap.size := by simp
  clear h hl hb HR
  generalize l.length = len at *
  go_enter Tryd.func17, Tryd.ntmps17
  go_wp2_with fail
  generalize hwx : (w.alloc (.cells #[.slice A len c, .int .i64 0] 73)).alloc (.cells #[] 36) = wx at *
  clear hwx
  refine C1.out.mono ?_
  rintro e w2 ⟨z, hz, rfl, hr2, hk2⟩
  obtain ⟨m, rfl, hm⟩ : ∃ m : Nat, z = (m : Int) ∧ m ≤ 5 := by
    simp at hz
    rcases hz with rfl | rfl | rfl | rfl | rfl
    · exact ⟨2, rfl, by omega⟩
    · exact ⟨3, rfl, by omega⟩
    · exact ⟨1, rfl, by omega⟩
    · exact ⟨0, rfl, by omega⟩
    · exact ⟨5, rfl, by omega⟩
  have HR2 : Hid (RdAt (· < w.heap.size) w2 w.heap.size (1 + 0)) := Lib.hid (hr2.mono (by omega))
  have HO2 := Lib.hid (own_kept HO.out hk2 fun g hg _ e => by omega)
  have HK2 := Lib.hid (HK.out.trans hk2 fun _ _ e => e)
  clear hz hr2 hk2 C1 HO HK hlim0
  go_wp2_with fail
  go_loopg [5, 6] m (fun f v i wr => ∃ (r n : Nat) (Al : Option Addr) (cl : Nat) (lims : List Int), r = f ∧ i = .int .i64 r ∧ v = .slice Al n cl ∧ n + r ≤ 5 ∧ Hid (wr.ownsRow (w.heap.size + 1) 36 1 (.slice Al n cl) n (intsV lims)) ∧ Hid (∀ z ∈ lims, -1 ≤ z ∧ z ≤ 1073741824) ∧ Hid (RdAt (· < w.heap.size) wr w.heap.size (1 + n)) ∧ Hid (Kept (· = w.heap.size) w wr))
  case atStart => exact ⟨m, 0, _, 0, [], rfl, rfl, rfl, by omega, HO2, Lib.hid (fun z hz => by cases hz), HR2, HK2⟩
  case round =>
    obtain ⟨r, n, Al, cl, lims, rfl, rfl, rfl, hnr, HOL, HLB, HRL, HKL⟩ := hrel
    have hszr := HKL.out.size
    have hrlt := HRL.out.lt
    have hnl : n ≤ 5 := by omega
    by_cases hr0 : 0 < r
    · have hr0' : (0 : Int) < (r : Int) := by omega
      have C5 := Lib.hid (one_new (q := 1 + n) HRL.out (by omega) [1073741824, 5, 8, 3, 0, 100] 6 6 3 rfl (by omega) (by omega) #[.int .i64 1073741824, .int .i64 5, .int .i64 8, .int .i64 3, .int .i64 0, .int .i64 100] rfl wr.heap.size rfl)
      go_wp2_with fail
      refine C5.out.mono ?_
      rintro e w5 ⟨x, hx, rfl, hr5, hk5⟩
      have hxb : Hid (-1 ≤ x ∧ x ≤ 1073741824) := Lib.hid (by simp at hx; omega)
      have hs5 := hk5.size
      have HO5 := Lib.hid (own_kept HOL.out hk5 fun g hg _ e => by omega)
      have HK5 := Lib.hid (HKL.out.trans hk5 fun _ _ e => e)
      have HR5 := Lib.hid hr5
      clear hr5 hk5 C5 hx
      go_wp2_with (at_builtin; refine wpList_append_gen _ rfl (.tmp 20) (.tmp 25) 22 rfl (w.heap.size + 1) 36 is _ 1 8 Tryd.underlying22 his hs0 hs1 hs2 rfl (by omega) _ n (intsV lims) rfl (HO5.out.alloc _) (some ⟨w5.heap.size, 0, none⟩) 1 1 [.int .i64 x] rfl (by rfl) ((Blk.new w5 36 #[.int .i64 x]).news 1) (by simp [Value.oneCell']) (by unfold maxLen; omega) (by omega) (by simp; omega) ?_)
      intro A6 c6 w6 hap
      have hneB : ∀ j, j < w.heap.size + 1 → some j ≠ (Value.slice Al n cl).ownBlock := fun j hj e => by have := (own_block_lt HO5.out e.symm).1; omega
      have HO6 : Hid (w6.ownsRow (w.heap.size + 1) 36 1 (.slice A6 (n + 1) c6) (n + 1) (intsV (lims ++ [x]))) := Lib.hid (by rw [intsV_append]; exact hap.own)
      have HK6 : Hid (Kept (· = w.heap.size) w w6) := Lib.hid ((HK5.out.alloc _).grown hap.grown fun j e hj => absurd e.symm (hneB j (by omega)))
      have HR6 : Hid (RdAt (· < w.heap.size) w6 w.heap.size (1 + (n + 1))) := Lib.hid (((HR5.out.alloc _).kept hap.kept fun j hj hS hD => by
        refine hneB j ?_ hD
        rcases hS with h | h <;> omega).mono (by omega))
      have HL6 : Hid (∀ z ∈ lims ++ [x], -1 ≤ z ∧ z ≤ 1073741824) := Lib.hid fun z hz => by
        rcases List.mem_append.1 hz with h | h
        · exact HLB.out z h
        · rw [List.mem_singleton.1 h]; exact hxb.out
      clear hap hneB
      go_wp2_with fail
      go_roundg (r - 1)
      case measure => omega
      case rel => exact ⟨r - 1, n + 1, A6, c6, lims ++ [x], by omega, by go_num, rfl, by omega, HO6, HL6, HR6, HK6⟩
    · have hr0' : ¬ (0 : Int) < (r : Int) := by omega
      by_cases hn0 : 0 < n
      · have hn0' : (0 : Int) < (n : Int) := by omega
        have CP := Lib.hid (pick_any HRL.out (by omega) 24 (by omega) (by omega))
        go_wp2_with fail
        refine CP.out.mono ?_
        rintro e w3 ⟨p24, hp24, rfl, hr3, hk3⟩
        have hs3 := hk3.size
        have HO3 := Lib.hid (own_kept HOL.out hk3 fun g hg _ e => by omega)
        have HK3 := Lib.hid (HKL.out.trans hk3 fun _ _ e => e)
        have HR3 := Lib.hid hr3
        clear hr3 hk3 CP HOL HKL HRL
        by_cases hp0 : p24 = 0
        · subst hp0
          obtain ⟨g, cur, rfl, hg1, hg2, hgb, hgs⟩ := own_pos HO3.out hn0
          have f0 := hgb.frozen 0
          obtain ⟨y, hy⟩ : ∃ y, cur[0]? = some y := ⟨_, Array.getElem?_eq_getElem (by omega)⟩
          have y0 := hgb.cell 0
          rw [hy] at y0
          have HOL : Hid ((w3.setCell ⟨g, 0, none⟩ (.int .i64 (-1))).ownsRow (w.heap.size + 1) 36 1 (.slice (some ⟨g, 0, none⟩) n cl) n (intsV (lims.set 0 (-1)))) := Lib.hid (by
            have := own_set (i := 0) (.int .i64 (-1)) HO3.out
            have e1 : intsV (lims.set 0 (-1)) = (intsV lims).set 0 (.int .i64 (-1)) := by unfold intsV; rw [List.map_set]
            rw [e1]
            exact this)
          have HLB2 : Hid (∀ z ∈ lims.set 0 (-1), -1 ≤ z ∧ z ≤ 1073741824) := Lib.hid fun z hz => by
            rcases List.mem_or_eq_of_mem_set hz with h | h
            · exact HLB.out z h
            · omega
          have HKL : Hid (Kept (· = w.heap.size) w (w3.setCell ⟨g, 0, none⟩ (.int .i64 (-1)))) := Lib.hid (HK3.out.setCell (p := ⟨g, 0, none⟩) (fun hh => by have : g < w.heap.size := hh; omega) _)
          have HRL : Hid (RdAt (· < w.heap.size) (w3.setCell ⟨g, 0, none⟩ (.int .i64 (-1))) w.heap.size (1 + n + 1)) := Lib.hid (HR3.out.kept ((Kept.refl (· = g) w3).setCell (p := ⟨g, 0, none⟩) (fun _ => rfl) _) fun j _ hj e => by omega)
          have hswl : (w3.setCell ⟨g, 0, none⟩ (.int .i64 (-1))).heap.size = w3.heap.size := by simp [World.setCell]
          have HCK : Hid (∀ wl : World, wl = w3.setCell ⟨g, 0, none⟩ (.int .i64 (-1)) → Calls Tryd.prog 30 #[.pointer (some ⟨w.heap.size, 0, none⟩), .slice (some ⟨w3.heap.size + 1, 0, none⟩) 5 5] ((wl.alloc (.cells #[] 31)).alloc (.cells #[.int .i64 3, .int .i64 2, .int .i64 4, .int .i64 1, .int .i64 0] 3)) (OnePost (· < w.heap.size) w.heap.size (1 + n + 1) [3, 2, 4, 1, 0] (wl.alloc (.cells #[] 31)))) := Lib.hid fun wl hwl => by
            subst hwl
            exact one_new (q := 1 + n + 1) (HRL.out.alloc (.cells #[] 31)) (by omega) [3, 2, 4, 1, 0] 5 5 3 rfl (by omega) (by omega) #[.int .i64 3, .int .i64 2, .int .i64 4, .int .i64 1, .int .i64 0] rfl (w3.heap.size + 1) (by simp [hswl])
          have HSW := Lib.hid hswl
          clear HO3 HK3 HR3 hgb HLB hy hswl
          have HLB := HLB2
          generalize lims.set 0 (-1) = lims at *
          go_wp2_with fail
          have CK := HCK.out _ rfl
          clear HCK
          generalize hwl : w3.setCell ⟨g, 0, none⟩ (.int .i64 (-1)) = wl at *
          have hw3s : wl.heap.size = w3.heap.size := HSW.out
          clear hwl
          have hwl13 : w.heap.size + 1 ≤ wl.heap.size := by omega
          refine CK.mono ?_
          rintro e w4 ⟨z0, hz0', rfl, hr4, hk4⟩
          obtain ⟨m2, rfl, hm2⟩ : ∃ m : Nat, z0 = (m : Int) ∧ m ≤ 4 := by
            simp at hz0'
            rcases hz0' with rfl | rfl | rfl | rfl | rfl
            · exact ⟨3, rfl, by omega⟩
            · exact ⟨2, rfl, by omega⟩
            · exact ⟨4, rfl, by omega⟩
            · exact ⟨1, rfl, by omega⟩
            · exact ⟨0, rfl, by omega⟩
          have HI0 : Hid (DWInv w (some ⟨g, 0, none⟩) n cl lims 0 (some ⟨w3.heap.size, 0, none⟩) 0 w4) := Lib.hid ⟨[], [], (by have := (ElRow.empty (El := ElB) (size := 1) 31 wl (w.heap.size + 1) (fun j => (Value.slice (some ⟨g, 0, none⟩) n cl).ownBlock = some j) (by omega) (fun hX => by have := (own_block_lt HOL.out hX).2; omega)).kept mvB hk4 (fun j hj _ _ e => by omega); rw [hw3s] at this; exact this), own_kept (HOL.out.alloc _) hk4 (fun g hg _ e => by omega), hr4.mono (by omega), (HKL.out.alloc _).trans hk4 (fun _ _ e => e), fun p hp => by cases hp⟩
          clear hz0' hr4 hk4 CK HKL HOL HRL y0 f0
          go_wp2_with fail
          go_loopg [7, 8] m2 (fun f v i wr => ∃ (r k : Nat) (A' : Option Addr) (c' : Nat), r = f ∧ i = .int .i64 r ∧ v = .slice A' k c' ∧ k + r ≤ 4 ∧ DWInv w (some ⟨g, 0, none⟩) n cl lims k A' c' wr)
          case atStart => exact ⟨m2, 0, _, 0, rfl, rfl, rfl, by omega, HI0.out⟩
          case round =>
            obtain ⟨r, k, A', c', rfl, rfl, rfl, hkr, ps, xs, hrow, hol, hrd, hkw, hps⟩ := hrel
            have hszr := hkw.size
            have hrlt := hrd.lt
            have CS := Lib.hid (some_any hrd (fun j hj => by omega) (by omega))
            have HRW := Lib.hid hrow
            have HOL := Lib.hid hol
            have HKW := Lib.hid hkw
            have HPS := Lib.hid hps
            clear hrow hol hrd hkw hps
            by_cases hr0 : 0 < r
            · have hr0' : (0 : Int) < (r : Int) := by omega
              go_wp2_with fail
              refine CS.out.mono ?_
              rintro e w5 ⟨d, Ad, cd, rfl, hd7, ho5, hr5, hk5⟩
              have hs5 := hk5.size
              have HR5 := Lib.hid hr5
              have HK5 := Lib.hid hk5
              have HRW5 := Lib.hid (HRW.out.kept mvB hk5 fun j hj _ _ e => by omega)
              have HEL : Hid (ElB (fun j => wr.heap.size ≤ j) w5 [.slice Ad d.length cd] d) := Lib.hid ⟨Ad, cd, rfl, own_cap ho5, (own_bytes ho5).mono fun j _ e => (own_block_lt ho5 e).1⟩
              clear hr5 hk5 CS ho5
              go_wp2_with (at_builtin; refine wpList_append_gen _ rfl (.tmp 46) (.tmp 49) 23 rfl (w.heap.size + 1) 31 ib _ 1 24 Tryd.underlying23 hib hb0 hb1 hb2 rfl (by omega) _ k xs rfl (HRW5.out.own.alloc _) (some ⟨w5.heap.size, 0, none⟩) 1 1 [.slice Ad d.length cd] rfl (by rfl) ((Blk.new w5 31 #[.slice Ad d.length cd]).news 1) (by simp [Value.oneCell']) (by unfold maxLen; omega) (by omega) (by simp; omega) ?_)
              intro A9 c9 wz hap
              have HIn := Lib.hid (dw_next (w := w) (x := d) HRW.out HOL.out HKW.out HPS.out HK5.out HR5.out ((Kept.refl (fun _ => False) _).alloc _) hap rfl HEL.out hd7 hrlt)
              clear hap
              go_wp2_with fail
              go_roundg (r - 1)
              case measure => omega
              case rel => exact ⟨r - 1, k + 1, A9, c9, by omega, by go_num, rfl, by omega, HIn.out⟩
            · have hr0' : ¬ (0 : Int) < (r : Int) := by omega
              clear CS
              have HPO := Lib.hid (dw_done HRW.out HOL.out HKW.out HPS.out hnl HLB.out (by omega))
              go_wp2_with fail
              go_ret2
              exact HPO.out
        · have hpb : ((p24 : Int) == 0) = false := by simp; omega
          have HOL := HO3
          have HKL := HK3
          have HRL := HR3
          have CK := Lib.hid (one_new (q := 1 + n + 1) (HRL.out.alloc (.cells #[] 31)) (by omega) [3, 2, 4, 1, 0] 5 5 3 rfl (by omega) (by omega) #[.int .i64 3, .int .i64 2, .int .i64 4, .int .i64 1, .int .i64 0] rfl (w3.heap.size + 1) (by simp))
          have hwl13 : w.heap.size + 1 ≤ w3.heap.size := by omega
          clear HO3 HK3 HR3
          go_wp2_with fail
          refine CK.out.mono ?_
          rintro e w4 ⟨z0, hz0', rfl, hr4, hk4⟩
          obtain ⟨m2, rfl, hm2⟩ : ∃ m : Nat, z0 = (m : Int) ∧ m ≤ 4 := by
            simp at hz0'
            rcases hz0' with rfl | rfl | rfl | rfl | rfl
            · exact ⟨3, rfl, by omega⟩
            · exact ⟨2, rfl, by omega⟩
            · exact ⟨4, rfl, by omega⟩
            · exact ⟨1, rfl, by omega⟩
            · exact ⟨0, rfl, by omega⟩
          have HI0 : Hid (DWInv w Al n cl lims 0 (some ⟨w3.heap.size, 0, none⟩) 0 w4) := Lib.hid ⟨[], [], (ElRow.empty 31 w3 (w.heap.size + 1) _ (by omega) (fun hX => by have := (own_block_lt HOL.out hX).2; omega)).kept mvB hk4 (fun j hj _ _ e => by omega), own_kept (HOL.out.alloc _) hk4 (fun g hg _ e => by omega), hr4.mono (by omega), (HKL.out.alloc _).trans hk4 (fun _ _ e => e), fun p hp => by cases hp⟩
          clear hz0' hr4 hk4 CK HKL HOL HRL
          go_wp2_with fail
          go_loopg [7, 8] m2 (fun f v i wr => ∃ (r k : Nat) (A' : Option Addr) (c' : Nat), r = f ∧ i = .int .i64 r ∧ v = .slice A' k c' ∧ k + r ≤ 4 ∧ DWInv w Al n cl lims k A' c' wr)
          case atStart => exact ⟨m2, 0, _, 0, rfl, rfl, rfl, by omega, HI0.out⟩
          case round =>
            obtain ⟨r, k, A', c', rfl, rfl, rfl, hkr, ps, xs, hrow, hol, hrd, hkw, hps⟩ := hrel
            have hszr := hkw.size
            have hrlt := hrd.lt
            have CS := Lib.hid (some_any hrd (fun j hj => by omega) (by omega))
            have HRW := Lib.hid hrow
            have HOL := Lib.hid hol
            have HKW := Lib.hid hkw
            have HPS := Lib.hid hps
            clear hrow hol hrd hkw hps
            by_cases hr0 : 0 < r
            · have hr0' : (0 : Int) < (r : Int) := by omega
              go_wp2_with fail
              refine CS.out.mono ?_
              rintro e w5 ⟨d, Ad, cd, rfl, hd7, ho5, hr5, hk5⟩
              have hs5 := hk5.size
              have HR5 := Lib.hid hr5
              have HK5 := Lib.hid hk5
              have HRW5 := Lib.hid (HRW.out.kept mvB hk5 fun j hj _ _ e => by omega)
              have HEL : Hid (ElB (fun j => wr.heap.size ≤ j) w5 [.slice Ad d.length cd] d) := Lib.hid ⟨Ad, cd, rfl, own_cap ho5, (own_bytes ho5).mono fun j _ e => (own_block_lt ho5 e).1⟩
              clear hr5 hk5 CS ho5
              go_wp2_with (at_builtin; refine wpList_append_gen _ rfl (.tmp 46) (.tmp 49) 23 rfl (w.heap.size + 1) 31 ib _ 1 24 Tryd.underlying23 hib hb0 hb1 hb2 rfl (by omega) _ k xs rfl (HRW5.out.own.alloc _) (some ⟨w5.heap.size, 0, none⟩) 1 1 [.slice Ad d.length cd] rfl (by rfl) ((Blk.new w5 31 #[.slice Ad d.length cd]).news 1) (by simp [Value.oneCell']) (by unfold maxLen; omega) (by omega) (by simp; omega) ?_)
              intro A9 c9 wz hap
              have HIn := Lib.hid (dw_next (w := w) (x := d) HRW.out HOL.out HKW.out HPS.out HK5.out HR5.out ((Kept.refl (fun _ => False) _).alloc _) hap rfl HEL.out hd7 hrlt)
              clear hap
              go_wp2_with fail
              go_roundg (r - 1)
              case measure => omega
              case rel => exact ⟨r - 1, k + 1, A9, c9, by omega, by go_num, rfl, by omega, HIn.out⟩
            · have hr0' : ¬ (0 : Int) < (r : Int) := by omega
              clear CS
              have HPO := Lib.hid (dw_done HRW.out HOL.out HKW.out HPS.out hnl HLB.out (by omega))
              go_wp2_with fail
              go_ret2
              exact HPO.out
      · have hn0' : ¬ (0 : Int) < (n : Int) := by omega
        have CK := Lib.hid (one_new (q := 1 + n) (HRL.out.alloc (.cells #[] 31)) (by omega) [3, 2, 4, 1, 0] 5 5 3 rfl (by omega) (by omega) #[.int .i64 3, .int .i64 2, .int .i64 4, .int .i64 1, .int .i64 0] rfl (wr.heap.size + 1) (by simp))
        have hwl13 : w.heap.size + 1 ≤ wr.heap.size := by omega
        go_wp2_with fail
        refine CK.out.mono ?_
        rintro e w4 ⟨z0, hz0', rfl, hr4, hk4⟩
        obtain ⟨m2, rfl, hm2⟩ : ∃ m : Nat, z0 = (m : Int) ∧ m ≤ 4 := by
          simp at hz0'
          rcases hz0' with rfl | rfl | rfl | rfl | rfl
          · exact ⟨3, rfl, by omega⟩
          · exact ⟨2, rfl, by omega⟩
          · exact ⟨4, rfl, by omega⟩
          · exact ⟨1, rfl, by omega⟩
          · exact ⟨0, rfl, by omega⟩
        have HI0 : Hid (DWInv w Al n cl lims 0 (some ⟨wr.heap.size, 0, none⟩) 0 w4) := Lib.hid ⟨[], [], (ElRow.empty 31 wr (w.heap.size + 1) _ (by omega) (fun hX => by have := (own_block_lt HOL.out hX).2; omega)).kept mvB hk4 (fun j hj _ _ e => by omega), own_kept (HOL.out.alloc _) hk4 (fun g hg _ e => by omega), hr4.mono (by omega), (HKL.out.alloc _).trans hk4 (fun _ _ e => e), fun p hp => by cases hp⟩
        clear hz0' hr4 hk4 CK HKL HOL HRL
        go_wp2_with fail
        go_loopg [7, 8] m2 (fun f v i wr => ∃ (r k : Nat) (A' : Option Addr) (c' : Nat), r = f ∧ i = .int .i64 r ∧ v = .slice A' k c' ∧ k + r ≤ 4 ∧ DWInv w Al n cl lims k A' c' wr)
        case atStart => exact ⟨m2, 0, _, 0, rfl, rfl, rfl, by omega, HI0.out⟩
        case round =>
          obtain ⟨r, k, A', c', rfl, rfl, rfl, hkr, ps, xs, hrow, hol, hrd, hkw, hps⟩ := hrel
          have hszr := hkw.size
          have hrlt := hrd.lt
          have CS := Lib.hid (some_any hrd (fun j hj => by omega) (by omega))
          have HRW := Lib.hid hrow
          have HOL := Lib.hid hol
          have HKW := Lib.hid hkw
          have HPS := Lib.hid hps
          clear hrow hol hrd hkw hps
          by_cases hr0 : 0 < r
          · have hr0' : (0 : Int) < (r : Int) := by omega
            go_wp2_with fail
            refine CS.out.mono ?_
            rintro e w5 ⟨d, Ad, cd, rfl, hd7, ho5, hr5, hk5⟩
            have hs5 := hk5.size
            have HR5 := Lib.hid hr5
            have HK5 := Lib.hid hk5
            have HRW5 := Lib.hid (HRW.out.kept mvB hk5 fun j hj _ _ e => by omega)
            have HEL : Hid (ElB (fun j => wr.heap.size ≤ j) w5 [.slice Ad d.length cd] d) := Lib.hid ⟨Ad, cd, rfl, own_cap ho5, (own_bytes ho5).mono fun j _ e => (own_block_lt ho5 e).1⟩
            clear hr5 hk5 CS ho5
            go_wp2_with (at_builtin; refine wpList_append_gen _ rfl (.tmp 46) (.tmp 49) 23 rfl (w.heap.size + 1) 31 ib _ 1 24 Tryd.underlying23 hib hb0 hb1 hb2 rfl (by omega) _ k xs rfl (HRW5.out.own.alloc _) (some ⟨w5.heap.size, 0, none⟩) 1 1 [.slice Ad d.length cd] rfl (by rfl) ((Blk.new w5 31 #[.slice Ad d.length cd]).news 1) (by simp [Value.oneCell']) (by unfold maxLen; omega) (by omega) (by simp; omega) ?_)
            intro A9 c9 wz hap
            have HIn := Lib.hid (dw_next (w := w) (x := d) HRW.out HOL.out HKW.out HPS.out HK5.out HR5.out ((Kept.refl (fun _ => False) _).alloc _) hap rfl HEL.out hd7 hrlt)
            clear hap
            go_wp2_with fail
            go_roundg (r - 1)
            case measure => omega
            case rel => exact ⟨r - 1, k + 1, A9, c9, by omega, by go_num, rfl, by omega, HIn.out⟩
          · have hr0' : ¬ (0 : Int) < (r : Int) := by omega
            clear CS
            have HPO := Lib.hid (dw_done HRW.out HOL.out HKW.out HPS.out hnl HLB.out (by omega))
            go_wp2_with fail
            go_ret2
            exact HPO.out

end Go.Proofs.YtmoecjhlonokfaaDoor
