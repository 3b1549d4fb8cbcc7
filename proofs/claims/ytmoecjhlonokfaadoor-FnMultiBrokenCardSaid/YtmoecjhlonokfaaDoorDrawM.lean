/- The reference's own draws: the arguments of Multi. -/
import Derived.Test.YtmoecjhlonokfaaDoorDraw0
import Derived.Test.YtmoecjhlonokfaaDoorSizes
import Derived.Test.YtmoecjhlonokfaaDoorSource
import Derived.Test.YtmoecjhlonokfaaDoorEls
set_option linter.unusedVariables false
set_option linter.unusedSimpArgs false
namespace Go.Proofs.YtmoecjhlonokfaaDoor
open Go.RowKit

theorem infoSrc : (Tryd.prog.info? 53).map (fun i => (i.zero, i.size, i.bytes)) = some (some (.agg #[.slice none 0 0]), 1, 24) := by kernel_rfl

/-- the drawer, just made over the bytes of an input -/
theorem rd_newM {S : Nat → Prop} {w : World} {A : Option Addr} {l : List Int} (c : Nat) (h : BytesAt S w A l) (hl : l.length ≤ 1048576) (hb : ∀ j, j < l.length → 0 ≤ nth l j ∧ nth l j ≤ 255) :
    RdAt (· < w.heap.size) (w.alloc (.cells #[.slice A l.length c, .int .i64 0] 73)) w.heap.size 0 :=
  ⟨A, c, 0, l, Blk.new w _ _, (h.mono fun k hk _ => hk).alloc _, hl, Nat.le_refl _, hb, fun k hk => by omega⟩

/-- a small source -/
def SmallSrc (st : List (List Int × Int)) : Prop := st.length ≤ 6 ∧ ∀ i, i < st.length → (dat st i).length ≤ 700

/-- sources and sizes, in new memory -/
def DrawMPost (w : World) (e : Ending) (w' : World) : Prop :=
  ∃ (ss : List (List (List Int × Int))) (A : Option Addr) (c : Nat) (zs : List Int) (A1 : Option Addr) (c1 : Nat), e = .returned (.tuple #[.slice A ss.length c, .slice A1 zs.length c1]) ∧ ss.length ≤ 5 ∧ (∀ st ∈ ss, SmallSrc st) ∧ zs.length ≤ 1000 ∧ ss.length ≤ c ∧
    ElsAt ElS 1 (fun j => w.heap.size ≤ j) w' A ss ∧ IntsAt (fun j => w.heap.size ≤ j) w' A1 zs ∧ Below w.heap.size w w'

/-- what holds at the head of a round -/
def DMInv (w : World) (k : Nat) (A' : Option Addr) (c' : Nat) (ss : List (List (List Int × Int))) (xs : List Value) (wr : World) : Prop :=
  ElRow ElS 1 53 (w.heap.size + 1) (fun _ => False) wr A' k c' ss xs ∧ RdAt (· < w.heap.size) wr w.heap.size (1 + 4302 * k) ∧ Kept (· = w.heap.size) w wr ∧ ∀ st ∈ ss, SmallSrc st

theorem dm_next {w wr w5 w4 : World} {A' A2 Ai : Option Addr} {k c' c2 ci : Nat} {ss : List (List (List Int × Int))} {xs : List Value} {n : Nat} {x : List (List Int × Int)} {o : Obj} (hn : x.length = n) (h : DMInv w k A' c' ss xs wr) (hk : Kept (· = w.heap.size) wr w5) (hr : RdAt (· < w.heap.size) w5 w.heap.size (1 + 4302 * k + 4302))
    (hap : Appended (w.heap.size + 1) 53 1 A2 (k + 1) c2 (xs ++ [.slice Ai n ci]) (Value.slice A' k c').ownBlock (w5.alloc o) w4) (hci : n ≤ ci) (hd : RecsAt (fun j => wr.heap.size ≤ j) w5 Ai x) (hx : SmallSrc x) (hlt : w.heap.size < wr.heap.size) : DMInv w (k + 1) A2 c2 (ss ++ [x]) (xs ++ [.slice Ai n ci]) w4 := by
  subst hn
  obtain ⟨hrow, _, hkw, hss⟩ := h
  have hlo : ∀ j, (Value.slice A' k c').ownBlock = some j → w.heap.size + 1 ≤ j ∧ j < wr.heap.size := fun j e => own_block_lt hrow.own e
  have hz := hk.size
  have hzw := hkw.size
  have hw0 : Kept (fun _ => False) w5 (w5.alloc o) := (Kept.refl _ _).alloc o
  have hr5 := hrow.kept mvS hk fun j hj _ _ e => by omega
  have hn := ElRow.snoc (x := x) mvS (by omega) hr5 hw0 hap (fun j hj hf => hf) rfl (mvS.mv (S := fun j => wr.heap.size ≤ j) ⟨Ai, ci, rfl, hci, hd⟩ (Nat.le_refl _) fun j _ hj => ⟨⟨by omega, fun e => by have := (hlo j e.symm).2; omega, fun hf => hf⟩, rfl⟩)
  refine ⟨hn, ?_, ?_, fun p hp => ?_⟩
  · refine ((hr.mono (by omega)).kept hw0 fun _ _ _ hf => hf).kept hap.kept fun j _ hj e => ?_
    have := (hlo j e.symm).1
    rcases hj with h | h <;> omega
  · exact ((hkw.trans hk fun _ _ e => e).trans hw0 fun _ _ hf => hf.elim).trans hap.kept fun j hj e => by have := (hlo j e.symm).1; omega
  · rcases List.mem_append.1 hp with h | h
    · exact hss p h
    · rw [List.mem_singleton.1 h]; exact hx

theorem dm_done {w wr w' : World} {A' A1 : Option Addr} {k c' c1 : Nat} {ss : List (List (List Int × Int))} {xs : List Value} {zs : List Int} (h : DMInv w k A' c' ss xs wr) (hk : k ≤ 5) (hkz : Kept (· = w.heap.size) wr w') (hz : zs.length ≤ 1000) (hI : IntsAt (fun j => w.heap.size ≤ j) w' A1 zs) :
    DrawMPost w (.returned (.tuple #[.slice A' k c', .slice A1 zs.length c1])) w' := by
  obtain ⟨hrow, _, hkw, hss⟩ := h
  have h2 := hrow.len
  subst h2
  have hr := hrow.kept mvS hkz fun j hj _ _ e => by omega
  exact ⟨ss, A', c', zs, A1, c1, rfl, hk, hss, hz, own_cap hrow.own, (hr.els mvS).mono mvS (fun j _ hj => by omega), hI, (hkw.trans hkz fun _ _ e => e).below (Nat.le_refl _) fun j hj e => by omega⟩

set_option maxHeartbeats 4000000 in
set_option maxRecDepth 100000 in
theorem drawMulti_any {S : Nat → Prop} {w : World} {A : Option Addr} {l : List Int} (c : Nat) (h : BytesAt S w A l) (hl : l.length ≤ 1048576) (hb : ∀ j, j < l.length → 0 ≤ nth l j ∧ nth l j ≤ 255) :
    Calls Tryd.prog 24 #[.slice A l.length c] w (DrawMPost w) := by
  obtain ⟨is, his, hq0, hq1, hq2⟩ := info_parts infoSrc
  have HR := Lib.hid ((rd_newM c h hl hb).alloc (.cells #[] 53))
  have C1 := Lib.hid (one_new HR.out (by omega) [2, 3, 1, 0, 5] 5 5 3 rfl (by omega) (by omega) #[.int .i64 2, .int .i64 3, .int .i64 1, .int .i64 0, .int .i64 5] rfl (w.heap.size + 2) (by simp))
  have HO : Hid (ElRow ElS 1 53 (w.heap.size + 1) (fun _ => False) ((w.alloc (.cells #[.slice A l.length c, .int .i64 0] 73)).alloc (.cells #[] 53)) (some ⟨w.heap.size + 1, 0, none⟩) 0 0 [] []) := Lib.hid (by
    have := ElRow.empty (El := ElS) (size := 1) 53 (w.alloc (.cells #[.slice A l.length c, .int .i64 0] 73)) (w.heap.size + 1) (fun _ => False) (by simp) (fun hf => hf)
    simpa using this)
  have HK : Hid (Kept (· = w.heap.size) w ((w.alloc (.cells #[.slice A l.length c, .int .i64 0] 73)).alloc (.cells #[] 53))) := Lib.hid (((Kept.refl _ w).alloc _).alloc _)
  have hlim0 : w.heap.size + 2 ≤ ((w.alloc (.cells #[.slice A l.length c, .int .i64 0] 73)).alloc (.cells #[] 53)).heap.size := by simp
  clear h hl hb HR
  generalize l.length = len at *
  go_enter Tryd.func24, Tryd.ntmps24
  go_wp2_with fail
  generalize hwx : (w.alloc (.cells #[.slice A len c, .int .i64 0] 73)).alloc (.cells #[] 53) = wx at *
  clear hwx
  refine C1.out.mono ?_
  rintro e w2 ⟨z, hz, rfl, hr2, hk2⟩
  obtain ⟨m, rfl, hm⟩ : ∃ m : Nat, z = (m : Int) ∧ m ≤ 5 := by
    simp at hz
    rcases hz with rfl | rfl | rfl | rfl | rfl
    · exact ⟨2, rfl, by omega⟩
    · exact ⟨3, rfl, by omega⟩
    · exact ⟨1, rfl, by omega⟩
    · exact ⟨0, rfl, by omega⟩
    · exact ⟨5, rfl, by omega⟩
  have hs2' := hk2.size
  have HD0 : Hid (DMInv w 0 (some ⟨w.heap.size + 1, 0, none⟩) 0 [] [] w2) := Lib.hid ⟨HO.out.kept mvS hk2 fun j hj _ _ e => by omega, hr2.mono (by omega), HK.out.trans hk2 fun _ _ e => e, fun st hst => by cases hst⟩
  clear hz hr2 hk2 C1 HO HK
  go_wp2_with fail
  go_loopg [5, 6] m (fun f v i wr => ∃ (r k : Nat) (A' : Option Addr) (c' : Nat) (ss : List (List (List Int × Int))) (xs : List Value), r = f ∧ i = .int .i64 r ∧ v = .slice A' k c' ∧ k + r ≤ 5 ∧ Hid (DMInv w k A' c' ss xs wr))
  case atStart => exact ⟨m, 0, _, 0, [], [], rfl, rfl, rfl, by omega, HD0⟩
  case round =>
    clear HD0
    obtain ⟨r, k, A', c', ss, xs, rfl, rfl, rfl, hkr, HD⟩ := hrel
    have hszr := HD.out.2.2.1.size
    have hrlt := HD.out.2.1.lt
    have hk5 : k ≤ 5 := by omega
    by_cases hr0 : 0 < r
    · have hr0' : (0 : Int) < (r : Int) := by omega
      have C5 := Lib.hid (source_any HD.out.2.1 (fun j hj => by omega) (by omega))
      go_wp2_with fail
      refine C5.out.mono ?_
      rintro e w2 ⟨st, Ai, ci, ys, rfl, hl6, hd7, hrow, hrd, hkp⟩
      have hs2 := hkp.size
      have hcap := own_cap hrow.own
      have HSM : Hid (∀ i, i < st.length → (dat st i).length ≤ 700) := Lib.hid hd7
      have HLN : Hid (st.length ≤ 6) := Lib.hid hl6
      generalize hn : st.length = n at *
      have HN := Lib.hid hn
      have HRW : Hid (RowAt 92 wr.heap.size (fun _ => False) w2 Ai n ci st ys) := Lib.hid hrow
      have HRD : Hid (RdAt (· < w.heap.size) w2 w.heap.size (1 + 4302 * k + 4300)) := Lib.hid hrd
      have HKP : Hid (Kept (· = w.heap.size) wr w2) := Lib.hid hkp
      clear hd7 hrow hrd hkp C5 hn
      by_cases hst0 : 0 < n
      · have hst0' : (0 : Int) < (n : Int) := by omega
        obtain ⟨g, cur0, rfl, hg1, hg2, _, _, _⟩ := HRW.out.pos hst0
        have CP := Lib.hid (pick_any (HRD.out.alloc (.cells #[.slice (some ⟨g, 0, none⟩) n ci] 53)) (by omega) 4 (by omega) (by omega))
        go_wp2_with fail
        refine CP.out.mono ?_
        rintro e w3 ⟨p4, hp4, rfl, hr3, hk3⟩
        have hs3 : w2.heap.size + 1 ≤ w3.heap.size := by have := hk3.size; simpa using this
        have HR3 : Hid (RdAt (· < w.heap.size) w3 w.heap.size (1 + 4302 * k + 4300 + 1)) := Lib.hid hr3
        have HW3 : Hid (RowAt 92 wr.heap.size (fun _ => False) w3 (some ⟨g, 0, none⟩) n ci st ys) := Lib.hid ((HRW.out.alloc _).kept hk3 fun j hj _ _ e => by omega)
        have HB3 : Hid (Blk w3 w2.heap.size 53 #[.slice (some ⟨g, 0, none⟩) n ci]) := Lib.hid ((Blk.new w2 _ _).kept hk3 (by omega))
        have HK3 : Hid (Kept (· = w.heap.size) wr w3) := Lib.hid ((HKP.out.alloc _).trans hk3 fun _ _ e => e)
        have c3 := HB3.out.cell 0
        simp at c3
        clear hr3 hk3 CP HRW HRD HKP
        by_cases hp0 : 0 < p4
        · have hp0' : (0 : Int) < (p4 : Int) := by omega
          obtain ⟨g', cur, eg, _, _, _, hgb, hgs⟩ := HW3.out.pos hst0
          obtain rfl : g = g' := by injection eg with eg; injection eg
          clear eg
          have HCO := Lib.hid (one_new HR3.out.drew (by omega) [0, 1] 2 2 3 rfl (by omega) (by omega) #[.int .i64 0, .int .i64 1] rfl w3.heap.size rfl)
          have HGB := Lib.hid hgb
          obtain ⟨k1, hk1⟩ : ∃ k1, n = k1 + 1 := ⟨n - 1, by omega⟩
          obtain ⟨y, hy⟩ : ∃ y, cur[k1 * 2 + 1]? = some y := ⟨_, Array.getElem?_eq_getElem (by omega)⟩
          have h2 : (0 : Int) ≤ (k1 : Int) := by omega
          have h3 : (n : Int) - 1 = (k1 : Int) := by omega
          have h4 : IntKind.i64.wrap (k1 : Int) = (k1 : Int) := by rw [IntWalk.i64_left, IntWalk.wrap64_in _ (by omega)]
          have h5 : (k1 : Int) < (n : Int) := by omega
          have hgr : g ≠ w.heap.size := by omega
          have hgw : Hid (g ≠ w2.heap.size) := Lib.hid (by omega)
          have HK1 := Lib.hid hk1
          clear hgb hk1
          go_wp2_with fail
          have hS0 : w3.drew.cell? ⟨w2.heap.size, 0, none⟩ = some (.slice (some ⟨g, 0, none⟩) n ci) := c3
          refine wp_region_R (S := fun w' => w'.cell? ⟨w2.heap.size, 0, none⟩ = some (.slice (some ⟨g, 0, none⟩) n ci)) (late := 11) (by kernel_rfl) ?_
          refine wpAnyR_take (i := 0) (v := ?_) rfl (by kernel_rfl) (by kernel_rfl) (by kernel_rfl) (by kernel_rfl) (fun _ _ _ h => h) hS0 (Or.inl ⟨by rfl, fun w hSw => ?_⟩) ?_
          rotate_left
          · (dsimp only at hSw; go_simp; try (with_reducible rfl))
          simp only [Act.put, List.setIfInBounds_toArray, List.set_cons_zero, List.set_cons_succ]
          refine wpAnyR_take (i := 1) (v := ?_) rfl (by kernel_rfl) (by kernel_rfl) (by kernel_rfl) (by kernel_rfl) (fun _ _ _ h => h) hS0 (Or.inl ⟨by rfl, fun w hSw => ?_⟩) ?_
          rotate_left
          · (dsimp only at hSw; go_simp; try (with_reducible rfl))
          simp only [Act.put, List.setIfInBounds_toArray, List.set_cons_zero, List.set_cons_succ]
          refine wpAnyR_take (i := 2) (v := ?_) rfl (by kernel_rfl) (by kernel_rfl) (by kernel_rfl) (by kernel_rfl) (fun _ _ _ h => h) hS0 (Or.inl ⟨by rfl, fun w hSw => ?_⟩) ?_
          rotate_left
          · (dsimp only at hSw; go_simp; try (with_reducible rfl))
          simp only [Act.put, List.setIfInBounds_toArray, List.set_cons_zero, List.set_cons_succ]
          refine wpAnyR_take (i := 3) (v := ?_) rfl (by kernel_rfl) (by kernel_rfl) (by kernel_rfl) (by kernel_rfl) (fun _ _ _ h => h) hS0 (Or.inl ⟨by rfl, fun w hSw => ?_⟩) ?_
          rotate_left
          · (dsimp only at hSw; go_simp; try (with_reducible rfl))
          simp only [Act.put, List.setIfInBounds_toArray, List.set_cons_zero, List.set_cons_succ]
          refine wpAnyR_take (i := 4) (v := ?_) rfl (by kernel_rfl) (by kernel_rfl) (by kernel_rfl) (by kernel_rfl) (fun _ _ _ h => h) hS0 (Or.inl ⟨by rfl, fun w hSw => ?_⟩) ?_
          rotate_left
          · (dsimp only at hSw; go_simp; try (with_reducible rfl))
          simp only [Act.put, List.setIfInBounds_toArray, List.set_cons_zero, List.set_cons_succ]
          refine wpAnyR_take (i := 5) (v := ?_) rfl (by kernel_rfl) (by kernel_rfl) (by kernel_rfl) (by kernel_rfl) (fun _ _ _ h => h) hS0 (Or.inl ⟨by rfl, fun w hSw => ?_⟩) ?_
          rotate_left
          · (dsimp only at hSw; go_simp; try (with_reducible rfl))
          simp only [Act.put, List.setIfInBounds_toArray, List.set_cons_zero, List.set_cons_succ]
          refine wpAnyR_take (i := 6) (v := ?_) rfl (by kernel_rfl) (by kernel_rfl) (by kernel_rfl) (by kernel_rfl) (fun _ _ _ h => h) hS0 (Or.inl ⟨by rfl, fun w hSw => ?_⟩) ?_
          rotate_left
          · (dsimp only at hSw; go_simp; try (with_reducible rfl))
          simp only [Act.put, List.setIfInBounds_toArray, List.set_cons_zero, List.set_cons_succ]
          refine wpAnyR_one (k := 7) rfl (by kernel_rfl) (fun K hK => ?_)
          go_simp
          have v0 := fun o => (World.cell?_alloc_lt w3.drew (a := ⟨w2.heap.size, 0, none⟩) o (by show w2.heap.size < w3.heap.size; omega)).trans hS0
          refine hK.out _ _ (fun hne => v0 _) ?_
          clear hK K
          try simp only [Act.put, List.setIfInBounds_toArray, List.set_cons_zero, List.set_cons_succ]
          refine wpAnyR_one (k := 8) rfl (by kernel_rfl) (fun K hK => ?_)
          go_simp
          go_at_call 30
          refine HCO.out.mono ?_
          rintro e w5 ⟨z, hz, rfl, hr5, hk5'⟩
          have v1 := (hk5'.cell (p := ⟨w2.heap.size, 0, none⟩) (by show w2.heap.size < w3.heap.size; omega) (by simp; omega)).trans c3
          have G5 := HGB.out.drew.kept hk5' (by omega)
          have g5 := (G5.cell (k1 * 2 + 1)).trans hy
          have f5 := G5.frozen (k1 * 2 + 1)
          have HR5 := Lib.hid hr5
          have HK5 := Lib.hid hk5'
          clear hr5 hk5' G5
          refine hK.out _ _ (fun hne => v1) ?_
          clear hK K
          try simp only [Act.put, List.setIfInBounds_toArray, List.set_cons_zero, List.set_cons_succ]
          refine wpAnyR_one (k := 9) rfl (by kernel_rfl) (fun K hK => ?_)
          go_simp
          refine hK.out _ _ (fun hne => v1) ?_
          clear hK K
          try simp only [Act.put, List.setIfInBounds_toArray, List.set_cons_zero, List.set_cons_succ]
          refine wpAnyR_one (k := 10) rfl (by kernel_rfl) (fun K hK => ?_)
          go_simp
          refine hK.out _ _ (fun hne => v1) ?_
          clear hK K
          try simp only [Act.put, List.setIfInBounds_toArray, List.set_cons_zero, List.set_cons_succ]
          refine wpAnyR_one (k := 11) rfl (by kernel_rfl) (fun K hK => ?_)
          go_simp
          refine hK.out _ _ (fun hne => absurd rfl hne) ?_
          clear hK K
          try simp only [Act.put, List.setIfInBounds_toArray, List.set_cons_zero, List.set_cons_succ]
          refine wpAnyR_done (by kernel_rfl) ?_ _
          have hs5 : w3.heap.size ≤ w5.heap.size := HK5.out.size
          have HW6 : Hid (RowAt 92 wr.heap.size (fun _ => False) (w5.setCell ⟨g, k1 * 2 + 1, none⟩ (.int .i64 z)) (some ⟨g, 0, none⟩) n ci (st.set k1 (dat st k1, z)) (ys.set (k1 * 2 + 1) (.int .i64 z))) := Lib.hid ((HW3.out.drew.kept HK5.out fun j hj _ _ e => by omega).setErr (by have := HK1.out; omega))
          have HB6 : Hid (Blk (w5.setCell ⟨g, k1 * 2 + 1, none⟩ (.int .i64 z)) w2.heap.size 53 #[.slice (some ⟨g, 0, none⟩) n ci]) := Lib.hid ((HB3.out.drew.kept HK5.out (by omega)).far (fun e => hgw.out e.symm) _)
          have HR6 : Hid (RdAt (· < w.heap.size) (w5.setCell ⟨g, k1 * 2 + 1, none⟩ (.int .i64 z)) w.heap.size (1 + 4302 * k + 4300 + 1 + 1)) := Lib.hid (HR5.out.kept ((Kept.refl (· = g) _).setCell (p := ⟨g, k1 * 2 + 1, none⟩) (fun _ => rfl) _) fun j hj hS' e => by
            rcases hS' with h | h <;> omega)
          have HK6 : Hid (Kept (· = w.heap.size) wr (w5.setCell ⟨g, k1 * 2 + 1, none⟩ (.int .i64 z))) := Lib.hid ((HK3.out.drew.trans HK5.out fun _ _ e => e).setCell (p := ⟨g, k1 * 2 + 1, none⟩) (fun hh => by have : g < wr.heap.size := hh; omega) _)
          have HSM6 : Hid (SmallSrc (st.set k1 (dat st k1, z))) := Lib.hid ⟨by rw [List.length_set, HN.out]; exact HLN.out, fun i hi => by
            have hi' : i < st.length := by simpa using hi
            rw [dat_set hi']; exact HSM.out i (by rw [← HN.out]; exact hi')⟩
          have HN6 : Hid ((st.set k1 (dat st k1, z)).length = n) := Lib.hid (by rw [List.length_set]; exact HN.out)
          clear HCO v0 v1 g5 f5 hS0
          have hs6 : (w5.setCell ⟨g, k1 * 2 + 1, none⟩ (.int .i64 z)).heap.size = w5.heap.size := by simp [World.setCell]
          generalize w5.setCell ⟨g, k1 * 2 + 1, none⟩ (.int .i64 z) = w6 at *
          generalize st.set k1 (dat st k1, z) = st6 at *
          generalize ys.set (k1 * 2 + 1) (.int .i64 z) = ys6 at *
          have hs6' : wr.heap.size ≤ w6.heap.size := HK6.out.size
          have c6 := HB6.out.cell 0
          simp at c6
          clear HR5 HK5 HW3 HB3 HR3 HK3 HGB c3 hy HSM HLN HN hs6
          have HO := Lib.hid (HD.out.1.kept mvS HK6.out fun j hj _ _ e => by omega).own
          go_wp2_with (at_builtin; refine wpList_append_gen _ rfl (.tmp 41) (.tmp 43) 40 rfl (w.heap.size + 1) 53 is _ 1 24 Tryd.underlying40 his hq0 hq1 hq2 rfl (by omega) _ k xs rfl (HO.out.alloc _) (some ⟨w6.heap.size, 0, none⟩) 1 1 [.slice (some ⟨g, 0, none⟩) n ci] rfl (by rfl) ((Blk.new w6 53 #[.slice (some ⟨g, 0, none⟩) n ci]).news 1) (by simp [Value.oneCell']) (by unfold maxLen; omega) (by omega) (by simp; omega) ?_)
          intro A7 c7 w7 hap
          have HD7 := Lib.hid (dm_next HN6.out HD.out HK6.out (HR6.out.mono (by omega)) hap hcap (HW6.out.recs.mono fun j _ hj => hj.1) HSM6.out hrlt)
          clear hap HO
          go_wp2_with fail
          go_roundg (r - 1)
          case measure => omega
          case rel => exact ⟨r - 1, k + 1, A7, c7, _, _, by omega, by go_num, rfl, by omega, HD7⟩
        · have hp0' : ¬ (0 : Int) < (p4 : Int) := by omega
          have HSM3 : Hid (SmallSrc st) := Lib.hid ⟨by rw [HN.out]; exact HLN.out, fun i hi => HSM.out i (by rw [← HN.out]; exact hi)⟩
          have hs3' : wr.heap.size ≤ w3.heap.size := by omega
          have HO := Lib.hid (HD.out.1.kept mvS HK3.out fun j hj _ _ e => by omega).own
          go_wp2_with (at_builtin; refine wpList_append_gen _ rfl (.tmp 41) (.tmp 43) 40 rfl (w.heap.size + 1) 53 is _ 1 24 Tryd.underlying40 his hq0 hq1 hq2 rfl (by omega) _ k xs rfl (HO.out.alloc _) (some ⟨w3.heap.size, 0, none⟩) 1 1 [.slice (some ⟨g, 0, none⟩) n ci] rfl (by rfl) ((Blk.new w3 53 #[.slice (some ⟨g, 0, none⟩) n ci]).news 1) (by simp [Value.oneCell']) (by unfold maxLen; omega) (by omega) (by simp; omega) ?_)
          intro A7 c7 w7 hap
          have HD7 := Lib.hid (dm_next HN.out HD.out HK3.out (HR3.out.mono (by omega)) hap hcap (HW3.out.recs.mono fun j _ hj => hj.1) HSM3.out hrlt)
          clear hap HO
          go_wp2_with fail
          go_roundg (r - 1)
          case measure => omega
          case rel => exact ⟨r - 1, k + 1, A7, c7, _, _, by omega, by go_num, rfl, by omega, HD7⟩
      · have hst0' : ¬ (0 : Int) < (n : Int) := by omega
        have HSM2 : Hid (SmallSrc st) := Lib.hid ⟨by rw [HN.out]; exact HLN.out, fun i hi => HSM.out i (by rw [← HN.out]; exact hi)⟩
        have HK2 : Hid (Kept (· = w.heap.size) wr (w2.alloc (.cells #[.slice Ai n ci] 53))) := Lib.hid (HKP.out.alloc _)
        have HBN : Hid (Blk ((w2.alloc (.cells #[.slice Ai n ci] 53)).alloc (.cells #[.slice Ai n ci] 53)) (w2.heap.size + 1) 53 #[.slice Ai n ci]) := Lib.hid (by
          have := Blk.new (w2.alloc (.cells #[.slice Ai n ci] 53)) 53 #[.slice Ai n ci]
          simpa using this)
        have HO := Lib.hid (HD.out.1.kept mvS HK2.out fun j hj _ _ e => by omega).own
        go_wp2_with (at_builtin; refine wpList_append_gen _ rfl (.tmp 41) (.tmp 43) 40 rfl (w.heap.size + 1) 53 is _ 1 24 Tryd.underlying40 his hq0 hq1 hq2 rfl (by omega) _ k xs rfl (HO.out.alloc _) (some ⟨w2.heap.size + 1, 0, none⟩) 1 1 [.slice Ai n ci] rfl (by rfl) (HBN.out.news 1) (by simp [Value.oneCell']) (by unfold maxLen; omega) (by omega) (by simp; omega) ?_)
        intro A7 c7 w7 hap
        have HD7 := Lib.hid (dm_next HN.out HD.out HK2.out ((HRD.out.alloc _).mono (by omega)) hap hcap ((HRW.out.alloc _).recs.mono fun j _ hj => hj.1) HSM2.out hrlt)
        clear hap HO
        go_wp2_with fail
        go_roundg (r - 1)
        case measure => omega
        case rel => exact ⟨r - 1, k + 1, A7, c7, _, _, by omega, by go_num, rfl, by omega, HD7⟩
    · have hr0' : ¬ (0 : Int) < (r : Int) := by omega
      have CZ := Lib.hid (sizes_any HD.out.2.1 (fun j hj => by omega) (by omega))
      go_wp2_with fail
      refine CZ.out.mono ?_
      rintro e w3 ⟨zs, A1, c1, rfl, hz11, hzb, hown, hr3, hk3⟩
      have HF := Lib.hid (dm_done (c1 := c1) HD.out hk5 hk3 (by omega) ((own_ints hown).mono fun j _ e => by have := (own_block_lt hown e).1; omega))
      clear hz11 hzb hown hr3 hk3 CZ HD
      go_wp2_with fail
      refine bodyPost_ret (v := .tuple #[.slice A' k c', .slice A1 zs.length c1]) ?_ rfl HF.out
      simp [results, Tryd.results24, go_sem]

end Go.Proofs.YtmoecjhlonokfaaDoor
