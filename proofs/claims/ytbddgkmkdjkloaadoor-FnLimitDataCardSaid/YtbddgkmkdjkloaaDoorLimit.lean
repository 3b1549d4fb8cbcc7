/- impl.Limit and impl.Limited over a valid source. -/
import Derived.Test.YtbddgkmkdjkloaaDoorScript
import Derived.Test.YtbddgkmkdjkloaaDoorLim
import Derived.Test.YtbddgkmkdjkloaaDoorSLimit
import Derived.Deep.QuietTactic
import Derived.BigQuiet
set_option linter.unusedVariables false
set_option linter.unusedSimpArgs false
namespace Go.Proofs.YtbddgkmkdjkloaaDoor
open Go.RowKit

set_option maxHeartbeats 1000000 in
set_option maxRecDepth 100000 in
theorem implLimit_any {B : Nat} {S S1 : Nat → Prop} {w : World} {E : Nat → Addr} (hE : Errs B w E) (hBw : B ≤ w.heap.size) {A A1 : Option Addr} {st : List (List Int × Int)} {L : Int} {zs : List Int} (c c1 : Nat) (h : RecsAt S w A st)
    (hn : st.length * 32 ≤ 140737488355328) (hd : ∀ i, i < st.length → (dat st i).length ≤ 140737488355328) (hv : Valid L st) (hL : st = [] → L = 1) (hz : IntsAt S1 w A1 zs) (hzs : SizesOK zs) (hzn : zs.length * 32 ≤ 140737488355328) (n0 : Int) (hn0 : -9223372036854775808 ≤ n0) (hn1 : n0 ≤ 9223372036854775807) :
    Calls Tryd.prog 17 #[.agg #[.slice A st.length c], .int .i64 n0, .slice A1 zs.length c1] w (GotsPost (runs (limStep (rd L)) zs (st, n0)).1 w) := by
  have C := fun (o1 : Obj) => Lib.hid (newReader_src c (h.alloc o1) hn hd hv hL)
  have HE := Lib.hid hE
  have HZ := Lib.hid (hz.mono (S' := (· < w.heap.size)) fun k hk _ => hk)
  have HZS := Lib.hid hzs
  clear h hd hv hL hE hz hzs
  go_enter Tryd.func17, Tryd.ntmps17
  go_wp2_with fail
  refine (C _).out.mono ?_
  rintro e w1 hnew
  obtain ⟨b, g, F, rfl, hI, hF, hFb, hbel⟩ := srcI_new (B := B) hnew (by simp; omega)
  have hb1 : Below w.heap.size w w1 := ((Below.refl _ _).alloc (Nat.le_refl _) _).trans (hbel.mono (by simp))
  have hs1 := hbel.size
  simp at hs1 hF
  have R := src_rdr B E L b g
  have hIl := limI_new R hI (show B ≤ w1.heap.size by omega) n0 hn0 hn1
  have hbl : Below w.heap.size w (w1.alloc (.cells #[.iface 57 (.pointer (some ⟨b, 0, none⟩)), .int .i64 n0] 71)) := hb1.alloc (by omega) _
  have hEl := HE.out.below (hbl.mono hBw)
  have C2 := script_any (lim_rdr R w1.heap.size).weak hEl (by simp; omega) hIl c1 (HZ.out.below hbl) (fun k hk hF' => by
    rcases hF' with h | h
    · have := (hF k h).1; omega
    · omega) HZS.out hzn
  have HF := Lib.hid hF
  have HBL := Lib.hid hbl
  have C2' := Lib.hid C2
  clear C hnew hI hF hFb hbel hb1 R hIl hbl hEl C2
  generalize zs.length = len at *
  generalize runs (limStep (rd L)) zs (st, n0) = Q at *
  go_wp2_with fail
  refine (limitReader_any _ _ _ _).mono ?_
  rintro e w2 ⟨rfl, rfl⟩
  go_wp2_with fail
  refine C2'.out.mono ?_
  rintro e w3 ⟨A3, c3, F3, rfl, hc3, hr3, _, _, hk3⟩
  have HP : Hid (GotsPost Q.1 w (.returned (.slice A3 Q.1.length c3)) w3) := Lib.hid ⟨A3, c3, rfl, hc3, hr3.mono (fun k _ hk => by have := hk.1; simp at this; omega), HBL.out.trans (hk3.below HBL.out.size fun i hi hD => by
    rcases hD with h | h
    · have := (HF.out i h).1; omega
    · omega)⟩
  clear hr3 hk3 C2'
  go_wp2_with fail
  go_ret
  exact HP.out

set_option maxHeartbeats 1000000 in
set_option maxRecDepth 100000 in
theorem implLimited_any {B : Nat} {S S1 : Nat → Prop} {w : World} {E : Nat → Addr} (hE : Errs B w E) (hBw : B ≤ w.heap.size) {A A1 : Option Addr} {st : List (List Int × Int)} {L : Int} {zs : List Int} (c c1 : Nat) (h : RecsAt S w A st)
    (hn : st.length * 32 ≤ 140737488355328) (hd : ∀ i, i < st.length → (dat st i).length ≤ 140737488355328) (hv : Valid L st) (hL : st = [] → L = 1) (hz : IntsAt S1 w A1 zs) (hzs : SizesOK zs) (hzn : zs.length * 32 ≤ 140737488355328) (n0 : Int) (hn0 : -9223372036854775808 ≤ n0) (hn1 : n0 ≤ 9223372036854775807) :
    Calls Tryd.prog 24 #[.agg #[.slice A st.length c], .int .i64 n0, .slice A1 zs.length c1] w (LimPost (runs (limStep (rd L)) zs (st, n0)).1 (runs (limStep (rd L)) zs (st, n0)).2.2 w) := by
  have C := fun (o1 : Obj) => Lib.hid (newReader_src c (h.alloc o1) hn hd hv hL)
  have HE := Lib.hid hE
  have HZ := Lib.hid (hz.mono (S' := (· < w.heap.size)) fun k hk _ => hk)
  have HZS := Lib.hid hzs
  clear h hd hv hL hE hz hzs
  go_enter Tryd.func24, Tryd.ntmps24
  go_wp2_with fail
  refine (C _).out.mono ?_
  rintro e w1 hnew
  obtain ⟨b, g, F, rfl, hI, hF, hFb, hbel⟩ := srcI_new (B := B) hnew (by simp; omega)
  have hb1 : Below w.heap.size w w1 := ((Below.refl _ _).alloc (Nat.le_refl _) _).trans (hbel.mono (by simp))
  have hs1 := hbel.size
  simp at hs1 hF
  have R := src_rdr B E L b g
  have hIl := limI_new R hI (show B ≤ w1.heap.size by omega) n0 hn0 hn1
  have hbl : Below w.heap.size w (w1.alloc (.cells #[.iface 57 (.pointer (some ⟨b, 0, none⟩)), .int .i64 n0] 71)) := hb1.alloc (by omega) _
  have hEl := HE.out.below (hbl.mono hBw)
  have C2 := script_any (lim_rdr R w1.heap.size).weak hEl (by simp; omega) hIl c1 (HZ.out.below hbl) (fun k hk hF' => by
    rcases hF' with h | h
    · have := (hF k h).1; omega
    · omega) HZS.out hzn
  have HF := Lib.hid hF
  have HBL := Lib.hid hbl
  have C2' := Lib.hid C2
  clear C hnew hI hF hFb hbel hb1 R hIl hbl hEl C2
  generalize zs.length = len at *
  generalize runs (limStep (rd L)) zs (st, n0) = Q at *
  go_wp2_with fail
  refine C2'.out.mono ?_
  rintro e w3 ⟨A3, c3, F3, rfl, hc3, hr3, hI3, _, hk3⟩
  obtain ⟨F0, _, hb3, _⟩ := hI3
  have y := hb3.cell 1
  simp at y
  have HP : Hid (∀ q, LimPost Q.1 Q.2.2 w (.returned (.tuple #[.slice A3 Q.1.length c3, .int .i64 Q.2.2])) (w3.drewN q)) := Lib.hid fun q => ⟨A3, c3, rfl, hc3, (hr3.mono (fun k _ hk => by have := hk.1; simp at this; omega)).drewN q, below_drewN (HBL.out.trans (hk3.below HBL.out.size fun i hi hD => by
    rcases hD with h | h
    · have := (HF.out i h).1; omega
    · omega)) q⟩
  clear hr3 hk3 C2' hb3
  go_wp2_with fail
  go_quiet (fail)
  go_wp2_with fail
  go_ret2
  exact HP.out _

end Go.Proofs.YtbddgkmkdjkloaaDoor
