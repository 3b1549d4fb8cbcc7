/- io.LimitReader and the Read of a LimitedReader, over whatever reader. -/
import Derived.Test.YtbddgkmkdjkloaaDoorRdr
set_option linter.unusedVariables false
set_option linter.unusedSimpArgs false
namespace Go.Proofs.YtbddgkmkdjkloaaDoor
open Go.RowKit

theorem nilAhead_lim (a : Addr) (w : World) : (nilAhead 213 69 (.pointer (some a)) "Read").run Tryd.prog w = .ok (some false) w := by kernel_rfl
theorem method_lim (a : Addr) (w : World) : (method 213 69 (.pointer (some a)) "Read").run Tryd.prog w = .ok (59, .pointer (some a)) w := by kernel_rfl

theorem slice_bytes_z (A : Option Addr) (len cap n : Nat) (hn : n ≤ cap) (w : World) :
    (Instr.slice 32 (.slice A len cap) (some (.int .i64 0)) (some (.int .i64 (n : Int))) none).run Tryd.prog w = .ok (.slice A n cap) w := by
  obtain ⟨i0, hi, _, hs, _⟩ := info_parts infoU8
  rw [run_slice_lh (P := Tryd.prog) w 32 A len cap (by rw [elemU8]; exact Tryd.underlying32) .i64 .i64 0 (n : Int) (by omega) (by omega) (by omega)]
  rw [elemU8]
  cases A <;> simp [sizeOf, typeInfo, hi, hs, sliced, Result.andThen, Addr.add]

section
variable {τ : Type} {B : Nat} {E : Nat → Addr} {ty : TypeId} {rb : Nat} {f : FuncId} {I : τ → (Nat → Prop) → World → Prop} {step : τ → Nat → (List Int × Int) × τ}

/-- one read of a limited reader -/
def limStep (step : τ → Nat → (List Int × Int) × τ) (s : τ × Int) (m : Nat) : (List Int × Int) × (τ × Int) :=
  if s.2 ≤ 0 then (([], 1), s) else ((step s.1 (min m s.2.toNat)).1, ((step s.1 (min m s.2.toNat)).2, s.2 - (step s.1 (min m s.2.toNat)).1.1.length))

/-- the limited reader at block lb -/
def LimI (B : Nat) (I : τ → (Nat → Prop) → World → Prop) (ty : TypeId) (rb lb : Nat) (s : τ × Int) (F : Nat → Prop) (w : World) : Prop :=
  ∃ F0, I s.1 F0 w ∧ Blk w lb 71 #[.iface ty (.pointer (some ⟨rb, 0, none⟩)), .int .i64 s.2] ∧ (∀ k, F k ↔ (F0 k ∨ k = lb)) ∧ ¬ F0 lb ∧ B ≤ lb ∧ -9223372036854775808 ≤ s.2 ∧ s.2 ≤ 9223372036854775807

/-- what is known behind the inner read -/
theorem lim_done {t t1 : τ} {n : Int} {F F0 F1 : Nat → Prop} {w w1 : World} {lb pb : Nat} {d : Nat} {m : Int} (R : Rdr B E ty rb f I step) (hI : I t F0 w) (hb : Blk w lb 71 #[.iface ty (.pointer (some ⟨rb, 0, none⟩)), .int .i64 n]) (hF : ∀ k, F k ↔ (F0 k ∨ k = lb)) (hn0 : ¬ F0 lb) (hB : B ≤ lb) (hn1 : 0 < n) (hn2 : n ≤ 9223372036854775807)
    (hI1 : I t1 F1 w1) (hF1 : ∀ k, F1 k → F0 k ∨ w.heap.size ≤ k) (hk1 : Kept (fun k => F0 k ∨ k = pb) w w1) (hpb : ¬ F pb) (hd : (d : Int) ≤ n) (hm : m = n - d) :
    (∃ F', LimI B I ty rb lb (t1, m) F' (w1.setCell ⟨lb, 1, none⟩ (.int .i64 m)) ∧ ∀ k, F' k → F k ∨ w.heap.size ≤ k) ∧ Kept (fun k => F k ∨ k = pb) w (w1.setCell ⟨lb, 1, none⟩ (.int .i64 m)) := by
  have hlt := hb.lt
  have hlp : lb ≠ pb := fun e => hpb ((hF pb).2 (.inr e.symm))
  have hb1 := hb.kept hk1 (fun hD => by
    rcases hD with h | h
    · exact hn0 h
    · exact hlp h)
  have hF1l : ¬ F1 lb := fun h => by
    rcases hF1 lb h with h | h
    · exact hn0 h
    · omega
  refine ⟨⟨fun k => F1 k ∨ k = lb, ⟨F1, R.keep hI1 (by simp [World.setCell]) (fun k _ hk => Below.heap_setCell _ _ _ _ (fun e => hF1l (by simp at e; exact e ▸ hk))), by simpa using hb1.put 1 (.int .i64 m), fun k => Iff.rfl, hF1l, hB, by simp only; omega, by simp only; omega⟩, fun k hk => ?_⟩, ?_⟩
  · rcases hk with h | h
    · rcases hF1 k h with h | h
      · exact .inl ((hF k).2 (.inl h))
      · exact .inr h
    · exact .inl ((hF k).2 (.inr h))
  · refine (hk1.mono fun k _ hD => ?_).setCell (p := ⟨lb, 1, none⟩) (fun _ => .inl ((hF lb).2 (.inr rfl))) _
    rcases hD with h | h
    · exact .inl ((hF k).2 (.inl h))
    · exact .inr h

set_option maxHeartbeats 1000000 in
set_option maxRecDepth 100000 in
theorem lim_read (R : Rdr B E ty rb f I step) {lb : Nat} {s : τ × Int} {F : Nat → Prop} {w : World} {pb : Nat} {pc : List Value} {P : Option Addr} {m poff : Nat} (c : Nat) (h : LimI B I ty rb lb s F w) (hE : Errs B w E) (hBw : B ≤ w.heap.size) (hp : Blk w pb 5 (List.toArray pc)) (hFp : ¬ F pb) (hBp : B ≤ pb) (hfit : poff + m ≤ pc.length) (hd : 0 < m → P = some ⟨pb, poff, none⟩) (hc : m ≤ c) (hm : m ≤ 281474976710656) :
    Calls Tryd.prog 59 #[.pointer (some ⟨lb, 0, none⟩), .slice P m c] w (ReadPost (LimI B I ty rb lb) E F pb poff pc (limStep step s m) w) := by
  have h' := h
  obtain ⟨t, n⟩ := s
  obtain ⟨F0, hI, hb, hF, hn0, hBl, hlo, hhi⟩ := h
  simp only at hI hb hlo hhi
  have c0 := hb.cell 0
  have c1 := hb.cell 1
  have f1 := hb.frozen 1
  simp at c0 c1
  by_cases hle : n ≤ 0
  · have hst : limStep step (t, n) m = (([], 1), (t, n)) := by unfold limStep; rw [if_pos hle]
    have HP : Hid (∀ q, ReadPost (LimI B I ty rb lb) E F pb poff pc (limStep step (t, n) m) w (.returned (.tuple #[.int .i64 0, .iface 91 (.pointer (some (E 1)))])) (w.drewN q)) := Lib.hid fun q => by
      rw [hst]
      refine ⟨by rw [show errV E 1 = .iface 91 (.pointer (some (E 1))) from errV_pos E 1 rfl]; rfl, ⟨F, ⟨F0, R.keep hI (Nat.le_refl _) (fun _ _ _ => rfl), hb, hF, hn0, hBl, hlo, hhi⟩, fun k hk => .inl hk⟩, by simpa [splice, bytesV] using hp.drewN q, (Kept.refl _ _).drewN q⟩
    have h1 := hE.cell 1 rfl
    simp only [errG] at h1
    clear h' hI hb hF hn0 hE hp hfit hd hst
    go_enter Tryd.func59, Tryd.ntmps59
    go_wp2_with fail
    go_quiet (fail)
    go_wp2_with fail
    go_ret2
    exact HP.out _
  · have hFp0 : ¬ F0 pb := fun hh => hFp ((hF pb).2 (.inl hh))
    obtain ⟨k, hk⟩ : ∃ k, min m n.toNat = k := ⟨_, rfl⟩
    have C := R.read (P := P) (m := k) (poff := poff) c hI hE hBw hp hFp0 hBp (by omega) (fun h0 => hd (by omega)) (by omega) (by omega)
    have hst : limStep step (t, n) m = ((step t k).1, ((step t k).2, n - (step t k).1.1.length)) := by unfold limStep; rw [if_neg hle]; simp only [hk]
    have hlen := R.len t k
    unfold ReadPost at C
    rw [hst]
    have hnil := R.nil
    have hmet := R.met
    have hent := R.ent
    have HR := Lib.hid R
    have HI := Lib.hid hI
    have HB := Lib.hid hb
    have HF := Lib.hid hF
    have HN := Lib.hid hn0
    generalize step t k = r at *
    obtain ⟨⟨nd, ne⟩, t1⟩ := r
    simp only at hlen C ⊢
    have C' := Lib.hid C
    have hle' : ¬ n ≤ 0 := hle
    obtain ⟨nn, rfl⟩ : ∃ nn : Nat, n = (nn : Int) := ⟨n.toNat, by omega⟩
    have hsl := fun w' : World => slice_bytes_z P m c nn
    have hnb : (nd.length : Int) ≤ (nn : Int) := by omega
    have HLB : Hid (¬ (F0 lb ∨ lb = pb)) := Lib.hid fun hD => by
      rcases hD with h | h
      · exact hn0 h
      · exact hFp ((hF pb).2 (.inr h.symm))
    have HPO : Hid (∀ (w1 : World) (F1 : Nat → Prop) (z : Int) (v : Value), I t1 F1 w1 → (∀ k, F1 k → F0 k ∨ w.heap.size ≤ k) → Blk w1 pb 5 (splice pc poff (bytesV nd)).toArray → Kept (fun k => F0 k ∨ k = pb) w w1 → z = (nn : Int) - nd.length → v = errV E ne →
        ReadPost (LimI B I ty rb lb) E F pb poff pc ((nd, ne), (t1, (nn : Int) - nd.length)) w (.returned (.tuple #[.int .i64 nd.length, v])) (w1.setCell ⟨lb, 1, none⟩ (.int .i64 z))) := Lib.hid fun w1 F1 z v g1 g2 g3 g4 g5 g6 => by
      subst g5
      subst g6
      obtain ⟨q1, q2⟩ := lim_done HR.out HI.out HB.out HF.out HN.out hBl (by omega) hhi g1 g2 g4 hFp (d := nd.length) hnb rfl
      exact ⟨rfl, q1, Blk.far g3 (p := ⟨lb, 1, none⟩) (fun e => hFp ((HF.out pb).2 (.inr e))) _, q2⟩
    clear C h' hI hb hF hn0 hE hp hfit hd hst R hFp hFp0
    by_cases hmn : (nn : Int) < (m : Int)
    · obtain rfl : nn = k := by omega
      have hsl2 := fun w' : World => slice_bytes_z P m c nn (by omega) w'
      clear hsl hk
      go_enter Tryd.func59, Tryd.ntmps59
      go_wp2_with fail
      refine C'.out.mono ?_
      rintro e w1 ⟨rfl, ⟨F1, hI1, hF1⟩, hblk1, hkept1⟩
      have B1 := HB.out.kept hkept1 HLB.out
      have d1 := B1.cell 1
      have g1 := B1.frozen 1
      simp at d1
      have HP1 := Lib.hid fun (z : Int) (v : Value) => HPO.out w1 F1 z v hI1 hF1 hblk1 hkept1
      clear hI1 hF1 hblk1 hkept1 B1 c0 c1 f1 C' HPO
      go_wp2_with fail
      go_ret2
      exact HP1.out _ _ rfl rfl
    · obtain rfl : m = k := by omega
      clear hsl hk
      go_enter Tryd.func59, Tryd.ntmps59
      go_wp2_with fail
      refine C'.out.mono ?_
      rintro e w1 ⟨rfl, ⟨F1, hI1, hF1⟩, hblk1, hkept1⟩
      have B1 := HB.out.kept hkept1 HLB.out
      have d1 := B1.cell 1
      have g1 := B1.frozen 1
      simp at d1
      have HP1 := Lib.hid fun (z : Int) (v : Value) => HPO.out w1 F1 z v hI1 hF1 hblk1 hkept1
      clear hI1 hF1 hblk1 hkept1 B1 c0 c1 f1 C' HPO
      go_wp2_with fail
      go_ret2
      exact HP1.out _ _ rfl rfl

theorem lim_rdr (R : Rdr B E ty rb f I step) (lb : Nat) : Rdr B E 69 lb 59 (LimI B I ty rb lb) (limStep step) where
  nil := fun w => nilAhead_lim ⟨lb, 0, none⟩ w
  met := fun w => method_lim ⟨lb, 0, none⟩ w
  ent := fun args w => by kernel_rfl
  keep := fun ⟨F0, h1, h2, h3, h4⟩ hsz hk => ⟨F0, R.keep h1 hsz fun k hk' hF => hk k hk' ((h3 k).2 (.inl hF)), h2.keep (hk _ h2.lt ((h3 _).2 (.inr rfl))), h3, h4⟩
  lo := fun {t F w k} ⟨F0, h1, h2, h3, h4, h5, _⟩ hF => by
    rcases (h3 k).1 hF with h | h
    · exact R.lo h1 h
    · rw [h]; exact ⟨h5, h2.lt⟩
  len := fun s m => by
    unfold limStep
    split
    · simp
    · have := R.len s.1 (min m s.2.toNat); simp only; omega
  err := fun {s F w} m ⟨F0, h1, _⟩ => by
    unfold limStep
    split
    · exact .inr (.inl rfl)
    · exact R.err _ h1
  read := fun c h hE hBw hp hFp hBp hfit hd hc hm => lim_read R c h hE hBw hp hFp hBp hfit hd hc hm

/-- a new limited reader -/
theorem limI_new (R : Rdr B E ty rb f I step) {t : τ} {F : Nat → Prop} {w : World} (h : I t F w) (hB : B ≤ w.heap.size) (n : Int) (h1 : -9223372036854775808 ≤ n) (h2 : n ≤ 9223372036854775807) :
    LimI B I ty rb w.heap.size (t, n) (fun k => F k ∨ k = w.heap.size) (w.alloc (.cells #[.iface ty (.pointer (some ⟨rb, 0, none⟩)), .int .i64 n] 71)) :=
  ⟨F, R.kept h ((Kept.refl (fun _ => False) _).alloc _) (fun _ _ _ hf => hf), Blk.new _ _ _, fun k => Iff.rfl, fun hh => by have := (R.lo h hh).2; omega, hB, h1, h2⟩

/-- io.LimitReader: a new block -/
theorem limitReader_any (ty : TypeId) (a : Addr) (n : Int) (w : World) :
    Calls Tryd.prog 31 #[.iface ty (.pointer (some a)), .int .i64 n] w fun e w' => e = .returned (.iface 69 (.pointer (some ⟨w.heap.size, 0, none⟩))) ∧ w' = w.alloc (.cells #[.iface ty (.pointer (some a)), .int .i64 n] 71) := by
  go_enter Tryd.func31, Tryd.ntmps31
  go_wp2_with fail
  go_ret
  exact ⟨rfl, rfl⟩
end

end Go.Proofs.YtbddgkmkdjkloaaDoor
