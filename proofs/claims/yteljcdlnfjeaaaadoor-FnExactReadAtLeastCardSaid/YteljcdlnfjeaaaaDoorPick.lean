/- The reference's own draws: numbers picked from the bytes of an input. pick, one. -/
import Derived.Test.YteljcdlnfjeaaaaDoorSpec
import Derived.Deep.QuietTactic
import Derived.BigQuiet
import Derived.StillTailTactics
import Derived.Laws.Bits64
set_option linter.unusedVariables false
set_option linter.unusedSimpArgs false
namespace Go.Proofs.YteljcdlnfjeaaaaDoor
open Go.RowKit

/-- the drawer at block rb: its bytes, and how many numbers were drawn at most -/
def RdAt (S : Nat → Prop) (w : World) (rb : Nat) (q : Nat) : Prop :=
  ∃ (A : Option Addr) (c p : Nat) (l : List Int), Blk w rb 55 #[.slice A l.length c, .int .i64 p] ∧ BytesAt S w A l ∧ l.length ≤ 1048576 ∧ p ≤ q ∧ (∀ j, j < l.length → 0 ≤ nth l j ∧ nth l j ≤ 255) ∧ (∀ k, S k → k ≠ rb)

theorem RdAt.kept {D S : Nat → Prop} {w w' : World} {rb q : Nat} (h : RdAt S w rb q) (hk : Kept D w w') (hd : ∀ k, k < w.heap.size → (S k ∨ k = rb) → ¬ D k) : RdAt S w' rb q := by
  obtain ⟨A, c, p, l, h1, h2, h3, h4, h5, h6⟩ := h
  exact ⟨A, c, p, l, h1.kept hk (hd rb h1.lt (.inr rfl)), h2.kept hk (fun k hk' hS => hd k hk' (.inl hS)), h3, h4, h5, h6⟩
theorem RdAt.mono {S : Nat → Prop} {w : World} {rb q q' : Nat} (h : RdAt S w rb q) (hq : q ≤ q') : RdAt S w rb q' := by
  obtain ⟨A, c, p, l, h1, h2, h3, h4, h5, h6⟩ := h
  exact ⟨A, c, p, l, h1, h2, h3, Nat.le_trans h4 hq, h5, h6⟩
theorem RdAt.lt {S : Nat → Prop} {w : World} {rb q : Nat} (h : RdAt S w rb q) : rb < w.heap.size := by
  obtain ⟨A, c, p, l, h1, _⟩ := h
  exact h1.lt
theorem RdAt.drew {S : Nat → Prop} {w : World} {rb q : Nat} (h : RdAt S w rb q) : RdAt S w.drew rb q := h
theorem RdAt.alloc {S : Nat → Prop} {w : World} {rb q : Nat} (h : RdAt S w rb q) (o : Obj) : RdAt S (w.alloc o) rb q := h.kept ((Kept.refl (fun _ => False) _).alloc _) fun _ _ _ hf => hf

/-- a number below n -/
def PickPost (S : Nat → Prop) (rb q n : Nat) (w : World) (e : Ending) (w' : World) : Prop :=
  ∃ k : Nat, k < n ∧ e = .returned (.int .i64 k) ∧ RdAt S w' rb (q + 1) ∧ Kept (· = rb) w w'

theorem xor_i64 (a b : Nat) (ha : a < 4611686018427387904) (hb : b < 4611686018427387904) : bits .xor .i64 (a : Int) (b : Int) = ((a ^^^ b : Nat) : Int) := by
  have hx : a ^^^ b < 2 ^ 62 := Nat.xor_lt_two_pow (by omega) (by omega)
  have h1 : (BitVec.ofInt 64 (a : Int)).toNat = a := by
    rw [BitVec.ofInt_natCast, BitVec.toNat_ofNat]; exact Nat.mod_eq_of_lt (by omega)
  have h2 : (BitVec.ofInt 64 (b : Int)).toNat = b := by
    rw [BitVec.ofInt_natCast, BitVec.toNat_ofNat]; exact Nat.mod_eq_of_lt (by omega)
  show IntKind.i64.wrap ((BitVec.ofInt 64 (a : Int) ^^^ BitVec.ofInt 64 (b : Int)).toNat : Int) = _
  rw [BitVec.toNat_xor, h1, h2]
  simp [IntKind.wrap, IntKind.bits, IntKind.signed]
  omega

theorem rd_step {S : Nat → Prop} {w : World} {rb q : Nat} {A : Option Addr} {c p : Nat} {l : List Int} (h1 : Blk w rb 55 #[.slice A l.length c, .int .i64 p]) (h2 : BytesAt S w A l) (h3 : l.length ≤ 1048576) (h4 : p ≤ q)
    (h5 : ∀ j, j < l.length → 0 ≤ nth l j ∧ nth l j ≤ 255) (h6 : ∀ k, S k → k ≠ rb) : RdAt S (w.setCell ⟨rb, 1, none⟩ (.int .i64 ((p : Int) + 1))) rb (q + 1) ∧ Kept (· = rb) w (w.setCell ⟨rb, 1, none⟩ (.int .i64 ((p : Int) + 1))) := by
  refine ⟨⟨A, c, p + 1, l, ?_, h2.setCell (fun hS => h6 _ hS rfl) _, h3, by omega, h5, h6⟩, (Kept.refl (· = rb) w).setCell (p := ⟨rb, 1, none⟩) (fun _ => rfl) _⟩
  have := h1.put 1 (.int .i64 ((p : Int) + 1))
  simpa using this

set_option maxHeartbeats 1000000 in
set_option maxRecDepth 100000 in
theorem pick_any {S : Nat → Prop} {w : World} {rb q : Nat} (h : RdAt S w rb q) (hq : q ≤ 1000000000) (n : Nat) (hn : 1 ≤ n) (hn2 : n ≤ 2147483648) :
    Calls Tryd.prog 39 #[.pointer (some ⟨rb, 0, none⟩), .int .i64 n] w (PickPost S rb q n w) := by
  obtain ⟨A, c, p, l, h1, h2, h3, h4, h5, h6⟩ := h
  have HP := Lib.hid (rd_step h1 h2 h3 h4 h5 h6)
  have c0 := h1.cell 0
  have c1 := h1.cell 1
  have f1 := h1.frozen 1
  simp at c0 c1
  have hlt := h1.lt
  have hn1 : decide ((n : Int) < 1) = false := by simp; omega
  by_cases hl0 : l.length = 0
  · have hl1 : ((l.length : Int) == 0) = true := by simp [hl0]
    clear h1 h2 h5 h6 hl0
    generalize l.length = len at *
    go_enter Tryd.func39, Tryd.ntmps39
    go_wp2_with fail
    go_ret
    exact ⟨0, by omega, rfl, HP.out⟩
  · have hl1 : ((l.length : Int) == 0) = false := by simp [hl0]
    by_cases hpl : p < l.length
    · obtain ⟨ab, aoff, rfl, hS, hab, hcs⟩ := h2 (by omega)
      have g2 := hcs p hpl
      have hx := h5 p hpl
      have hne : ab ≠ rb := h6 ab hS
      clear h1 h2 h5 h6 hl0 hcs
      generalize nth l p = x at *
      generalize l.length = len at *
      obtain ⟨x, rfl⟩ : ∃ y : Nat, x = (y : Int) := ⟨x.toNat, by omega⟩
      have hx1 := hx.2
      clear hx
      have hr : (x : Int).tmod (n : Int) = ((x % n : Nat) : Int) := by rw [Int.tmod_eq_emod_of_nonneg (by omega)]; omega
      have hrn : x % n < n := Nat.mod_lt _ (by omega)
      have hnz : ((n : Int) == 0) = false := by simp; omega
      generalize x % n = r at *
      go_enter Tryd.func39, Tryd.ntmps39
      go_wp2_with fail
      go_ret
      exact ⟨r, hrn, by simp [hr], HP.out⟩
    · obtain ⟨ab, aoff, rfl, hS, hab, hcs⟩ := h2 (by omega)
      have hm1 : p % l.length < l.length := Nat.mod_lt _ (by omega)
      have hm2 : (p * 7 + 3) % l.length < l.length := Nat.mod_lt _ (by omega)
      have g2 := hcs _ hm1
      have hx := h5 _ hm1
      have g3 := hcs _ hm2
      have hy := h5 _ hm2
      have e1 : (p : Int).tmod (l.length : Int) = ((p % l.length : Nat) : Int) := by rw [Int.tmod_eq_emod_of_nonneg (by omega)]; omega
      have e2 : ((p : Int) * 7 + 3).tmod (l.length : Int) = (((p * 7 + 3) % l.length : Nat) : Int) := by rw [Int.tmod_eq_emod_of_nonneg (by omega), Int.natCast_emod]; simp
      have e3 : (p : Int).tdiv (l.length : Int) = ((p / l.length : Nat) : Int) := by rw [Int.tdiv_eq_ediv_of_nonneg (by omega)]; rfl
      have hd : p / l.length ≤ p := Nat.div_le_self _ _
      have hne : ab ≠ rb := h6 ab hS
      clear h1 h2 h5 h6 hl0 hcs
      generalize nth l (p % l.length) = x at *
      generalize nth l ((p * 7 + 3) % l.length) = y at *
      generalize p % l.length = m1 at *
      generalize (p * 7 + 3) % l.length = m2 at *
      generalize p / l.length = d at *
      generalize l.length = len at *
      obtain ⟨x, rfl⟩ : ∃ y : Nat, x = (y : Int) := ⟨x.toNat, by omega⟩
      obtain ⟨y, rfl⟩ : ∃ y' : Nat, y = (y' : Int) := ⟨y.toNat, by omega⟩
      have hx1 := hx.2
      have hy1 := hy.2
      clear hx hy
      obtain ⟨t, ht⟩ : ∃ t : Nat, (x : Int) * 131 + (y : Int) * 1117 + (p : Int) * 29 + (d : Int) * 53 = (t : Int) := ⟨x * 131 + y * 1117 + p * 29 + d * 53, by omega⟩
      have htb : t < 4611686018427387904 := by omega
      have e4 : (t : Int).tdiv 64 = ((t / 64 : Nat) : Int) := by rw [Int.tdiv_eq_ediv_of_nonneg (by omega)]; rfl
      have e5 : bits .xor .i64 (t : Int) ((t / 64 : Nat) : Int) = ((t ^^^ (t / 64) : Nat) : Int) := xor_i64 t (t / 64) (by omega) (by omega)
      have e6 : ((t ^^^ (t / 64) : Nat) : Int).tmod (n : Int) = (((t ^^^ (t / 64)) % n : Nat) : Int) := by rw [Int.tmod_eq_emod_of_nonneg (by omega)]; omega
      have hrn : (t ^^^ (t / 64)) % n < n := Nat.mod_lt _ (by omega)
      have hnz : ((n : Int) == 0) = false := by simp; omega
      have hpl2 : ¬ (p : Int) < (len : Int) := by omega
      have hvb : t / 64 < 4611686018427387904 := by omega
      generalize (t ^^^ (t / 64)) % n = r at *
      generalize t ^^^ (t / 64) = u at *
      generalize t / 64 = v at *
      go_enter Tryd.func39, Tryd.ntmps39
      go_wp2_with fail
      go_quiet (fail)
      go_wp2_with fail
      go_ret
      have hw : wrap64 (v : Int) = v := by unfold wrap64; omega
      exact ⟨r, hrn, by simp [hw, e5, e6], HP.out.1, HP.out.2.drewN _⟩

end Go.Proofs.YteljcdlnfjeaaaaDoor
