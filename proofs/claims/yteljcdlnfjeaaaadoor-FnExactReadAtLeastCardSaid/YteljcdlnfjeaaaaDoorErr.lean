/- The errors of the program as codes: what the package-level errors hold, and what toError and fromError return, for every world in which those variables hold distinct pointers. -/
import Derived.Test.YteljcdlnfjeaaaaDoorProg
import Derived.Test.YteljcdlnfjeaaaaDoorPlain
import Derived.WalkKit
import Derived.WalkLawsBesides
import Derived.WalkSpells
import Derived.LaidEql
import Derived.Lib.Hide
import Derived.KernelRfl
set_option linter.unusedVariables false
set_option linter.unusedSimpArgs false
namespace Go.Proofs.YteljcdlnfjeaaaaDoor
open Go.RowKit

/-- the package-level variable that holds the error of a code -/
def errG : Nat → Nat
  | 1 => 0
  | 2 => 1
  | 3 => 2
  | 4 => 3
  | 5 => 4
  | 6 => 5
  | _ => 0

/-- the codes of errors that this program has -/
def isErr (k : Nat) : Bool :=
  k == 1 || k == 2 || k == 3 || k == 4 || k == 5 || k == 6

/-- the errors' variables hold distinct pointers, and all of it lies below block B -/
structure Errs (B : Nat) (w : World) (E : Nat → Addr) : Prop where
  cell : ∀ k, isErr k = true → w.cell? ⟨errG k, 0, none⟩ = some (.iface 101 (.pointer (some (E k))))
  blk : ∀ k, isErr k = true → ∃ c t, w.heap[(E k).block]? = some (.cells c t (0, 0))
  glt : ∀ k, isErr k = true → errG k < B
  lt : ∀ k, isErr k = true → (E k).block < B
  inj : ∀ j k, isErr j = true → isErr k = true → E j = E k → j = k

theorem Errs.keep {B : Nat} {w w' : World} {E : Nat → Addr} (h : Errs B w E) (hb : ∀ k, k < B → w'.heap[k]? = w.heap[k]?) : Errs B w' E :=
  ⟨fun k hk => (World.cell?_of_block (w := w) (a := ⟨errG k, 0, none⟩) (hb _ (h.glt k hk))).trans (h.cell k hk),
   fun k hk => by
    obtain ⟨c, t, e⟩ := h.blk k hk
    exact ⟨c, t, (hb _ (h.lt k hk)).trans e⟩, h.glt, h.lt, h.inj⟩

theorem Errs.below {B : Nat} {w w' : World} {E : Nat → Addr} (h : Errs B w E) (hb : Below B w w') : Errs B w' E := h.keep hb.block
theorem Errs.drew {B : Nat} {w : World} {E : Nat → Addr} (h : Errs B w E) : Errs B w.drew E := h.keep fun _ _ => rfl

/-- the value of an error's code -/
def errV (E : Nat → Addr) (c : Int) : Value := if c = 0 then .nilIface else .iface 101 (.pointer (some (E c.toNat)))
theorem errV_zero (E : Nat → Addr) : errV E 0 = .nilIface := rfl
theorem errV_pos (E : Nat → Addr) (k : Nat) (h : isErr k = true) : errV E k = .iface 101 (.pointer (some (E k))) := by
  have h0 : (k : Int) ≠ 0 := by
    intro e
    have : k = 0 := by omega
    subst this
    simp [isErr] at h
  unfold errV
  rw [if_neg h0, Int.toNat_natCast]

theorem compE : (Tryd.prog.info? 101).map (·.comparable) = some true := by kernel_rfl
theorem sizeE : (Tryd.prog.info? 120).map (·.size) = some 1 := by kernel_rfl

theorem eqlE {B : Nat} {w : World} {E : Nat → Addr} (hE : Errs B w E) (j k : Nat) (hj : isErr j = true) (hk : isErr k = true) :
    (binOp .eql 62 (.iface 101 (.pointer (some (E j)))) (.iface 101 (.pointer (some (E k))))).run Tryd.prog w = .ok (.bool (decide (j = k))) w := by
  obtain ⟨i, hi, hcmp⟩ := Option.map_eq_some_iff.1 compE
  obtain ⟨i2, hi2, hs⟩ := Option.map_eq_some_iff.1 sizeE
  by_cases h : j = k
  · subst h
    rw [run_eql_iface_ptr_same w _ Tryd.underlying62 Tryd.underlying101 hi hcmp hi2]
    simp
  · obtain ⟨c1, t1, e1⟩ := hE.blk j hj
    obtain ⟨c2, t2, e2⟩ := hE.blk k hk
    rw [run_eql_iface_ptr_other w Tryd.underlying62 Tryd.underlying101 hi hcmp hi2 (by rw [hs]; decide) (fun e => h (hE.inj j k hj hk e)) e1 e2]
    simp [h]

theorem toError_any {B : Nat} {w : World} {E : Nat → Addr} (hE : Errs B w E) (n : Int) :
    Calls Tryd.prog 60 #[.int .i64 n] w fun e w' => e = .returned (errV E (norm n)) ∧ w = w' := by
  have h1 := hE.cell 1 rfl
  have h2 := hE.cell 2 rfl
  simp only [errG] at h1 h2
  clear hE
  by_cases h0 : n = 0
  · subst h0
    go_enter Tryd.func60, Tryd.ntmps60
    go_wp2
    go_ret
    exact ⟨rfl, rfl⟩
  by_cases h3 : n = 1
  · subst h3
    go_enter Tryd.func60, Tryd.ntmps60
    go_wp2
    go_ret
    exact ⟨rfl, rfl⟩
  have b0 : (n == 0) = false := beq_eq_false_iff_ne.2 h0
  have b1 : (n == 1) = false := beq_eq_false_iff_ne.2 h3
  have hn : norm n = 2 := by simp [norm, h0, h3]
  have HN := Lib.hid hn
  clear hn h0 h3
  go_enter Tryd.func60, Tryd.ntmps60
  go_wp2
  go_ret
  exact ⟨by rw [HN.out]; rfl, rfl⟩

/-- the number that fromError makes of an error's code -/
def code (c : Nat) : Nat := if c ≤ 6 then c else 7

theorem fromError_nil {B : Nat} {w : World} {E : Nat → Addr} (_hE : Errs B w E) :
    Calls Tryd.prog 32 #[.nilIface] w fun e w' => e = .returned (.int .i64 0) ∧ w = w' := by
  clear _hE
  go_enter Tryd.func32, Tryd.ntmps32
  go_wp2
  go_ret
  exact ⟨rfl, rfl⟩

theorem fromError_some {B : Nat} {w : World} {E : Nat → Addr} (hE : Errs B w E) (c : Nat) (hc : isErr c = true) :
    Calls Tryd.prog 32 #[.iface 101 (.pointer (some (E c)))] w fun e w' => e = .returned (.int .i64 (code c)) ∧ w = w' := by
  have h1 := hE.cell 1 rfl
  have h2 := hE.cell 2 rfl
  have h3 := hE.cell 3 rfl
  have h4 := hE.cell 4 rfl
  have h5 := hE.cell 5 rfl
  have h6 := hE.cell 6 rfl
  have e1 := eqlE hE c 1 hc rfl
  have e2 := eqlE hE c 2 hc rfl
  have e3 := eqlE hE c 3 hc rfl
  have e4 := eqlE hE c 4 hc rfl
  have e5 := eqlE hE c 5 hc rfl
  have e6 := eqlE hE c 6 hc rfl
  simp only [errG] at h1 h2 h3 h4 h5 h6
  clear hE
  have hcs : c = 1 ∨ c = 2 ∨ c = 3 ∨ c = 4 ∨ c = 5 ∨ c = 6 ∨ 7 ≤ c := by
    rcases Nat.lt_or_ge c 7 with h | h
    · have : c ≠ 0 := by rintro rfl; simp [isErr] at hc
      omega
    · omega
  clear hc
  rcases hcs with rfl | rfl | rfl | rfl | rfl | rfl | h
  case inr.inr.inr.inr.inr.inr =>
    have d : ∀ k, k ≤ 6 → decide (c = k) = false := fun k hk => decide_eq_false (by omega)
    rw [d 1 (by omega)] at e1
    rw [d 2 (by omega)] at e2
    rw [d 3 (by omega)] at e3
    rw [d 4 (by omega)] at e4
    rw [d 5 (by omega)] at e5
    rw [d 6 (by omega)] at e6
    have hn : code c = 7 := by unfold code; rw [if_neg (by omega)]
    have HN := Lib.hid hn
    clear hn d h
    go_enter Tryd.func32, Tryd.ntmps32
    go_wp2
    go_ret
    exact ⟨by rw [HN.out]; rfl, rfl⟩
  all_goals
    go_enter Tryd.func32, Tryd.ntmps32
    go_wp2
    go_ret
    exact ⟨rfl, rfl⟩

/-- the number that fromError makes of an error's value, by its code -/
def codeI (c : Int) : Int := if c ≤ 6 then c else 7
theorem fromError_any {B : Nat} {w : World} {E : Nat → Addr} (hE : Errs B w E) (c : Int) (hc : c = 0 ∨ ∃ k : Nat, c = k ∧ isErr k = true) :
    Calls Tryd.prog 32 #[errV E c] w fun e w' => e = .returned (.int .i64 (codeI c)) ∧ w = w' := by
  rcases hc with rfl | ⟨k, rfl, hk⟩
  · rw [errV_zero]
    exact (fromError_nil hE).mono fun _ _ ⟨h, h'⟩ => ⟨h, h'⟩
  · rw [errV_pos E k hk]
    refine (fromError_some hE k hk).mono fun _ _ ⟨h, h'⟩ => ⟨?_, h'⟩
    rw [h]
    unfold code codeI
    by_cases hk6 : k ≤ 6
    · rw [if_pos hk6, if_pos (by omega)]
    · rw [if_neg hk6, if_neg (by omega)]
      rfl

end Go.Proofs.YteljcdlnfjeaaaaDoor
