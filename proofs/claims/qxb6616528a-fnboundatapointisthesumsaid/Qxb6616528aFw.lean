/-
  SEAT b6616528a: what the walk is told of floats: max, min, '-', hypot, Abs.
-/
import Derived.Test.Qxb6616528aRows
import Derived.Test.Qxb6616528aFl4
import Derived.WalkKit
import Derived.ProofKit
import Derived.OpenShut
import Derived.WalkSpells
import Derived.WalkSmall
import Derived.Laws.FloatArith
import Derived.Laws.CopyOwn
import Derived.Laws.BitsAllLaws
import Derived.Deep.QuietTactic
import Derived.BigQuiet
import Derived.Deep.Light
import Derived.Deep.LoopGhost
import Derived.Outline
set_option linter.unusedSimpArgs false
set_option exponentiation.threshold 5000
namespace Go.Proofs.Qxb6616528a
open Go.ChangeShapes Go.WideShapes Go.ChangeAt Go.RowKit
open Fl

/-! ### Arithmetic in the walk's form -/
theorem run_sub {x y r : Nat} (h : Ieee.double.sub x y = some r) (w : World) : (binOp .sub 36 (.float .f64 x) (.float .f64 y)).run Try.prog w = .ok (.float .f64 r) w := run_float_arith w .sub 36 .f64 x y r h
theorem run_add {x y r : Nat} (h : Ieee.double.add x y = some r) (w : World) : (binOp .add 36 (.float .f64 x) (.float .f64 y)).run Try.prog w = .ok (.float .f64 r) w := run_float_arith w .add 36 .f64 x y r h
theorem run_mul {x y r : Nat} (h : Ieee.double.mul x y = some r) (w : World) : (binOp .mul 36 (.float .f64 x) (.float .f64 y)).run Try.prog w = .ok (.float .f64 r) w := run_float_arith w .mul 36 .f64 x y r h
theorem run_div {x y r : Nat} (h : Ieee.double.div x y = some r) (w : World) : (binOp .quo 36 (.float .f64 x) (.float .f64 y)).run Try.prog w = .ok (.float .f64 r) w := run_float_arith w .quo 36 .f64 x y r h

def addw (x y : Nat) : Nat := F (As x y) (Ar x y)
def subw (x y : Nat) : Nat := addw x (ng y)
def mulw (x y : Nat) : Nat := F (sg x ^^ sg y) (Mr (rg x) (rg y))
def divw (x y : Nat) : Nat := F (sg x ^^ sg y) (Qr (rg x) (rg y))
theorem add_w {x y : Nat} (hx : fin x) (hy : fin y) : Ieee.double.add x y = some (addw x y) := add_fin hx hy
theorem sub_w {x y : Nat} (hx : fin x) (hy : fin y) : Ieee.double.sub x y = some (subw x y) := by rw [sub_eq hy]; exact add_fin hx (fin_ng hy)
theorem mul_w {x y : Nat} (hx : fin x) (hy : fin y) : Ieee.double.mul x y = some (mulw x y) := mul_fin hx hy
theorem div_w {x y : Nat} (hx : fin x) (hy : fin y) (h0 : rg y ≠ 0) : Ieee.double.div x y = some (divw x y) := div_fin hx hy h0

/-- Finite, and at most 2^c units. -/
def Le (x c : Nat) : Prop := fin x ∧ V (rg x) ≤ 2 ^ c
theorem Le.mono {x c c' : Nat} (h : Le x c) (hc : c ≤ c') : Le x c' := ⟨h.1, Nat.le_trans h.2 (Nat.pow_le_pow_right (by decide) hc)⟩
theorem Le_F {s : Bool} {r c : Nat} (h : r < infR) (hv : V r ≤ 2 ^ c) : Le (F s r) c := ⟨fin_F h, by rw [rg_F (Nat.lt_trans h infR_lt_S)]; exact hv⟩
theorem Le.mul {x y a b c : Nat} (hx : Le x a) (hy : Le y b) (hc : a + b = c + 1074) (ht : c < 2098) : Le (mulw x y) c := by
  have := Mr_pow hx.2 hy.2 hc ht
  exact Le_F this.1 this.2
theorem Wabs_le {x y c : Nat} (hx : V (rg x) ≤ c) (hy : V (rg y) ≤ c) : (W x + W y).natAbs ≤ 2 * c := by
  have h1 := W_abs x
  have h2 := W_abs y
  omega
theorem Le.add {x y c : Nat} (hx : Le x c) (hy : Le y c) (ht : c + 1 < 2098) : Le (addw x y) (c + 1) := by
  have h : (W x + W y).natAbs ≤ 1 * 2 ^ (c + 1) := by
    rw [Nat.one_mul, Nat.pow_succ, Nat.mul_comm]; exact Wabs_le hx.2 hy.2
  have := Ar_le h (by decide) (pow_lt_TOP ht)
  rw [Nat.one_mul] at this
  exact Le_F this.1 this.2
theorem Le_ng {x c : Nat} (h : Le x c) : Le (ng x) c := ⟨fin_ng h.1, by rw [rg_ng]; exact h.2⟩
theorem Le.sub {x y c : Nat} (hx : Le x c) (hy : Le y c) (ht : c + 1 < 2098) : Le (subw x y) (c + 1) := hx.add (Le_ng hy) ht

/-- A sum of k terms. -/
def LeK (x k c : Nat) : Prop := fin x ∧ V (rg x) ≤ k * 2 ^ c
theorem LeK.add {x y k c : Nat} (hx : LeK x k c) (hy : Le y c) (hk : k + 1 ≤ 65536) (ht : c + 16 < 2098) : LeK (addw x y) (k + 1) c := by
  have h : (W x + W y).natAbs ≤ (k + 1) * 2 ^ c := by
    have h1 := W_abs x
    have h2 := W_abs y
    have h3 := hx.2
    have h4 := hy.2
    rw [Nat.add_mul, Nat.one_mul]
    omega
  have hov : (k + 1) * 2 ^ c < TOP := by
    have h5 : (k + 1) * 2 ^ c ≤ 2 ^ 16 * 2 ^ c := Nat.mul_le_mul_right _ hk
    rw [← Nat.pow_add] at h5
    have h6 := pow_lt_TOP (c := 16 + c) (by omega)
    omega
  have hK : k + 1 < 2 * B := Nat.lt_of_le_of_lt hk (by decide)
  have := Ar_le h hK hov
  have hS := Nat.lt_trans this.1 infR_lt_S
  exact ⟨fin_F this.1, by unfold addw; rw [rg_F hS]; exact this.2⟩
theorem LeK.le {x k c : Nat} (h : LeK x k c) (hk : k ≤ 65536) : Le x (c + 16) := by
  refine ⟨h.1, Nat.le_trans h.2 ?_⟩
  rw [Nat.pow_add, Nat.mul_comm (2 ^ c)]
  exact Nat.mul_le_mul_right _ hk

/-! ### max and min -/
def fmax (x y : Nat) : Nat := match compare (W x) (W y) with | .lt => y | .gt => x | .eq => if sg x then y else x
theorem neg_fin {x : Nat} (hx : fin x) : (FloatKind.f64.decode x).neg = sg x := by
  show (Ieee.double.read x).neg = sg x
  rw [read_fin hx]; rfl
theorem run_max2 {x y : Nat} (hx : fin x) (hy : fin y) (w : World) : (Builtin.max2 (.float .f64 x) (.float .f64 y)).run Try.prog w = .ok (.float .f64 (fmax x y)) w := by
  have ho : FloatKind.f64.format.order x y = some (compare (W x) (W y)) := order_fin hx hy
  have hn := neg_fin hx
  unfold fmax
  rcases Int.lt_trichotomy (W x) (W y) with h | h | h
  · rw [Int.compare_eq_lt.2 h] at ho ⊢
    simp [Builtin.max2, ho]
  · rw [Int.compare_eq_eq.2 h] at ho ⊢
    simp [Builtin.max2, ho, hn]
  · rw [Int.compare_eq_gt.2 h] at ho ⊢
    simp [Builtin.max2, ho]
theorem fin_fmax {x y : Nat} (hx : fin x) (hy : fin y) : fin (fmax x y) := by
  unfold fmax
  split
  · exact hy
  · exact hx
  · split
    · exact hy
    · exact hx
theorem run_max_2 {x y : Nat} (hx : fin x) (hy : fin y) (ts : Array TypeId) (t : TypeId) (w : World) : (Builtin.max_ ts t #[.float .f64 x, .float .f64 y]).run Try.prog w = .ok (.float .f64 (fmax x y)) w := by
  simp [Builtin.max_, run_max2 hx hy]
theorem run_max_3 {x y z : Nat} (hx : fin x) (hy : fin y) (hz : fin z) (ts : Array TypeId) (t : TypeId) (w : World) : (Builtin.max_ ts t #[.float .f64 x, .float .f64 y, .float .f64 z]).run Try.prog w = .ok (.float .f64 (fmax (fmax x y) z)) w := by
  simp [Builtin.max_, run_max2 hx hy, run_max2 (fin_fmax hx hy) hz]
end Go.Proofs.Qxb6616528a
