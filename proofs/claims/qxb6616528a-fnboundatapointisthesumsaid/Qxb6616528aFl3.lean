/-
  SEAT b6616528a: FLOAT64 IN PLAIN NUMBERS: sum, difference, product, order of finite words.
-/
import Derived.Test.Qxb6616528aFl2
set_option exponentiation.threshold 5000
namespace Go.Proofs.Qxb6616528a.Fl
open Ieee

theorem LeV_iff {m K c u v : Nat} {p : Int} (h : (u : Int) - v = p + 1074) : LeV m p K c ↔ m * 2 ^ u ≤ K * 2 ^ c * 2 ^ v := by
  unfold LeV
  obtain ⟨t, hu, hv⟩ : ∃ t, u = (p + 1074).toNat + t ∧ v = (-1074 - p).toNat + t := ⟨u - (p + 1074).toNat, by omega, by omega⟩
  rw [hu, hv, Nat.pow_add, Nat.pow_add, ← Nat.mul_assoc, ← Nat.mul_assoc]
  exact ⟨fun h => Nat.mul_le_mul_right _ h, fun h => Nat.le_of_mul_le_mul_right h (Nat.two_pow_pos t)⟩
theorem GeV_iff {m K c u v : Nat} {p : Int} (h : (u : Int) - v = p + 1074) : GeV m p K c ↔ K * 2 ^ c * 2 ^ v ≤ m * 2 ^ u := by
  unfold GeV
  obtain ⟨t, hu, hv⟩ : ∃ t, u = (p + 1074).toNat + t ∧ v = (-1074 - p).toNat + t := ⟨u - (p + 1074).toNat, by omega, by omega⟩
  rw [hu, hv, Nat.pow_add, Nat.pow_add, ← Nat.mul_assoc, ← Nat.mul_assoc]
  exact ⟨fun h => Nat.mul_le_mul_right _ h, fun h => Nat.le_of_mul_le_mul_right h (Nat.two_pow_pos t)⟩

/-! ### Products -/
def Mr (a b : Nat) : Nat := nr (mag a * mag b) (-1074 + (ex a : Int) + (-1074 + (ex b : Int)))
theorem mul_fin {x y : Nat} (hx : fin x) (hy : fin y) : double.mul x y = some (F (sg x ^^ sg y) (Mr (rg x) (rg y))) := by
  unfold Format.mul
  rw [read_fin hx, read_fin hy]
  show some (double.write (.number (sg x ^^ sg y) (mag (rg x) * mag (rg y)) (-1074 + (ex (rg x) : Int) + (-1074 + (ex (rg y) : Int))))) = _
  show some (double.nearest (sg x ^^ sg y) (mag (rg x) * mag (rg y)) (-1074 + (ex (rg x) : Int) + (-1074 + (ex (rg y) : Int)))) = _
  rw [nearest_eq]
  rfl

theorem V_mul (a b : Nat) : mag a * mag b * 2 ^ (ex a + ex b) = V a * V b := by
  unfold V
  rw [Nat.pow_add]
  simp only [Nat.mul_assoc, Nat.mul_comm, Nat.mul_left_comm]

theorem Mr_le {a b K c : Nat} (h : V a * V b ≤ K * 2 ^ c * 2 ^ 1074) (hK : K < 2 * B) (hov : K * 2 ^ c < TOP) : Mr a b < infR ∧ V (Mr a b) ≤ K * 2 ^ c := by
  refine nr_le ((LeV_iff (u := ex a + ex b) (v := 1074) (by omega)).2 ?_) hK hov
  rw [V_mul]; exact h
theorem Mr_ge {a b K c : Nat} (h : K * 2 ^ c * 2 ^ 1074 ≤ V a * V b) (hK : K < 2 * B) (hf : Mr a b < infR) : K * 2 ^ c ≤ V (Mr a b) := by
  refine nr_ge ((GeV_iff (u := ex a + ex b) (v := 1074) (by omega)).2 ?_) hK hf
  rw [V_mul]; exact h
theorem Mr_zero (a : Nat) : Mr a 0 = 0 := by
  unfold Mr nr
  rw [mag_zero, Nat.mul_zero, if_pos rfl]

theorem pow_lt_TOP {c : Nat} (h : c < 2098) : 1 * 2 ^ c < TOP := by
  rw [Nat.one_mul]
  unfold TOP
  exact Nat.pow_lt_pow_right (by decide) h

/-- Bounds that are powers of two. -/
theorem Mr_pow {a b ca cb c : Nat} (ha : V a ≤ 2 ^ ca) (hb : V b ≤ 2 ^ cb) (hc : ca + cb = c + 1074) (ht : c < 2098) : Mr a b < infR ∧ V (Mr a b) ≤ 2 ^ c := by
  have h : V a * V b ≤ 1 * 2 ^ c * 2 ^ 1074 := by
    rw [Nat.one_mul, ← Nat.pow_add, ← hc, Nat.pow_add]
    exact Nat.mul_le_mul ha hb
  have := Mr_le h (by decide) (pow_lt_TOP ht)
  rwa [Nat.one_mul] at this

/-! ### Sums -/
/-- The value of a finite word, in units. -/
def W (x : Nat) : Int := if sg x then -(V (rg x) : Int) else (V (rg x) : Int)
theorem W_abs (x : Nat) : (W x).natAbs = V (rg x) := by unfold W; split <;> omega
theorem signed_mul (s : Bool) (m u k : Nat) : signed s m u * ((2 ^ k : Nat) : Int) = if s then -((m * 2 ^ (u + k) : Nat) : Int) else ((m * 2 ^ (u + k) : Nat) : Int) := by
  unfold signed
  rw [Nat.shiftLeft_eq]
  cases s
  · rw [if_neg (by decide), if_neg (by decide), ← Int.natCast_mul, Nat.mul_assoc, ← Nat.pow_add]
  · rw [if_pos rfl, if_pos rfl, Int.neg_mul, ← Int.natCast_mul, Nat.mul_assoc, ← Nat.pow_add]

def q0 (x y : Nat) : Nat := min (ex (rg x)) (ex (rg y))
/-- The exact sum, in units of 2^(q0 - 1074). -/
def tot (x y : Nat) : Int := signed (sg x) (mag (rg x)) (ex (rg x) - q0 x y) + signed (sg y) (mag (rg y)) (ex (rg y) - q0 x y)
/-- The sum's rung. -/
def Ar (x y : Nat) : Nat := nr (tot x y).natAbs (-1074 + (q0 x y : Int))
def As (x y : Nat) : Bool := if W x + W y = 0 then sg x && sg y else decide (W x + W y < 0)

theorem tot_W (x y : Nat) : tot x y * ((2 ^ q0 x y : Nat) : Int) = W x + W y := by
  have e1 : ex (rg x) - q0 x y + q0 x y = ex (rg x) := by unfold q0; omega
  have e2 : ex (rg y) - q0 x y + q0 x y = ex (rg y) := by unfold q0; omega
  unfold tot
  rw [Int.add_mul, signed_mul, signed_mul, e1, e2]
  rfl
theorem tot_zero (x y : Nat) : tot x y = 0 ↔ W x + W y = 0 := by
  have hp : (0 : Int) < ((2 ^ q0 x y : Nat) : Int) := by have := Nat.two_pow_pos (q0 x y); omega
  rw [← tot_W]
  constructor
  · intro h; rw [h, Int.zero_mul]
  · intro h; rcases Int.mul_eq_zero.1 h with h | h; exact h; omega
theorem tot_neg (x y : Nat) : tot x y < 0 ↔ W x + W y < 0 := by
  have hp : (0 : Int) < ((2 ^ q0 x y : Nat) : Int) := by have := Nat.two_pow_pos (q0 x y); omega
  rw [← tot_W]
  constructor
  · intro h; exact Int.mul_neg_of_neg_of_pos h hp
  · intro h
    rcases Int.lt_or_le (tot x y) 0 with h' | h'
    · exact h'
    · have := Int.mul_nonneg h' (Int.le_of_lt hp); omega
theorem tot_abs (x y : Nat) : (tot x y).natAbs * 2 ^ q0 x y = (W x + W y).natAbs := by
  rw [← tot_W, Int.natAbs_mul]; rfl

theorem add_fin {x y : Nat} (hx : fin x) (hy : fin y) : double.add x y = some (F (As x y) (Ar x y)) := by
  unfold Format.add
  rw [read_fin hx, read_fin hy]
  have hb : min (-1074 + (ex (rg x) : Int)) (-1074 + (ex (rg y) : Int)) = -1074 + (q0 x y : Int) := by unfold q0; omega
  have e1 : (-1074 + (ex (rg x) : Int) - (-1074 + (q0 x y : Int))).toNat = ex (rg x) - q0 x y := by unfold q0; omega
  have e2 : (-1074 + (ex (rg y) : Int) - (-1074 + (q0 x y : Int))).toNat = ex (rg y) - q0 x y := by unfold q0; omega
  show (some (Datum.number (if signed (sg x) (mag (rg x)) (-1074 + (ex (rg x) : Int) - min (-1074 + (ex (rg x) : Int)) (-1074 + (ex (rg y) : Int))).toNat + signed (sg y) (mag (rg y)) (-1074 + (ex (rg y) : Int) - min (-1074 + (ex (rg x) : Int)) (-1074 + (ex (rg y) : Int))).toNat = 0 then sg x && sg y else decide (signed (sg x) (mag (rg x)) (-1074 + (ex (rg x) : Int) - min (-1074 + (ex (rg x) : Int)) (-1074 + (ex (rg y) : Int))).toNat + signed (sg y) (mag (rg y)) (-1074 + (ex (rg y) : Int) - min (-1074 + (ex (rg x) : Int)) (-1074 + (ex (rg y) : Int))).toNat < 0)) (signed (sg x) (mag (rg x)) (-1074 + (ex (rg x) : Int) - min (-1074 + (ex (rg x) : Int)) (-1074 + (ex (rg y) : Int))).toNat + signed (sg y) (mag (rg y)) (-1074 + (ex (rg y) : Int) - min (-1074 + (ex (rg x) : Int)) (-1074 + (ex (rg y) : Int))).toNat).natAbs (min (-1074 + (ex (rg x) : Int)) (-1074 + (ex (rg y) : Int))))).map double.write = _
  rw [hb, e1, e2]
  show some (double.nearest (if tot x y = 0 then sg x && sg y else decide (tot x y < 0)) (tot x y).natAbs (-1074 + (q0 x y : Int))) = _
  rw [nearest_eq]
  unfold As
  simp only [tot_zero, tot_neg]
  rfl

theorem Ar_le {x y K c : Nat} (h : (W x + W y).natAbs ≤ K * 2 ^ c) (hK : K < 2 * B) (hov : K * 2 ^ c < TOP) : Ar x y < infR ∧ V (Ar x y) ≤ K * 2 ^ c := by
  refine nr_le ((LeV_iff (u := q0 x y) (v := 0) (by omega)).2 ?_) hK hov
  rw [tot_abs, Nat.pow_zero, Nat.mul_one]; exact h
theorem Ar_ge {x y K c : Nat} (h : K * 2 ^ c ≤ (W x + W y).natAbs) (hK : K < 2 * B) (hf : Ar x y < infR) : K * 2 ^ c ≤ V (Ar x y) := by
  refine nr_ge ((GeV_iff (u := q0 x y) (v := 0) (by omega)).2 ?_) hK hf
  rw [tot_abs, Nat.pow_zero, Nat.mul_one]; exact h
theorem Ar_exact {x y r : Nat} (hr : r < infR) (h : (W x + W y).natAbs = V r) : Ar x y = r := by
  have hu := Ar_le (x := x) (y := y) (K := mag r) (c := ex r) (by rw [h]; exact Nat.le_refl _) (mag_lt r) (V_lt_top hr)
  have hl := Ar_ge (x := x) (y := y) (K := mag r) (c := ex r) (by rw [h]; exact Nat.le_refl _) (mag_lt r) hu.1
  exact V_inj (Nat.le_antisymm hu.2 hl)
theorem Ar_comm (x y : Nat) : Ar x y = Ar y x := by
  unfold Ar
  have h1 : q0 x y = q0 y x := by unfold q0; omega
  have h2 : tot x y = tot y x := by unfold tot; rw [h1]; omega
  rw [h1, h2]
theorem signed_zero (s : Bool) (u : Nat) : signed s 0 u = 0 := by unfold signed; cases s <;> simp
/-- The sign of a zero turns no sum's rung. -/
theorem Ar_congr {x x' y : Nat} (h1 : rg x = rg x') (h2 : rg x ≠ 0 → sg x = sg x') : Ar x y = Ar x' y := by
  unfold Ar
  have e1 : q0 x y = q0 x' y := by unfold q0; rw [h1]
  have e2 : tot x y = tot x' y := by
    unfold tot
    rw [e1, ← h1]
    by_cases h0 : rg x = 0
    · rw [h0, mag_zero, signed_zero, signed_zero]
    · rw [h2 h0]
  rw [e1, e2]

/-- The opposite of a word. -/
def ng (x : Nat) : Nat := F (!sg x) (rg x)
theorem sg_ng (x : Nat) : sg (ng x) = !sg x := sg_F (rg_lt x)
theorem rg_ng (x : Nat) : rg (ng x) = rg x := rg_F (rg_lt x)
theorem fin_ng {x : Nat} (h : fin x) : fin (ng x) := by unfold fin; rw [rg_ng]; exact h
theorem W_ng (x : Nat) : W (ng x) = -W x := by
  unfold W
  rw [sg_ng, rg_ng]
  cases sg x <;> simp
theorem sub_eq {x y : Nat} (hy : fin y) : double.sub x y = double.add x (ng y) := by
  unfold Format.sub Format.add
  rw [read_fin hy, read_fin (fin_ng hy), sg_ng, rg_ng]
  rfl

theorem signed_not (s : Bool) (m u : Nat) : signed (!s) m u = -signed s m u := by unfold signed; cases s <;> simp
/-- 'x - y' and 'y - x' have one rung. -/
theorem Ar_flip (x y : Nat) : Ar x (ng y) = Ar y (ng x) := by
  unfold Ar
  have e1 : q0 x (ng y) = q0 y (ng x) := by unfold q0; rw [rg_ng, rg_ng]; omega
  have e2 : tot x (ng y) = -tot y (ng x) := by
    unfold tot
    rw [e1, sg_ng, sg_ng, rg_ng, rg_ng, signed_not, signed_not]
    omega
  rw [e1, e2, Int.natAbs_neg]

theorem order_fin {x y : Nat} (hx : fin x) (hy : fin y) : double.order x y = some (compare (W x) (W y)) := by
  unfold Format.order
  rw [read_fin hx, read_fin hy]
  obtain ⟨q, hq⟩ : ∃ q : Nat, min (ex (rg x)) (ex (rg y)) = q := ⟨_, rfl⟩
  have hb : min (-1074 + (ex (rg x) : Int)) (-1074 + (ex (rg y) : Int)) = -1074 + (q : Int) := by omega
  have e1 : (-1074 + (ex (rg x) : Int) - (-1074 + (q : Int))).toNat + q = ex (rg x) := by omega
  have e2 : (-1074 + (ex (rg y) : Int) - (-1074 + (q : Int))).toNat + q = ex (rg y) := by omega
  show some (compare (signed (sg x) (mag (rg x)) (-1074 + (ex (rg x) : Int) - min (-1074 + (ex (rg x) : Int)) (-1074 + (ex (rg y) : Int))).toNat) (signed (sg y) (mag (rg y)) (-1074 + (ex (rg y) : Int) - min (-1074 + (ex (rg x) : Int)) (-1074 + (ex (rg y) : Int))).toNat)) = _
  rw [hb]
  have h1 : signed (sg x) (mag (rg x)) (-1074 + (ex (rg x) : Int) - (-1074 + (q : Int))).toNat * ((2 ^ q : Nat) : Int) = W x := by rw [signed_mul, e1]; rfl
  have h2 : signed (sg y) (mag (rg y)) (-1074 + (ex (rg y) : Int) - (-1074 + (q : Int))).toNat * ((2 ^ q : Nat) : Int) = W y := by rw [signed_mul, e2]; rfl
  rw [← h1, ← h2]
  have hp : (0 : Int) < ((2 ^ q : Nat) : Int) := by have := Nat.two_pow_pos q; omega
  generalize ((2 ^ q : Nat) : Int) = k at hp
  generalize signed (sg x) (mag (rg x)) _ = a
  generalize signed (sg y) (mag (rg y)) _ = b
  congr 1
  rcases Int.lt_trichotomy a b with h | h | h
  · rw [Int.compare_eq_lt.2 h, Int.compare_eq_lt.2 (Int.mul_lt_mul_of_pos_right h hp)]
  · rw [h, Int.compare_eq_eq.2 rfl, Int.compare_eq_eq.2 rfl]
  · rw [Int.compare_eq_gt.2 h, Int.compare_eq_gt.2 (Int.mul_lt_mul_of_pos_right h hp)]
end Go.Proofs.Qxb6616528a.Fl
