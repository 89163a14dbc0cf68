/-
  SEAT b6616528a: plain facts of floats at one point: misses, centre, order.
-/
import Derived.Test.Qxb6616528aFx
set_option linter.unusedSimpArgs false
set_option exponentiation.threshold 5000
namespace Go.Proofs.Qxb6616528a
open Go.ChangeShapes Go.WideShapes Go.ChangeAt Go.RowKit
open Fl

theorem nr_le_inf (m : Nat) (p : Int) : nr m p ≤ infR := by
  unfold nr
  split
  · exact Nat.zero_le _
  · exact Nat.min_le_right _ _
theorem nr_lt_S (m : Nat) (p : Int) : nr m p < S := Nat.lt_of_le_of_lt (nr_le_inf m p) infR_lt_S
theorem Ar_lt_S (x y : Nat) : Ar x y < S := nr_lt_S _ _
theorem Mr_lt_S (x y : Nat) : Mr x y < S := nr_lt_S _ _
theorem Qr_lt_S (x y : Nat) : Qr x y < S := nr_lt_S _ _
theorem rg_addw (x y : Nat) : rg (addw x y) = Ar x y := rg_F (Ar_lt_S x y)
theorem rg_subw (x y : Nat) : rg (subw x y) = Ar x (ng y) := rg_F (Ar_lt_S x (ng y))
theorem rg_mulw (x y : Nat) : rg (mulw x y) = Mr (rg x) (rg y) := rg_F (Mr_lt_S _ _)
theorem sg_mulw (x y : Nat) : sg (mulw x y) = (sg x ^^ sg y) := sg_F (Mr_lt_S _ _)
theorem rg_divw (x y : Nat) : rg (divw x y) = Qr (rg x) (rg y) := rg_F (Qr_lt_S _ _)
theorem sg_divw (x y : Nat) : sg (divw x y) = (sg x ^^ sg y) := sg_F (Qr_lt_S _ _)

/-- What a word weighs tells its rung. -/
theorem rg_of_W {x r : Nat} (h : (W x).natAbs = V r) : rg x = r := V_inj (by rw [← W_abs]; exact h)
theorem W_zero {x : Nat} (h : rg x = 0) : W x = 0 := by unfold W; rw [h, V_zero]; simp
theorem rg_zero_of_W {x : Nat} (h : W x = 0) : rg x = 0 := rg_of_W (by rw [h, V_zero]; rfl)
theorem same_of_W {x y : Nat} (h : W x = W y) : rg x = rg y ∧ (rg x ≠ 0 → sg x = sg y) := by
  have h1 : rg x = rg y := rg_of_W (by rw [h, W_abs])
  refine ⟨h1, fun h0 => ?_⟩
  have hp := V_pos (Nat.pos_of_ne_zero h0)
  unfold W at h
  rw [← h1] at h
  cases hx : sg x <;> cases hy : sg y <;> simp only [hx, hy, if_true, if_false, Bool.false_eq_true] at h ⊢ <;> omega
theorem Ar_W {x x' y : Nat} (h : W x = W x') : Ar x y = Ar x' y := Ar_congr (same_of_W h).1 (same_of_W h).2
theorem Ar_W2 {x y y' : Nat} (h : W y = W y') : Ar x y = Ar x y' := by rw [Ar_comm x y, Ar_comm x y']; exact Ar_W h
theorem zero_lt_inf : 0 < infR := by decide
theorem Ar_cancel {x y : Nat} (h : W x + W y = 0) : Ar x y = 0 := Ar_exact zero_lt_inf (by rw [h, V_zero]; rfl)
theorem W_addw (x y : Nat) : W (addw x y) = if W x + W y < 0 then -(V (Ar x y) : Int) else (V (Ar x y) : Int) := by
  unfold W
  rw [rg_addw]
  have hs : sg (addw x y) = As x y := sg_F (Ar_lt_S x y)
  rw [hs]
  change (if As x y = true then _ else _) = if W x + W y < 0 then _ else _
  by_cases h0 : W x + W y = 0
  · rw [Ar_cancel h0, V_zero]; simp
  · unfold As
    rw [if_neg h0]
    by_cases h : W x + W y < 0
    · rw [if_pos h, if_pos (decide_eq_true h)]
    · rw [if_neg h, if_neg (by simpa using h)]
theorem W_subw (x y : Nat) : W (subw x y) = if W x - W y < 0 then -(V (Ar x (ng y)) : Int) else (V (Ar x (ng y)) : Int) := by
  unfold subw
  rw [W_addw, W_ng]
  rfl
theorem W_fmax (x y : Nat) : W (fmax x y) = max (W x) (W y) := by
  unfold fmax
  rcases Int.lt_trichotomy (W x) (W y) with h | h | h
  · rw [Int.compare_eq_lt.2 h]; show W y = _; omega
  · rw [Int.compare_eq_eq.2 h]; show W (if sg x = true then y else x) = _; split <;> omega
  · rw [Int.compare_eq_gt.2 h]; show W x = _; omega
/-- The opposite difference. -/
theorem W_subw_opp {a a' b : Nat} (h : W a = W a') : W (subw b a') = -W (subw a b) := by
  rw [W_subw, W_subw, Ar_flip b a', ← Ar_W (y := ng b) h, ← h]
  rcases Int.lt_trichotomy (W a) (W b) with h1 | h1 | h1
  · rw [if_neg (by omega), if_pos (by omega)]; omega
  · rw [Ar_cancel (x := a) (y := ng b) (by rw [W_ng]; omega), V_zero]; simp
  · rw [if_pos (by omega), if_neg (by omega)]
theorem abs_max (z : Int) : max z (-z) = (z.natAbs : Int) := by omega
theorem rg_max3 {a a' b z : Nat} (h : W a = W a') (hz : rg z = 0) : rg (fmax (fmax (subw a b) z) (subw b a')) = Ar a (ng b) := by
  refine rg_of_W ?_
  rw [W_fmax, W_fmax, W_subw_opp h, W_zero hz, ← rg_subw, ← W_abs]
  omega
theorem rg_max3' {a a' b z : Nat} (h : W a = W a') (hz : rg z = 0) : rg (fmax (fmax (subw a b) (subw b a')) z) = Ar a (ng b) := by
  refine rg_of_W ?_
  rw [W_fmax, W_fmax, W_subw_opp h, W_zero hz, ← rg_subw, ← W_abs]
  omega
theorem rg_max2 {a a' b : Nat} (h : W a = W a') : rg (fmax (subw b a) (subw a' b)) = Ar a (ng b) := by
  refine rg_of_W ?_
  have e : W (subw a' b) = W (subw a b) := by
    rw [W_subw, W_subw, Ar_W (y := ng b) h, h]
  rw [W_fmax, W_subw_opp (rfl : W a = W a), e, ← rg_subw, ← W_abs]
  omega
/-- Squares know no sign. -/
theorem mul_sq {w a b : Nat} (h : rg a = rg b) : mulw (mulw w a) a = mulw (mulw w b) b := by
  unfold mulw
  rw [sg_F (Mr_lt_S _ _), sg_F (Mr_lt_S _ _), rg_F (Mr_lt_S _ _), rg_F (Mr_lt_S _ _), h]
  cases sg w <;> cases sg a <;> cases sg b <;> rfl

/-! ### Halves -/
theorem Qm_ge {m n Y : Nat} (hn : 0 < n) (h : n * Y ≤ 2 * (m * 2 ^ mo m n)) : Y ≤ Qm m n := by
  unfold Qm
  generalize m * 2 ^ mo m n = D at h
  have hd := Nat.div_add_mod D n
  have hl := Nat.mod_lt D hn
  by_cases h0 : D % n = 0
  · rw [h0]
    simp only [bne_self_eq_false, Bool.toNat_false, Nat.add_zero]
    have : n * Y ≤ n * (2 * (D / n)) := by
      rw [Nat.mul_left_comm]; omega
    exact Nat.le_of_mul_le_mul_left this hn
  · have hb : (D % n != 0) = true := by simpa using h0
    rw [hb]
    show Y ≤ 2 * (D / n) + 1
    have : n * Y < n * (2 * (D / n) + 2) := by
      rw [Nat.mul_add, Nat.mul_left_comm]; omega
    have := Nat.lt_of_mul_lt_mul_left this
    omega
def twoR : Nat := 1024 * B
theorem V_two : V twoR = 2 ^ 1075 := by
  have : V (1023 * B + B) = B * 2 ^ 1023 := V_form (Or.inr ⟨Nat.le_refl _, by decide⟩)
  have e : twoR = 1023 * B + B := by decide
  rw [e, this]; decide
theorem mag_two : mag twoR = B := by decide
theorem ex_two : ex twoR = 1023 := by decide
theorem Qr_two_ge {a K c : Nat} (h : K * 2 ^ c * 2 ≤ V a) (ha : a ≠ 0) (hK : K < 2 * B) (hf : Qr a twoR < infR) : K * 2 ^ c ≤ V (Qr a twoR) := by
  unfold Qr at hf ⊢
  rw [mag_two, ex_two] at hf ⊢
  refine nr_ge ((GeV_iff (u := ex a + 1074) (v := 1023 + mo (mag a) B + 1) (by omega)).2 ?_) hK hf
  have hma := mag_pos ha
  have hl := log2_mag a
  have hlo := log2_le hma
  have hB : B.log2 = 52 := by decide
  have hmo : mo (mag a) B = 54 + B.log2 - (mag a).log2 := rfl
  rw [hB] at hmo
  obtain ⟨t, ht⟩ : ∃ t, mo (mag a) B = 53 + t := ⟨mo (mag a) B - 53, by omega⟩
  have hq : Qm (mag a) B = mag a * 2 ^ (t + 2) := by
    unfold Qm
    rw [ht]
    have e : mag a * 2 ^ (53 + t) = mag a * 2 ^ (t + 1) * B := by
      show _ = mag a * 2 ^ (t + 1) * 2 ^ 52
      rw [Nat.mul_assoc, ← Nat.pow_add]; congr 2; omega
    rw [e, Nat.mul_mod_left, Nat.mul_div_cancel _ B_pos]
    simp only [bne_self_eq_false, Bool.toNat_false, Nat.add_zero]
    rw [Nat.mul_left_comm, ← Nat.pow_succ']
  rw [hq, ht]
  unfold V at h
  have e1 : mag a * 2 ^ (t + 2) * 2 ^ (ex a + 1074) = mag a * 2 ^ ex a * 2 ^ (t + 1076) := by
    rw [Nat.mul_assoc, Nat.mul_assoc, ← Nat.pow_add, ← Nat.pow_add, show t + 2 + (ex a + 1074) = ex a + (t + 1076) by omega]
  have e2 : K * 2 ^ c * 2 ^ (1023 + (53 + t) + 1) = K * 2 ^ c * 2 * 2 ^ (t + 1076) := by
    rw [Nat.mul_assoc (K * 2 ^ c) 2, ← Nat.pow_succ', show 1023 + (53 + t) + 1 = (t + 1076).succ by omega]
  rw [e1, e2]
  exact Nat.mul_le_mul_right _ h
theorem Qr_half {a r : Nat} (hr : r < infR) (h : V a = 2 * V r) : Qr a twoR = r := by
  by_cases h0 : a = 0
  · subst h0
    rw [V_zero] at h
    rw [Qr_zero]
    exact V_inj (by rw [V_zero]; omega)
  have h2 : twoR ≠ 0 := by decide
  have hu := Qr_le (a := a) (b := twoR) (K := mag r) (c := ex r) h2 (by
    rw [h, V_two]
    show 2 * V r * 2 ^ 1074 ≤ V r * 2 ^ 1075
    rw [show (2 : Nat) ^ 1075 = 2 * 2 ^ 1074 from Nat.pow_succ', Nat.mul_comm 2 (V r), Nat.mul_assoc]
    exact Nat.le_refl _) (mag_lt r) (V_lt_top hr)
  have hl := Qr_two_ge (a := a) (K := mag r) (c := ex r) (by
    rw [h]
    show V r * 2 ≤ _
    omega) h0 (mag_lt r) hu.1
  exact V_inj (Nat.le_antisymm hu.2 hl)
theorem twice_rung (r : Nat) : ∃ q, V q = 2 * V r := by
  by_cases h : r < B
  · refine ⟨0 * B + 2 * r, ?_⟩
    rw [V_form (Or.inl ⟨rfl, by omega⟩)]
    unfold V mag ex
    rw [if_pos h, if_pos h]
    omega
  · refine ⟨(ex r + 1) * B + mag r, ?_⟩
    have hm : B ≤ mag r := by unfold mag; rw [if_neg h]; omega
    rw [V_form (Or.inr ⟨hm, Nat.le_of_lt (mag_lt r)⟩)]
    unfold V
    rw [Nat.pow_succ, ← Nat.mul_assoc]
    omega
def twoW : Nat := 4611686018427387904
theorem rg_twoW : rg twoW = twoR := by decide
theorem sg_twoW : sg twoW = false := by decide
theorem fin_twoW : fin twoW := by unfold fin; rw [rg_twoW]; decide
/-- The centre of a point. -/
theorem W_centre {a a' c : Nat} (h : W a = W a') (ha : Le a c) (hc : c + 1 < 2098) : W (divw (addw a a') twoW) = W a := by
  obtain ⟨q, hq⟩ := twice_rung (rg a)
  have hqf : q < infR := by
    refine lt_inf_of_V ?_
    have h1 := ha.2
    have h2 := pow_lt_TOP hc
    rw [Nat.pow_succ] at h2
    omega
  have hs : W a + W a' = 2 * W a := by omega
  have har : Ar a a' = q := Ar_exact hqf (by rw [hs, hq, ← W_abs]; omega)
  have hr : rg (divw (addw a a') twoW) = rg a := by
    rw [rg_divw, rg_addw, rg_twoW, har]
    exact Qr_half ha.1 hq
  have hsum : W (addw a a') = if W a < 0 then -(V q : Int) else (V q : Int) := by
    rw [W_addw, har, hs]
    by_cases hl : W a < 0
    · rw [if_pos hl, if_pos (by omega)]
    · rw [if_neg hl, if_neg (by omega)]
  have hsg : sg (divw (addw a a') twoW) = sg (addw a a') := by rw [sg_divw, sg_twoW]; cases sg (addw a a') <;> rfl
  have e1 : W (divw (addw a a') twoW) = if sg (addw a a') then -(V (rg a) : Int) else (V (rg a) : Int) := by
    unfold W; rw [hr, hsg]
  have e2 : W (addw a a') = if sg (addw a a') then -(V q : Int) else (V q : Int) := by
    conv => lhs; unfold W
    rw [rg_addw, har]
  have e3 := W_abs a
  rw [e1]
  rw [e2] at hsum
  clear e1 e2 hsg hr
  clear har hs hqf
  generalize V q = vq at hq hsum
  generalize V (rg a) = va at hq e3 ⊢
  generalize W a = wa at e3 hsum ⊢
  generalize sg (addw a a') = sb at hsum ⊢
  clear h ha hc
  cases sb
  · rw [if_neg (by simp)] at hsum ⊢
    split at hsum <;> omega
  · rw [if_pos rfl] at hsum ⊢
    split at hsum <;> omega
theorem rg_halfgap {a a' : Nat} (h : W a = W a') : rg (divw (subw a' a) twoW) = 0 := by
  rw [rg_divw, rg_subw, Ar_cancel (by rw [W_ng]; omega), Qr_zero]
theorem fin_zero {x : Nat} (h : rg x = 0) : fin x := by unfold fin; rw [h]; exact zero_lt_inf

/-! ### Nothing added -/
theorem W_add_zero {a z : Nat} (ha : fin a) (hz : rg z = 0) : W (addw a z) = W a := by
  have har : Ar a z = rg a := Ar_exact ha (by rw [W_zero hz, Int.add_zero, W_abs])
  rw [W_addw, W_zero hz, Int.add_zero, har]
  have := W_abs a
  split <;> omega
theorem fin_add_zero {a z : Nat} (ha : fin a) (hz : rg z = 0) : fin (addw a z) := by
  have har : Ar a z = rg a := Ar_exact ha (by rw [W_zero hz, Int.add_zero, W_abs])
  unfold fin; rw [rg_addw, har]; exact ha
theorem rg_add_zeros {a z : Nat} (ha : rg a = 0) (hz : rg z = 0) : rg (addw a z) = 0 := by
  rw [rg_addw]; exact Ar_cancel (by rw [W_zero ha, W_zero hz]; rfl)

/-! ### Order with a bar that may be anything -/
theorem read_inf {x : Nat} (h : rg x = infR) : Ieee.double.read x = .infinity (sg x) := by
  unfold Ieee.Format.read
  simp only [signWeight_eq, binade_eq, infRung_eq, leastPlace_eq]
  show (if rg x < B then Ieee.Datum.number (sg x) (rg x) (-1074) else if rg x < infR then Ieee.Datum.number (sg x) (B + rg x % B) (-1074 + ((rg x / B - 1 : Nat) : Int)) else if rg x = infR then Ieee.Datum.infinity (sg x) else Ieee.Datum.nan (sg x) (rg x - infR)) = _
  rw [if_neg (by rw [h]; decide), if_neg (by rw [h]; decide), if_pos h]
theorem read_nan {x : Nat} (h : infR < rg x) : Ieee.double.read x = .nan (sg x) (rg x - infR) := by
  unfold Ieee.Format.read
  simp only [signWeight_eq, binade_eq, infRung_eq, leastPlace_eq]
  show (if rg x < B then Ieee.Datum.number (sg x) (rg x) (-1074) else if rg x < infR then Ieee.Datum.number (sg x) (B + rg x % B) (-1074 + ((rg x / B - 1 : Nat) : Int)) else if rg x = infR then Ieee.Datum.infinity (sg x) else Ieee.Datum.nan (sg x) (rg x - infR)) = _
  have hB : B ≤ infR := by decide
  rw [if_neg (by omega), if_neg (by omega), if_neg (by omega)]
theorem order_inf_left {x y : Nat} (h : rg x = infR) (hy : fin y) : Ieee.double.order x y = some (if sg x then .lt else .gt) := by
  unfold Ieee.Format.order
  rw [read_inf h, read_fin hy]; rfl
theorem order_inf_right {x y : Nat} (hx : fin x) (h : rg y = infR) : Ieee.double.order x y = some (if sg y then .gt else .lt) := by
  unfold Ieee.Format.order
  rw [read_inf h, read_fin hx]; rfl
theorem order_nan_left {x y : Nat} (h : infR < rg x) : Ieee.double.order x y = none := by
  unfold Ieee.Format.order
  rw [read_nan h]; rfl
def leq (x y : Nat) : Bool := Ieee.double.order x y == some .lt || Ieee.double.order x y == some .eq
def geq (x y : Nat) : Bool := Ieee.double.order x y == some .gt || Ieee.double.order x y == some .eq
theorem geq_of_leq {bar sum low : Nat} (hs : fin sum) (hl : fin low) (hw : W low = W sum) (h : leq bar sum = true) : geq low bar = true := by
  unfold leq at h
  unfold geq
  rcases Nat.lt_trichotomy (rg bar) infR with hb | hb | hb
  · rw [order_fin hb hs] at h
    rw [order_fin hl hb, hw]
    rcases Int.lt_trichotomy (W bar) (W sum) with h1 | h1 | h1
    · rw [Int.compare_eq_gt.2 h1]; rfl
    · rw [h1, Int.compare_eq_eq.2 rfl]; rfl
    · rw [Int.compare_eq_gt.2 h1] at h; simp at h
  · rw [order_inf_left hb hs] at h
    rw [order_inf_right hl hb]
    cases hsb : sg bar <;> simp [hsb] at h ⊢
  · rw [order_nan_left hb] at h
    simp at h
theorem eq_of_W {x y : Nat} (hx : fin x) (hy : fin y) (h : W x = W y) : Ieee.double.order x y = some .eq := by
  rw [order_fin hx hy, h, Int.compare_eq_eq.2 rfl]
theorem fin_W_of_eq {x y : Nat} (hx : fin x) (h : Ieee.double.order x y = some .eq) : fin y ∧ W x = W y := by
  rcases Nat.lt_trichotomy (rg y) infR with hb | hb | hb
  · refine ⟨hb, ?_⟩
    rw [order_fin hx hb] at h
    exact Int.compare_eq_eq.1 (Option.some.inj h)
  · rw [order_inf_right hx hb] at h
    cases hsb : sg y <;> simp [hsb] at h
  · unfold Ieee.Format.order at h
    rw [read_nan hb, read_fin hx] at h
    simp [Ieee.Datum.order] at h

/-! ### In range -/
def loC : Nat := 13920209183539462144
def hiC : Nat := 4696837146684686336
def inR (v : Nat) : Bool := geq v loC && leq v hiC
theorem V_hiC : V hiC ≤ 2 ^ 1094 := by decide
theorem inR_le {v : Nat} (h : inR v = true) : Le v 1094 := by
  unfold inR at h
  rw [Bool.and_eq_true] at h
  obtain ⟨h1, h2⟩ := h
  have f1 : fin loC := by unfold fin; decide
  have f2 : fin hiC := by unfold fin; decide
  rcases Nat.lt_trichotomy (rg v) infR with hb | hb | hb
  · refine ⟨hb, ?_⟩
    unfold geq at h1
    unfold leq at h2
    rw [order_fin hb f1] at h1
    rw [order_fin hb f2] at h2
    have e1 : W loC = -(V hiC : Int) := by unfold W; rw [show sg loC = true by decide, show rg loC = hiC by decide]; rfl
    have e2 : W hiC = (V hiC : Int) := by unfold W; rw [show sg hiC = false by decide, show rg hiC = hiC by decide]; rfl
    have g1 : W loC ≤ W v := by
      rcases Int.lt_trichotomy (W v) (W loC) with h | h | h
      · rw [Int.compare_eq_lt.2 h] at h1; simp at h1
      · omega
      · omega
    have g2 : W v ≤ W hiC := by
      rcases Int.lt_trichotomy (W v) (W hiC) with h | h | h
      · omega
      · omega
      · rw [Int.compare_eq_gt.2 h] at h2; simp at h2
    have := W_abs v
    have := V_hiC
    omega
  · unfold geq at h1
    unfold leq at h2
    rw [order_inf_left hb f1] at h1
    rw [order_inf_left hb f2] at h2
    cases hsb : sg v <;> simp [hsb] at h1 h2
  · unfold geq at h1
    rw [order_nan_left hb] at h1
    simp at h1
end Go.Proofs.Qxb6616528a
