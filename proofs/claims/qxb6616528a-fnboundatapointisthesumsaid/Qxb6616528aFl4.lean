/-
  SEAT b6616528a: FLOAT64 IN PLAIN NUMBERS: quotient, root, hypot.
-/
import Derived.Test.Qxb6616528aFl3
set_option exponentiation.threshold 5000
set_option linter.unusedSimpArgs false
namespace Go.Proofs.Qxb6616528a.Fl
open Ieee

theorem mag_pos {r : Nat} (h : r ≠ 0) : mag r ≠ 0 := by
  have := V_pos (r := r) (by omega)
  unfold V at this
  intro e
  rw [e, Nat.zero_mul] at this
  omega
theorem log2_mag (r : Nat) : (mag r).log2 ≤ 52 := by
  by_cases h : mag r = 0
  · rw [h]; decide
  · have h1 := log2_le h
    have h2 := mag_lt r
    rw [twoB] at h2
    have := (Nat.pow_lt_pow_iff_right (a := 2) (by decide)).1 (Nat.lt_of_le_of_lt h1 h2)
    omega

/-! ### Quotients -/
def mo (m n : Nat) : Nat := 54 + n.log2 - m.log2
def Qm (m n : Nat) : Nat := 2 * (m * 2 ^ mo m n / n) + (m * 2 ^ mo m n % n != 0).toNat
def Qr (a b : Nat) : Nat := nr (Qm (mag a) (mag b)) (-1074 + (ex a : Int) - (-1074 + (ex b : Int)) - (mo (mag a) (mag b) : Int) - 1)
theorem div_fin {x y : Nat} (hx : fin x) (hy : fin y) (h0 : rg y ≠ 0) : double.div x y = some (F (sg x ^^ sg y) (Qr (rg x) (rg y))) := by
  unfold Format.div
  rw [read_fin hx, read_fin hy]
  have hm := mag_pos h0
  unfold Datum.quotient
  simp only [hm, if_false]
  show some (double.nearest (sg x ^^ sg y) (2 * ((mag (rg x) <<< mo (mag (rg x)) (mag (rg y))) / mag (rg y)) + ((mag (rg x) <<< mo (mag (rg x)) (mag (rg y))) % mag (rg y) != 0).toNat) (-1074 + (ex (rg x) : Int) - (-1074 + (ex (rg y) : Int)) - (mo (mag (rg x)) (mag (rg y)) : Int) - 1)) = _
  rw [nearest_eq, Nat.shiftLeft_eq]
  rfl

theorem Qm_le {m n Y : Nat} (hn : 0 < n) (h : 2 * (m * 2 ^ mo m n) ≤ n * Y) : Qm m n ≤ Y := by
  unfold Qm
  generalize m * 2 ^ mo m n = D at h
  have hd := Nat.div_add_mod D n
  by_cases h0 : D % n = 0
  · rw [h0]
    simp only [bne_self_eq_false, Bool.toNat_false, Nat.add_zero]
    have : n * (2 * (D / n)) ≤ n * Y := by
      rw [Nat.mul_left_comm]; omega
    exact Nat.le_of_mul_le_mul_left this hn
  · have hb : (D % n != 0) = true := by simpa using h0
    rw [hb]
    show 2 * (D / n) + 1 ≤ Y
    have : n * (2 * (D / n)) < n * Y := by
      rw [Nat.mul_left_comm]; omega
    have := Nat.lt_of_mul_lt_mul_left this
    omega

theorem Qr_le {a b K c : Nat} (hb : b ≠ 0) (h : V a * 2 ^ 1074 ≤ K * 2 ^ c * V b) (hK : K < 2 * B) (hov : K * 2 ^ c < TOP) : Qr a b < infR ∧ V (Qr a b) ≤ K * 2 ^ c := by
  have hn : 0 < mag b := Nat.pos_of_ne_zero (mag_pos hb)
  refine nr_le ((LeV_iff (u := ex a + 1074) (v := ex b + mo (mag a) (mag b) + 1) (by omega)).2 ?_) hK hov
  by_cases hm : mag a = 0
  · rw [hm]
    have : Qm 0 (mag b) = 0 := by unfold Qm; simp
    rw [this, Nat.zero_mul]; exact Nat.zero_le _
  unfold V at h
  have hl := log2_mag a
  have hmo : mo (mag a) (mag b) = 54 + (mag b).log2 - (mag a).log2 := rfl
  rcases Nat.le_total (ex a + 1074) (c + (ex b + mo (mag a) (mag b) + 1)) with ht | ht
  · obtain ⟨t, ht⟩ : ∃ t, c + (ex b + mo (mag a) (mag b) + 1) = (ex a + 1074) + t := ⟨_, (Nat.add_sub_of_le ht).symm⟩
    rw [Nat.mul_assoc K, ← Nat.pow_add, ht, Nat.pow_add 2 (ex a + 1074) t, Nat.mul_comm (2 ^ (ex a + 1074)) (2 ^ t), ← Nat.mul_assoc]
    refine Nat.mul_le_mul_right _ (Qm_le hn ?_)
    refine Nat.le_of_mul_le_mul_right (c := 2 ^ (ex a + 1074)) ?_ (Nat.two_pow_pos _)
    have h2 := Nat.mul_le_mul_right (2 ^ (mo (mag a) (mag b) + 1)) h
    have e1 : mag a * 2 ^ ex a * 2 ^ 1074 * 2 ^ (mo (mag a) (mag b) + 1) = 2 * (mag a * 2 ^ mo (mag a) (mag b)) * 2 ^ (ex a + 1074) := by
      rw [Nat.pow_succ 2 (mo (mag a) (mag b)), Nat.pow_add 2 (ex a) 1074]
      simp only [Nat.mul_assoc, Nat.mul_comm, Nat.mul_left_comm]
    have e2 : K * 2 ^ c * (mag b * 2 ^ ex b) * 2 ^ (mo (mag a) (mag b) + 1) = mag b * (K * 2 ^ t) * 2 ^ (ex a + 1074) := by
      have e3 : 2 ^ c * 2 ^ ex b * 2 ^ (mo (mag a) (mag b) + 1) = 2 ^ t * 2 ^ (ex a + 1074) := by
        rw [← Nat.pow_add, ← Nat.pow_add, ← Nat.pow_add]
        congr 1
        omega
      rw [show K * 2 ^ c * (mag b * 2 ^ ex b) * 2 ^ (mo (mag a) (mag b) + 1) = mag b * K * (2 ^ c * 2 ^ ex b * 2 ^ (mo (mag a) (mag b) + 1)) by simp only [Nat.mul_assoc, Nat.mul_comm, Nat.mul_left_comm], e3]
      simp only [Nat.mul_assoc]
    rw [e1, e2] at h2
    exact h2
  · exfalso
    have g1 : 2 ^ ((mag a).log2 + ex a + 1074) ≤ mag a * 2 ^ ex a * 2 ^ 1074 := by
      rw [Nat.pow_add, Nat.pow_add]
      exact Nat.mul_le_mul_right _ (Nat.mul_le_mul_right _ (log2_le hm))
    have g2 : K * 2 ^ c * (mag b * 2 ^ ex b) ≤ 2 ^ 53 * 2 ^ c * (2 ^ ((mag b).log2 + 1) * 2 ^ ex b) :=
      Nat.mul_le_mul (Nat.mul_le_mul_right _ (Nat.le_of_lt (by rw [← twoB]; exact hK))) (Nat.mul_le_mul_right _ (Nat.le_of_lt (lt_log2 _)))
    rw [← Nat.pow_add, ← Nat.pow_add, ← Nat.pow_add] at g2
    have g3 := Nat.le_trans g1 (Nat.le_trans h g2)
    have g4 := (Nat.pow_le_pow_iff_right (a := 2) (by decide)).1 g3
    omega

theorem Qr_zero (b : Nat) : Qr 0 b = 0 := by
  unfold Qr nr
  have : Qm (mag 0) (mag b) = 0 := by rw [mag_zero]; unfold Qm; simp
  rw [this, if_pos rfl]

/-! ### Roots -/
theorem rootFrom_spec (n : Nat) : ∀ todo root, root * root ≤ n → n < (root + 2 ^ todo) * (root + 2 ^ todo) → Datum.rootFrom n todo root * Datum.rootFrom n todo root ≤ n ∧ n < (Datum.rootFrom n todo root + 1) * (Datum.rootFrom n todo root + 1)
  | 0, root, h1, h2 => ⟨h1, by simpa [Datum.rootFrom] using h2⟩
  | todo + 1, root, h1, h2 => by
    unfold Datum.rootFrom
    simp only [Nat.one_shiftLeft]
    by_cases h : (root + 2 ^ todo) * (root + 2 ^ todo) ≤ n
    · rw [if_pos h]
      refine rootFrom_spec n todo _ h ?_
      rw [Nat.add_assoc, show 2 ^ todo + 2 ^ todo = 2 ^ (todo + 1) by rw [Nat.pow_succ]; omega]
      exact h2
    · rw [if_neg h]
      exact rootFrom_spec n todo _ h1 (by omega)

def wh (n : Nat) : Nat := Datum.rootFrom n (n.log2 / 2 + 1) 0
theorem wh_spec (n : Nat) : wh n * wh n ≤ n ∧ n < (wh n + 1) * (wh n + 1) := by
  refine rootFrom_spec n _ 0 (by simp) ?_
  rw [Nat.zero_add, ← Nat.pow_add]
  have h := lt_log2 n
  exact Nat.lt_of_lt_of_le h (Nat.pow_le_pow_right (by decide) (by omega))

def mr (r : Nat) : Nat := 2 * 54 - (mag r).log2 + ((-1074 + (ex r : Int) - ((2 * 54 - (mag r).log2 : Nat) : Int)) % 2).toNat
def Sr (r : Nat) : Nat := nr (2 * wh (mag r * 2 ^ mr r) + (wh (mag r * 2 ^ mr r) * wh (mag r * 2 ^ mr r) != mag r * 2 ^ mr r).toNat) ((-1074 + (ex r : Int) - (mr r : Int)) / 2 - 1)
theorem sqrt_fin {x : Nat} (hx : fin x) (h0 : rg x ≠ 0) (hs : sg x = false) : double.sqrt x = some (F false (Sr (rg x))) := by
  unfold Format.sqrt
  rw [read_fin hx]
  have hm := mag_pos h0
  unfold Datum.root
  simp only [hm, if_false, hs]
  show some (double.nearest false (2 * wh (mag (rg x) <<< mr (rg x)) + (wh (mag (rg x) <<< mr (rg x)) * wh (mag (rg x) <<< mr (rg x)) != mag (rg x) <<< mr (rg x)).toNat) ((-1074 + (ex (rg x) : Int) - (mr (rg x) : Int)) / 2 - 1)) = _
  rw [nearest_eq, Nat.shiftLeft_eq]
  rfl

theorem sq_lt {a b : Nat} (h : a * a < b * b) : a < b := by
  rcases Nat.lt_or_ge a b with h' | h'
  · exact h'
  · have := Nat.mul_le_mul h' h'; omega

/-- The root of a number from 1 to 2 lies from 1 to 2. -/
theorem Sr_bounds {r : Nat} (h1 : 2 ^ 1074 ≤ V r) (h2 : V r ≤ 2 ^ 1075) : Sr r < infR ∧ 2 ^ 1074 ≤ V (Sr r) ∧ V (Sr r) ≤ 2 ^ 1075 := by
  have hr0 : r ≠ 0 := by intro e; rw [e, V_zero] at h1; have := Nat.two_pow_pos 1074; omega
  have hm := mag_pos hr0
  have hl := log2_mag r
  unfold V at h1 h2
  have hex : ex r ≤ 1075 := by
    have g : 2 ^ ex r ≤ mag r * 2 ^ ex r := Nat.le_mul_of_pos_left _ (Nat.pos_of_ne_zero hm)
    exact (Nat.pow_le_pow_iff_right (a := 2) (by decide)).1 (Nat.le_trans g h2)
  have hmr : mr r = 2 * 54 - (mag r).log2 + ((-1074 + (ex r : Int) - ((2 * 54 - (mag r).log2 : Nat) : Int)) % 2).toNat := rfl
  obtain ⟨g, hg⟩ : ∃ g : Nat, mr r + 1074 = 2 * g + ex r := ⟨(mr r + 1074 - ex r) / 2, by omega⟩
  have hh : (-1074 + (ex r : Int) - (mr r : Int)) / 2 - 1 = -(g : Int) - 1 := by omega
  have hn1 : 2 ^ (2 * g) ≤ mag r * 2 ^ mr r := by
    refine Nat.le_of_mul_le_mul_right (c := 2 ^ ex r) ?_ (Nat.two_pow_pos _)
    have := Nat.mul_le_mul_right (2 ^ mr r) h1
    rw [← Nat.pow_add, Nat.add_comm, hg] at this
    rw [← Nat.pow_add]
    rw [Nat.mul_assoc, Nat.mul_comm (2 ^ ex r), ← Nat.mul_assoc] at this
    exact this
  have hn2 : mag r * 2 ^ mr r ≤ 2 ^ (2 * g + 1) := by
    refine Nat.le_of_mul_le_mul_right (c := 2 ^ ex r) ?_ (Nat.two_pow_pos _)
    have := Nat.mul_le_mul_right (2 ^ mr r) h2
    rw [← Nat.pow_add, show 1075 + mr r = 2 * g + 1 + ex r by omega] at this
    rw [← Nat.pow_add]
    rw [Nat.mul_assoc, Nat.mul_comm (2 ^ ex r), ← Nat.mul_assoc] at this
    exact this
  obtain ⟨w1, w2⟩ := wh_spec (mag r * 2 ^ mr r)
  have hSr : Sr r = nr (2 * wh (mag r * 2 ^ mr r) + (wh (mag r * 2 ^ mr r) * wh (mag r * 2 ^ mr r) != mag r * 2 ^ mr r).toNat) (-(g : Int) - 1) := by
    unfold Sr; rw [hh]
  have hb : (wh (mag r * 2 ^ mr r) * wh (mag r * 2 ^ mr r) != mag r * 2 ^ mr r).toNat ≤ 1 := by
    cases (wh (mag r * 2 ^ mr r) * wh (mag r * 2 ^ mr r) != mag r * 2 ^ mr r) <;> decide
  rw [hSr]
  generalize (wh (mag r * 2 ^ mr r) * wh (mag r * 2 ^ mr r) != mag r * 2 ^ mr r).toNat = t at hb
  generalize wh (mag r * 2 ^ mr r) = k at w1 w2
  have k1 : 2 ^ g < k + 1 := sq_lt (Nat.lt_of_le_of_lt (by rw [← Nat.pow_add, ← Nat.two_mul]; exact hn1) w2)
  have k2 : k < 2 ^ (g + 1) := by
    refine sq_lt (Nat.lt_of_le_of_lt (Nat.le_trans w1 hn2) ?_)
    rw [← Nat.pow_add]
    exact Nat.pow_lt_pow_right (by decide) (by omega)
  have u1 : LeV (2 * k + t) (-(g : Int) - 1) 1 1075 := by
    refine (LeV_iff (u := 1073) (v := g) (by omega)).2 ?_
    rw [Nat.one_mul, ← Nat.pow_add, show 1075 + g = (g + 1) + 1 + 1073 by omega, Nat.pow_add, Nat.pow_succ]
    exact Nat.mul_le_mul_right _ (by omega)
  have u2 : GeV (2 * k + t) (-(g : Int) - 1) 1 1074 := by
    refine (GeV_iff (u := 1073) (v := g) (by omega)).2 ?_
    rw [Nat.one_mul, ← Nat.pow_add, show 1074 + g = g + 1 + 1073 by omega, Nat.pow_add, Nat.pow_succ]
    exact Nat.mul_le_mul_right _ (by omega)
  have r1 := nr_le u1 (by decide) (pow_lt_TOP (by decide))
  have r2 := nr_ge u2 (by decide) r1.1
  rw [Nat.one_mul] at r1 r2
  exact ⟨r1.1, r2, r1.2⟩

/-! ### Hypot -/
/-- 1.0 -/
def oneR : Nat := 1023 * B
theorem V_one : V oneR = 2 ^ 1074 := by
  have h : oneR = 1022 * B + B := by unfold oneR; rw [← Nat.succ_mul]
  rw [h, V_form (.inr ⟨Nat.le_refl _, by omega⟩), show B = 2 ^ 52 from rfl, ← Nat.pow_add]
theorem oneR_val : oneR = 0x3FF0000000000000 := rfl

/-- The rung of '1 + q*q', q = small/big. -/
def hin (big small : Nat) : Nat := Ar (F false (Mr (Qr small big) (Qr small big))) (F false oneR)
def hyp2 (big small : Nat) : Nat := Mr (Sr (hin big small)) big

theorem W_pos {r : Nat} (h : r < S) : W (F false r) = (V r : Int) := by unfold W; rw [sg_F h, rg_F h]; rfl

theorem hyp_parts {big small : Nat} (hb : big ≠ 0) (hs : small ≤ big) :
    Qr small big < infR ∧ Mr (Qr small big) (Qr small big) < infR ∧ hin big small < infR ∧ hin big small ≠ 0 ∧ Sr (hin big small) < infR ∧ 2 ^ 1074 ≤ V (Sr (hin big small)) ∧ V (Sr (hin big small)) ≤ 2 ^ 1075 := by
  have q := Qr_le (a := small) (b := big) (K := 1) (c := 1074) hb (by rw [Nat.one_mul, Nat.mul_comm]; exact Nat.mul_le_mul_left _ (V_le hs)) (by decide) (pow_lt_TOP (by decide))
  rw [Nat.one_mul] at q
  have qq := Mr_pow q.2 q.2 (c := 1074) rfl (by decide)
  have hqS := Nat.lt_trans qq.1 infR_lt_S
  have e1 : (W (F false (Mr (Qr small big) (Qr small big))) + W (F false oneR)).natAbs = V (Mr (Qr small big) (Qr small big)) + 2 ^ 1074 := by
    rw [W_pos hqS, W_pos (by decide), V_one]; omega
  have a1 := Ar_le (x := F false (Mr (Qr small big) (Qr small big))) (y := F false oneR) (K := 1) (c := 1075) (by rw [e1, Nat.one_mul, Nat.pow_succ 2 1074]; omega) (by decide) (pow_lt_TOP (by decide))
  have a2 := Ar_ge (x := F false (Mr (Qr small big) (Qr small big))) (y := F false oneR) (K := 1) (c := 1074) (by rw [e1, Nat.one_mul]; omega) (by decide) a1.1
  rw [Nat.one_mul] at a1 a2
  have sr := Sr_bounds (r := hin big small) a2 a1.2
  refine ⟨q.1, qq.1, a1.1, ?_, sr⟩
  intro e
  have : V (hin big small) = 0 := by rw [e, V_zero]
  have h3 : 2 ^ 1074 ≤ V (hin big small) := a2
  have := Nat.two_pow_pos 1074
  omega

theorem hyp2_bounds {big small : Nat} (hb : big ≠ 0) (hs : small ≤ big) (hov : 2 * V big < TOP) : hyp2 big small < infR ∧ V big ≤ V (hyp2 big small) ∧ V (hyp2 big small) ≤ 2 * V big := by
  obtain ⟨_, _, _, _, h1, h2, h3⟩ := hyp_parts hb hs
  have e : mag big * 2 ^ (ex big + 1) = 2 * V big := by unfold V; rw [Nat.pow_succ]; simp only [Nat.mul_assoc, Nat.mul_comm, Nat.mul_left_comm]
  have u := Mr_le (a := Sr (hin big small)) (b := big) (K := mag big) (c := ex big + 1) (by
    rw [e, Nat.mul_comm (2 * V big), ← Nat.mul_assoc, ← Nat.pow_succ]
    exact Nat.mul_le_mul_right _ h3) (mag_lt big) (by rw [e]; exact hov)
  have l := Mr_ge (a := Sr (hin big small)) (b := big) (K := mag big) (c := ex big) (by
    show V big * 2 ^ 1074 ≤ _
    rw [Nat.mul_comm]
    exact Nat.mul_le_mul_right _ h2) (mag_lt big) u.1
  rw [e] at u
  exact ⟨u.1, l, u.2⟩
/-- The rung that math.Hypot answers for two finite rungs. -/
def hyp (a b : Nat) : Nat := if a = 0 ∧ b = 0 then 0 else if a < b then hyp2 b a else hyp2 a b
end Go.Proofs.Qxb6616528a.Fl
