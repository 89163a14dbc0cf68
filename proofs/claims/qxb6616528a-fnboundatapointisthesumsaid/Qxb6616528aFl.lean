/-
  SEAT b6616528a: FLOAT64 IN PLAIN NUMBERS: a finite word is a sign and a rung; its magnitude is a whole number of units of 2^-1074; rounding keeps to bounds that the format has. No Go in sight.
-/
import Ieee.Arith
namespace Go.Proofs.Qxb6616528a.Fl
open Ieee

/-- Rungs to a binade: 2^52. -/
def B : Nat := 2 ^ 52
def infR : Nat := 2047 * B
def S : Nat := 2 ^ 63
theorem B_val : B = 4503599627370496 := rfl
theorem infR_val : infR = 9218868437227405312 := rfl
theorem S_val : S = 9223372036854775808 := rfl
theorem binade_eq : double.binade = B := rfl
theorem infRung_eq : double.infRung = infR := rfl
theorem signWeight_eq : double.signWeight = S := rfl
theorem leastPlace_eq : double.leastPlace = -1074 := rfl

def mag (r : Nat) : Nat := if r < B then r else B + r % B
def ex (r : Nat) : Nat := if r < B then 0 else r / B - 1
/-- The magnitude of rung r, in units of 2^-1074. -/
def V (r : Nat) : Nat := mag r * 2 ^ ex r

theorem B_pos : 0 < B := Nat.two_pow_pos _

theorem rung_form (r : Nat) : r = ex r * B + mag r := by
  unfold ex mag
  by_cases h : r < B
  · simp [h]
  · rw [if_neg h, if_neg h]
    have h1 : 1 ≤ r / B := (Nat.le_div_iff_mul_le B_pos).2 (by omega)
    have h2 := Nat.div_add_mod r B
    obtain ⟨d, hd⟩ : ∃ d, r / B = d + 1 := ⟨r / B - 1, by omega⟩
    rw [hd] at h2 ⊢
    rw [Nat.add_sub_cancel, Nat.mul_comm]
    rw [Nat.mul_add] at h2
    omega

theorem mag_lt (r : Nat) : mag r < 2 * B := by
  unfold mag
  by_cases h : r < B
  · rw [if_pos h]; omega
  · rw [if_neg h]
    have := Nat.mod_lt r B_pos
    omega

theorem mag_ge {r : Nat} (h : 0 < ex r) : B ≤ mag r := by
  unfold ex at h
  unfold mag
  by_cases hr : r < B
  · rw [if_pos hr] at h; omega
  · rw [if_neg hr]; omega

theorem mag_zero : mag 0 = 0 := rfl
theorem V_zero : V 0 = 0 := by simp [V, mag_zero]

/-- The magnitude of the rung that rounding makes. -/
theorem V_form {e k : Nat} (h : (e = 0 ∧ k ≤ 2 * B) ∨ (B ≤ k ∧ k ≤ 2 * B)) : V (e * B + k) = k * 2 ^ e := by
  have hB := B_pos
  by_cases hk : k < B
  · have he : e = 0 := by omega
    subst he
    simp [V, mag, ex, hk]
  · by_cases h2 : k = 2 * B
    · subst h2
      have h3 : (e * B + 2 * B) / B = e + 2 := by
        rw [← Nat.add_mul]; exact Nat.mul_div_cancel _ hB
      have h4 : (e * B + 2 * B) % B = 0 := by
        rw [← Nat.add_mul]; exact Nat.mul_mod_left _ _
      have h5 : ¬ e * B + 2 * B < B := by omega
      unfold V mag ex
      rw [if_neg h5, if_neg h5, h3, h4, Nat.add_zero, show e + 2 - 1 = e + 1 by omega, Nat.pow_succ]
      rw [Nat.mul_comm 2 B, Nat.mul_assoc, Nat.mul_comm 2 (2 ^ e)]
    · obtain ⟨j, hj⟩ : ∃ j, k = B + j := ⟨k - B, by omega⟩
      have hjB : j < B := by omega
      subst hj
      have h3 : (e * B + (B + j)) / B = e + 1 := by
        rw [show e * B + (B + j) = j + (e + 1) * B by rw [Nat.add_mul]; omega, Nat.add_mul_div_right _ _ hB, Nat.div_eq_of_lt hjB]
        omega
      have h4 : (e * B + (B + j)) % B = j := by
        rw [show e * B + (B + j) = j + (e + 1) * B by rw [Nat.add_mul]; omega, Nat.add_mul_mod_self_right, Nat.mod_eq_of_lt hjB]
      have h5 : ¬ e * B + (B + j) < B := by omega
      unfold V mag ex
      rw [if_neg h5, if_neg h5, h3, h4, Nat.add_sub_cancel]

theorem V_lt {r q : Nat} (h : r < q) : V r < V q := by
  have fr := rung_form r
  have fq := rung_form q
  have hr := mag_lt r
  unfold V
  rcases Nat.lt_trichotomy (ex r) (ex q) with he | he | he
  · have hq : B ≤ mag q := mag_ge (by omega)
    have h1 : 2 ^ (ex r + 1) ≤ 2 ^ ex q := Nat.pow_le_pow_right (by decide) he
    have h2 : B * 2 ^ (ex r + 1) ≤ mag q * 2 ^ ex q := Nat.mul_le_mul hq h1
    have h3 : mag r * 2 ^ ex r < 2 * B * 2 ^ ex r := Nat.mul_lt_mul_of_pos_right hr (Nat.two_pow_pos _)
    have h4 : B * 2 ^ (ex r + 1) = 2 * B * 2 ^ ex r := by rw [Nat.pow_succ, Nat.mul_comm 2 B, Nat.mul_assoc, Nat.mul_comm 2]
    omega
  · rw [he] at fr ⊢
    exact Nat.mul_lt_mul_of_pos_right (by omega) (Nat.two_pow_pos _)
  · exfalso
    have hq : B ≤ mag r := mag_ge (by omega)
    have hq2 := mag_lt q
    have h1 : (ex q + 1) * B ≤ ex r * B := Nat.mul_le_mul_right _ he
    rw [Nat.add_mul] at h1
    omega

theorem V_le {r q : Nat} (h : r ≤ q) : V r ≤ V q := by
  rcases Nat.lt_or_ge r q with h' | h'
  · exact Nat.le_of_lt (V_lt h')
  · rw [show r = q by omega]; exact Nat.le_refl _
theorem V_le_iff {r q : Nat} : V r ≤ V q ↔ r ≤ q :=
  ⟨fun h => by rcases Nat.lt_or_ge q r with h' | h'; have := V_lt h'; omega; exact h', V_le⟩
theorem V_inj {r q : Nat} (h : V r = V q) : r = q := by
  have h1 := V_le_iff.1 (Nat.le_of_eq h)
  have h2 := V_le_iff.1 (Nat.le_of_eq h.symm)
  omega
theorem V_pos {r : Nat} (h : 0 < r) : 0 < V r := by have := V_lt h; rw [V_zero] at this; exact this

/-! ### Rounding -/
/-- The way to the nearest even one keeps to every bound that is a whole number. -/
theorem cut_le {s : Bool} {n d M : Nat} (h : n ≤ M * 2 ^ d) : Toward.even.cut s n d ≤ M := by
  unfold Toward.cut
  simp only [Nat.one_shiftLeft]
  rcases Nat.le_total d (n.log2 + 2) with hd | hd
  · rw [Nat.min_eq_left hd]
    have hg := Nat.two_pow_pos d
    generalize 2 ^ d = g at h hg
    have hdm := Nat.div_add_mod n g
    by_cases h0 : n % g = 0
    · have hl : n / g ≤ M := Nat.div_le_of_le_mul (by rw [Nat.mul_comm]; exact h)
      have hgn : ¬ (g < 2 * 0) := by omega
      have hg2 : (g == 0) = false := by simp; omega
      simp [h0, hgn, hg2]
      exact hl
    · have hl : n / g < M := by
        have : n / g * g < M * g := by rw [Nat.mul_comm]; omega
        exact Nat.lt_of_mul_lt_mul_right this
      have hb : ∀ b : Bool, b.toNat ≤ 1 := fun b => by cases b <;> decide
      have := hb (decide (g < 2 * (n % g)) || (g == 2 * (n % g) && n / g % 2 == 1))
      omega
  · rw [Nat.min_eq_right hd]
    have hn : n < 2 ^ (n.log2 + 1) := Nat.lt_log2_self
    have h2 : 2 ^ (n.log2 + 2) = 2 * 2 ^ (n.log2 + 1) := by rw [Nat.pow_succ 2 (n.log2 + 1)]; omega
    generalize 2 ^ (n.log2 + 1) = p at hn h2
    rw [h2, Nat.div_eq_of_lt (by omega), Nat.mod_eq_of_lt (by omega)]
    have a1 : ¬ 2 * p < 2 * n := by omega
    have a2 : (2 * p == 2 * n) = false := by simp; omega
    rw [a2]
    simp [a1]

theorem cut_ge {s : Bool} {n d M : Nat} (h : M * 2 ^ d ≤ n) : M ≤ Toward.even.cut s n d := by
  unfold Toward.cut
  simp only [Nat.one_shiftLeft]
  rcases Nat.le_total d (n.log2 + 2) with hd | hd
  · rw [Nat.min_eq_left hd]
    have hl : M ≤ n / 2 ^ d := (Nat.le_div_iff_mul_le (Nat.two_pow_pos d)).2 h
    exact Nat.le_trans hl (Nat.le_add_right _ _)
  · have hn : n < 2 ^ (n.log2 + 1) := Nat.lt_log2_self
    have h2 : 2 ^ (n.log2 + 2) = 2 * 2 ^ (n.log2 + 1) := by rw [Nat.pow_succ 2 (n.log2 + 1)]; omega
    have h3 : 2 ^ (n.log2 + 2) ≤ 2 ^ d := Nat.pow_le_pow_right (by decide) hd
    have hM : M = 0 := by
      rcases Nat.eq_zero_or_pos M with h0 | h0
      · exact h0
      · have : 1 * 2 ^ d ≤ M * 2 ^ d := Nat.mul_le_mul_right _ h0
        omega
    rw [hM]; exact Nat.zero_le _

/-- The place of the last digit that is kept, counted from 2^-1074. -/
def lst (m : Nat) (p : Int) : Nat := (max (p + m.log2 - 52) (-1074) + 1074).toNat
def kept (m : Nat) (p : Int) : Nat := Toward.even.cut false (m * 2 ^ (p + 1074 - lst m p).toNat) (lst m p - (p + 1074)).toNat
/-- The rung nearest to 'm * 2^p'. -/
def nr (m : Nat) (p : Int) : Nat := if m = 0 then 0 else min (lst m p * B + kept m p) infR

theorem nearest_eq (s : Bool) (m : Nat) (p : Int) : double.nearest s m p = double.word s (nr m p) := by
  unfold Format.nearest nr
  by_cases h : m = 0
  · rw [if_pos h, if_pos h]
  · rw [if_neg h, if_neg h]
    have e1 : (max (p + (m.log2 : Int) - 52) (-1074) - -1074).toNat = lst m p := by unfold lst; congr 1
    have e2 : (lst m p : Int) = max (p + (m.log2 : Int) - 52) (-1074) + 1074 := by unfold lst; omega
    have e3 : (p - max (p + (m.log2 : Int) - 52) (-1074)).toNat = (p + 1074 - lst m p).toNat := by congr 1; omega
    have e4 : (max (p + (m.log2 : Int) - 52) (-1074) - p).toNat = (lst m p - (p + 1074)).toNat := by congr 1; omega
    show double.word s (min ((max (p + (m.log2 : Int) - 52) (-1074) - -1074).toNat * B + Toward.even.cut s (m <<< (p - max (p + (m.log2 : Int) - 52) (-1074)).toNat) (max (p + (m.log2 : Int) - 52) (-1074) - p).toNat) infR) = _
    rw [e1, e3, e4, Nat.shiftLeft_eq]
    rfl

/-- 'm * 2^p' is at most, at least, 'K * 2^c' units. -/
def LeV (m : Nat) (p : Int) (K c : Nat) : Prop := m * 2 ^ (p + 1074).toNat ≤ K * 2 ^ c * 2 ^ (-1074 - p).toNat
def GeV (m : Nat) (p : Int) (K c : Nat) : Prop := K * 2 ^ c * 2 ^ (-1074 - p).toNat ≤ m * 2 ^ (p + 1074).toNat

theorem lst_cast (m : Nat) (p : Int) : (lst m p : Int) = max (p + (m.log2 : Int) - 52) (-1074) + 1074 := by unfold lst; omega

/-- From the value to what is cut. -/
theorem le_cut {m K c : Nat} {p : Int} (h : LeV m p K c) (hc : lst m p ≤ c) : m * 2 ^ (p + 1074 - lst m p).toNat ≤ K * 2 ^ (c - lst m p) * 2 ^ (lst m p - (p + 1074)).toNat := by
  unfold LeV at h
  generalize lst m p = e at hc
  obtain ⟨f, rfl⟩ : ∃ f, c = f + e := ⟨c - e, by omega⟩
  rw [Nat.add_sub_cancel]
  have he := Nat.two_pow_pos e
  rcases Int.le_total (e : Int) (p + 1074) with h1 | h1
  · obtain ⟨u, hu⟩ : ∃ u : Nat, p + 1074 = (u : Int) + e := ⟨(p + 1074 - e).toNat, by omega⟩
    rw [show (p + 1074 - (e : Int)).toNat = u by omega, show ((e : Int) - (p + 1074)).toNat = 0 by omega]
    rw [show (p + 1074).toNat = u + e by omega, show (-1074 - p).toNat = 0 by omega, Nat.pow_add, Nat.pow_add] at h
    simp only [Nat.pow_zero, Nat.mul_one] at h ⊢
    rw [← Nat.mul_assoc, ← Nat.mul_assoc] at h
    exact Nat.le_of_mul_le_mul_right h he
  · rw [show (p + 1074 - (e : Int)).toNat = 0 by omega, Nat.pow_zero, Nat.mul_one]
    rcases Int.le_total 0 (p + 1074) with h2 | h2
    · obtain ⟨u, hu⟩ : ∃ u : Nat, p + 1074 = (u : Int) := ⟨(p + 1074).toNat, by omega⟩
      obtain ⟨d, hd⟩ : ∃ d : Nat, e = u + d := ⟨e - u, by omega⟩
      subst hd
      rw [show (((u + d : Nat) : Int) - (p + 1074)).toNat = d by omega]
      rw [show (p + 1074).toNat = u by omega, show (-1074 - p).toNat = 0 by omega, Nat.pow_add, Nat.pow_add] at h
      simp only [Nat.pow_zero, Nat.mul_one] at h
      rw [show K * (2 ^ f * (2 ^ u * 2 ^ d)) = K * 2 ^ f * 2 ^ d * 2 ^ u by simp only [Nat.mul_assoc, Nat.mul_comm, Nat.mul_left_comm]] at h
      exact Nat.le_of_mul_le_mul_right h (Nat.two_pow_pos u)
    · obtain ⟨u, hu⟩ : ∃ u : Nat, -1074 - p = (u : Int) := ⟨(-1074 - p).toNat, by omega⟩
      rw [show ((e : Int) - (p + 1074)).toNat = e + u by omega]
      rw [show (p + 1074).toNat = 0 by omega, show (-1074 - p).toNat = u by omega, Nat.pow_add] at h
      simp only [Nat.pow_zero, Nat.mul_one] at h
      rw [Nat.pow_add]
      rw [show K * (2 ^ f * 2 ^ e) * 2 ^ u = K * 2 ^ f * (2 ^ e * 2 ^ u) by simp only [Nat.mul_assoc]] at h
      exact h

theorem ge_cut {m K c : Nat} {p : Int} (h : GeV m p K c) (hc : lst m p ≤ c) : K * 2 ^ (c - lst m p) * 2 ^ (lst m p - (p + 1074)).toNat ≤ m * 2 ^ (p + 1074 - lst m p).toNat := by
  unfold GeV at h
  generalize lst m p = e at hc
  obtain ⟨f, rfl⟩ : ∃ f, c = f + e := ⟨c - e, by omega⟩
  rw [Nat.add_sub_cancel]
  have he := Nat.two_pow_pos e
  rcases Int.le_total (e : Int) (p + 1074) with h1 | h1
  · obtain ⟨u, hu⟩ : ∃ u : Nat, p + 1074 = (u : Int) + e := ⟨(p + 1074 - e).toNat, by omega⟩
    rw [show (p + 1074 - (e : Int)).toNat = u by omega, show ((e : Int) - (p + 1074)).toNat = 0 by omega]
    rw [show (p + 1074).toNat = u + e by omega, show (-1074 - p).toNat = 0 by omega, Nat.pow_add, Nat.pow_add] at h
    simp only [Nat.pow_zero, Nat.mul_one] at h ⊢
    rw [← Nat.mul_assoc, ← Nat.mul_assoc] at h
    exact Nat.le_of_mul_le_mul_right h he
  · rw [show (p + 1074 - (e : Int)).toNat = 0 by omega, Nat.pow_zero, Nat.mul_one]
    rcases Int.le_total 0 (p + 1074) with h2 | h2
    · obtain ⟨u, hu⟩ : ∃ u : Nat, p + 1074 = (u : Int) := ⟨(p + 1074).toNat, by omega⟩
      obtain ⟨d, hd⟩ : ∃ d : Nat, e = u + d := ⟨e - u, by omega⟩
      subst hd
      rw [show (((u + d : Nat) : Int) - (p + 1074)).toNat = d by omega]
      rw [show (p + 1074).toNat = u by omega, show (-1074 - p).toNat = 0 by omega, Nat.pow_add, Nat.pow_add] at h
      simp only [Nat.pow_zero, Nat.mul_one] at h
      rw [show K * (2 ^ f * (2 ^ u * 2 ^ d)) = K * 2 ^ f * 2 ^ d * 2 ^ u by simp only [Nat.mul_assoc, Nat.mul_comm, Nat.mul_left_comm]] at h
      exact Nat.le_of_mul_le_mul_right h (Nat.two_pow_pos u)
    · obtain ⟨u, hu⟩ : ∃ u : Nat, -1074 - p = (u : Int) := ⟨(-1074 - p).toNat, by omega⟩
      rw [show ((e : Int) - (p + 1074)).toNat = e + u by omega]
      rw [show (p + 1074).toNat = 0 by omega, show (-1074 - p).toNat = u by omega, Nat.pow_add] at h
      simp only [Nat.pow_zero, Nat.mul_one] at h
      rw [Nat.pow_add]
      rw [show K * (2 ^ f * 2 ^ e) * 2 ^ u = K * 2 ^ f * (2 ^ e * 2 ^ u) by simp only [Nat.mul_assoc]] at h
      exact h
end Go.Proofs.Qxb6616528a.Fl
