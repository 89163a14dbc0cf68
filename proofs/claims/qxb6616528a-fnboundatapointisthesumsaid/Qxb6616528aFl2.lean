/-
  SEAT b6616528a: FLOAT64 IN PLAIN NUMBERS: rounding keeps to bounds.
-/
import Derived.Test.Qxb6616528aFl
namespace Go.Proofs.Qxb6616528a.Fl
open Ieee

/-- Beyond every finite magnitude: 2^1024 in units. -/
def TOP : Nat := 2 ^ 2098
theorem twoB : 2 * B = 2 ^ 53 := rfl
theorem pow_split {a b c : Nat} (h : a = b + c) : 2 ^ a = 2 ^ b * 2 ^ c := by rw [h, Nat.pow_add]
theorem TOP_eq : TOP = 2 * B * 2 ^ 2045 := by
  rw [twoB]
  unfold TOP
  exact pow_split (a := 2098) (b := 53) (c := 2045) rfl
theorem V_inf : V infR = TOP := by
  have h : infR = 2045 * B + 2 * B := by unfold infR; rw [← Nat.add_mul]
  rw [h, V_form (.inr ⟨by omega, Nat.le_refl _⟩), TOP_eq]
theorem V_lt_top {r : Nat} (h : r < infR) : V r < TOP := by rw [← V_inf]; exact V_lt h
theorem lt_inf_of_V {r : Nat} (h : V r < TOP) : r < infR := by
  rcases Nat.lt_or_ge r infR with h' | h'
  · exact h'
  · have := V_le h'; rw [V_inf] at this; omega

theorem log2_le {m : Nat} (h : m ≠ 0) : 2 ^ m.log2 ≤ m := Nat.log2_self_le h
theorem lt_log2 (m : Nat) : m < 2 ^ (m.log2 + 1) := Nat.lt_log2_self

theorem top_le (m : Nat) (p : Int) : LeV m p (2 * B) (lst m p) := by
  have hc := lst_cast m p
  have hm := lt_log2 m
  unfold LeV
  rw [twoB]
  rcases Int.le_total 0 (p + 1074) with h | h
  · rw [show (-1074 - p).toNat = 0 by omega, Nat.pow_zero, Nat.mul_one, ← Nat.pow_add]
    have h1 : m * 2 ^ (p + 1074).toNat ≤ 2 ^ (m.log2 + 1) * 2 ^ (p + 1074).toNat := Nat.mul_le_mul_right _ (Nat.le_of_lt hm)
    rw [← Nat.pow_add] at h1
    exact Nat.le_trans h1 (Nat.pow_le_pow_right (by decide) (by omega))
  · rw [show (p + 1074).toNat = 0 by omega, Nat.pow_zero, Nat.mul_one, ← Nat.pow_add, ← Nat.pow_add]
    exact Nat.le_trans (Nat.le_of_lt hm) (Nat.pow_le_pow_right (by decide) (by omega))

theorem top_ge {m : Nat} {p : Int} (h0 : m ≠ 0) (he : 0 < lst m p) : GeV m p B (lst m p) := by
  have hc := lst_cast m p
  have hm := log2_le h0
  unfold GeV
  rw [show B = 2 ^ 52 from rfl]
  rcases Int.le_total 0 (p + 1074) with h | h
  · rw [show (-1074 - p).toNat = 0 by omega, Nat.pow_zero, Nat.mul_one, ← Nat.pow_add]
    have h1 : 2 ^ m.log2 * 2 ^ (p + 1074).toNat ≤ m * 2 ^ (p + 1074).toNat := Nat.mul_le_mul_right _ hm
    rw [← Nat.pow_add] at h1
    exact Nat.le_trans (Nat.pow_le_pow_right (by decide) (by omega)) h1
  · rw [show (p + 1074).toNat = 0 by omega, Nat.pow_zero, Nat.mul_one, ← Nat.pow_add, ← Nat.pow_add]
    exact Nat.le_trans (Nat.pow_le_pow_right (by decide) (by omega)) hm

theorem kept_le (m : Nat) (p : Int) : kept m p ≤ 2 * B := by
  have := le_cut (top_le m p) (Nat.le_refl _)
  rw [Nat.sub_self, Nat.pow_zero, Nat.mul_one] at this
  exact cut_le this
theorem kept_ge {m : Nat} {p : Int} (h0 : m ≠ 0) (he : 0 < lst m p) : B ≤ kept m p := by
  have := ge_cut (top_ge h0 he) (Nat.le_refl _)
  rw [Nat.sub_self, Nat.pow_zero, Nat.mul_one] at this
  exact cut_ge this

theorem V_kept {m : Nat} (p : Int) (h0 : m ≠ 0) : V (lst m p * B + kept m p) = kept m p * 2 ^ lst m p := by
  apply V_form
  have h1 := kept_le m p
  rcases Nat.eq_zero_or_pos (lst m p) with h | h
  · exact .inl ⟨h, h1⟩
  · exact .inr ⟨kept_ge h0 h, h1⟩

/-- ROUNDING KEEPS BELOW WHAT THE FORMAT HAS. -/
theorem nr_le {m K c : Nat} {p : Int} (h : LeV m p K c) (hK : K < 2 * B) (hov : K * 2 ^ c < TOP) : nr m p < infR ∧ V (nr m p) ≤ K * 2 ^ c := by
  by_cases h0 : m = 0
  · unfold nr; rw [if_pos h0, V_zero]; exact ⟨by decide, Nat.zero_le _⟩
  · have hv : kept m p * 2 ^ lst m p ≤ K * 2 ^ c := by
      rcases Nat.lt_or_ge c (lst m p) with hc | hc
      · exfalso
        have hg := top_ge (p := p) h0 (by omega)
        have h1 := Nat.le_trans hg h
        have h2 : B * 2 ^ lst m p ≤ K * 2 ^ c := Nat.le_of_mul_le_mul_right h1 (Nat.two_pow_pos _)
        have h3 : K * 2 ^ c < 2 * B * 2 ^ c := Nat.mul_lt_mul_of_pos_right hK (Nat.two_pow_pos _)
        have h4 : 2 * B * 2 ^ c = B * 2 ^ (c + 1) := by rw [Nat.pow_succ, Nat.mul_comm 2 B, Nat.mul_assoc, Nat.mul_comm 2]
        have h5 : B * 2 ^ (c + 1) ≤ B * 2 ^ lst m p := Nat.mul_le_mul_left _ (Nat.pow_le_pow_right (by decide) hc)
        omega
      · have h1 : kept m p ≤ K * 2 ^ (c - lst m p) := cut_le (le_cut h hc)
        have h2 := Nat.mul_le_mul_right (2 ^ lst m p) h1
        rwa [Nat.mul_assoc, ← Nat.pow_add, Nat.sub_add_cancel hc] at h2
    have hV := V_kept p h0
    have hlt : lst m p * B + kept m p < infR := lt_inf_of_V (by omega)
    unfold nr
    rw [if_neg h0, Nat.min_eq_left (Nat.le_of_lt hlt)]
    exact ⟨hlt, by omega⟩

/-- AND ABOVE. -/
theorem nr_ge {m K c : Nat} {p : Int} (h : GeV m p K c) (hK : K < 2 * B) (hfin : nr m p < infR) : K * 2 ^ c ≤ V (nr m p) := by
  by_cases h0 : m = 0
  · subst h0
    unfold GeV at h
    rw [Nat.zero_mul] at h
    have hp := Nat.mul_pos (Nat.two_pow_pos c) (Nat.two_pow_pos (-1074 - p).toNat)
    rw [Nat.mul_assoc] at h
    have : K = 0 := by
      rcases Nat.eq_zero_or_pos K with hk | hk
      · exact hk
      · have := Nat.mul_pos hk hp; omega
    rw [this, Nat.zero_mul]; exact Nat.zero_le _
  · unfold nr at hfin ⊢
    rw [if_neg h0] at hfin ⊢
    have hlt : lst m p * B + kept m p < infR := by
      rcases Nat.lt_or_ge (lst m p * B + kept m p) infR with h' | h'
      · exact h'
      · rw [Nat.min_eq_right h'] at hfin; omega
    rw [Nat.min_eq_left (Nat.le_of_lt hlt), V_kept p h0]
    rcases Nat.lt_or_ge c (lst m p) with hc | hc
    · have hk := kept_ge (p := p) h0 (by omega)
      have h3 : K * 2 ^ c < 2 * B * 2 ^ c := Nat.mul_lt_mul_of_pos_right hK (Nat.two_pow_pos _)
      have h4 : 2 * B * 2 ^ c = B * 2 ^ (c + 1) := by rw [Nat.pow_succ, Nat.mul_comm 2 B, Nat.mul_assoc, Nat.mul_comm 2]
      have h5 : B * 2 ^ (c + 1) ≤ kept m p * 2 ^ lst m p := Nat.mul_le_mul hk (Nat.pow_le_pow_right (by decide) hc)
      omega
    · have h1 : K * 2 ^ (c - lst m p) ≤ kept m p := cut_ge (ge_cut h hc)
      have h2 := Nat.mul_le_mul_right (2 ^ lst m p) h1
      rwa [Nat.mul_assoc, ← Nat.pow_add, Nat.sub_add_cancel hc] at h2

/-- What the format has is not rounded. -/
theorem nr_exact {m : Nat} {p : Int} {r : Nat} (hr : r < infR) (h1 : LeV m p (mag r) (ex r)) (h2 : GeV m p (mag r) (ex r)) : nr m p = r := by
  have hu := nr_le h1 (mag_lt r) (V_lt_top hr)
  have hl := nr_ge h2 (mag_lt r) hu.1
  exact V_inj (Nat.le_antisymm hu.2 hl)

/-! ### Words -/
def sg (x : Nat) : Bool := x / S % 2 == 1
def rg (x : Nat) : Nat := x % S
def F (s : Bool) (r : Nat) : Nat := double.word s r
def fin (x : Nat) : Prop := rg x < infR
theorem F_def (s : Bool) (r : Nat) : F s r = if s then S + r else r := rfl
theorem infR_lt_S : infR < S := by decide
theorem sg_F {s : Bool} {r : Nat} (h : r < S) : sg (F s r) = s := by
  unfold sg
  rw [F_def]
  cases s
  · rw [if_neg (by decide), Nat.div_eq_of_lt h]; rfl
  · rw [if_pos rfl, Nat.add_comm, Nat.add_div_right _ (by decide), Nat.div_eq_of_lt h]; rfl
theorem rg_F {s : Bool} {r : Nat} (h : r < S) : rg (F s r) = r := by
  unfold rg
  rw [F_def]
  cases s
  · rw [if_neg (by decide), Nat.mod_eq_of_lt h]
  · rw [if_pos rfl, Nat.add_mod_left, Nat.mod_eq_of_lt h]
theorem eq_F {x : Nat} (h : x < 2 * S) : x = F (sg x) (rg x) := by
  unfold sg rg
  rw [F_def]
  have h1 := Nat.div_add_mod x S
  rcases Nat.lt_or_ge x S with hx | hx
  · rw [Nat.div_eq_of_lt hx, Nat.mod_eq_of_lt hx]; rfl
  · have hd : x / S = 1 := Nat.div_eq_of_lt_le (by omega) (by omega)
    rw [hd] at h1 ⊢
    rw [if_pos (by rfl)]
    omega
theorem fin_F {s : Bool} {r : Nat} (h : r < infR) : fin (F s r) := by
  unfold fin; rw [rg_F (Nat.lt_trans h infR_lt_S)]; exact h
theorem rg_lt (x : Nat) : rg x < S := Nat.mod_lt _ (by decide)

theorem read_fin {x : Nat} (h : fin x) : double.read x = .number (sg x) (mag (rg x)) (-1074 + (ex (rg x) : Int)) := by
  unfold fin at h
  unfold Format.read
  simp only [signWeight_eq, binade_eq, infRung_eq, leastPlace_eq]
  show (if rg x < B then Datum.number (sg x) (rg x) (-1074) else if rg x < infR then Datum.number (sg x) (B + rg x % B) (-1074 + ((rg x / B - 1 : Nat) : Int)) else if rg x = infR then Datum.infinity (sg x) else Datum.nan (sg x) (rg x - infR)) = _
  by_cases hb : rg x < B
  · rw [if_pos hb]
    unfold mag ex
    rw [if_pos hb, if_pos hb]
    rfl
  · rw [if_neg hb, if_pos h]
    unfold mag ex
    rw [if_neg hb, if_neg hb]
end Go.Proofs.Qxb6616528a.Fl
