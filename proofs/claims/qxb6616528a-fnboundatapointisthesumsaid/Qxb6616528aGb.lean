/-
  SEAT b6616528a: what bound's rounds reckon, plainly.
-/
import Derived.Test.Qxb6616528aGa
set_option linter.unusedSimpArgs false
set_option exponentiation.threshold 5000
set_option maxRecDepth 8000
namespace Go.Proofs.Qxb6616528a
open Fl

theorem pow_swap {a b c e : Nat} (h : a + b = c + e) : 2 ^ a * 2 ^ b = 2 ^ c * 2 ^ e := by rw [← Nat.pow_add, ← Nat.pow_add, h]
structure Data where
  lx : Nat
  ly : Nat
  hx : Nat
  hy : Nat
  X : Nat → Nat
  Y : Nat → Nat
  D : Nat → Nat
  Wt : Nat → Nat
namespace Data
variable (d : Data)
def r (i : Nat) : Nat := dist d.lx d.ly (d.X i) (d.Y i)
def E (i : Nat) : Nat := subw (d.r i) (d.D i)
def T (i : Nat) : Nat := mulw (mulw (d.Wt i) (d.E i)) (d.E i)
def SS : Nat → Nat
  | 0 => 0
  | k + 1 => addw (SS k) (d.T k)
def miss (i : Nat) : Nat := fmax (fmax (subw (d.r i) (d.D i)) (subw (d.D i) (d.r i))) 0
def cx : Nat := cen d.lx d.hx
def cy : Nat := cen d.ly d.hy
structure Box : Prop where
  lx : Le d.lx 1094
  ly : Le d.ly 1094
  hx : Le d.hx 1094
  hy : Le d.hy 1094
  ex : W d.lx = W d.hx
  ey : W d.ly = W d.hy
structure Row (i : Nat) : Prop where
  X : Le (d.X i) 1094
  Y : Le (d.Y i) 1094
  D : Le (d.D i) 1094
  Wt : Le (d.Wt i) 1094
  far : (Ar d.lx (ng (d.X i)) = 0 ∧ Ar d.ly (ng (d.Y i)) = 0) ∨ 2 ^ 1054 ≤ V (Ar d.lx (ng (d.X i))) ∨ 2 ^ 1054 ≤ V (Ar d.ly (ng (d.Y i)))
variable {d}
theorem Box.cx (h : d.Box) : Le d.cx 1094 ∧ W d.cx = W d.lx := ⟨W_centre' h.ex h.lx, W_centre h.ex h.lx (by decide)⟩
theorem Box.cy (h : d.Box) : Le d.cy 1094 ∧ W d.cy = W d.ly := ⟨W_centre' h.ey h.ly, W_centre h.ey h.ly (by decide)⟩
/-- From the centre it is as far. -/
theorem Box.r_centre (h : d.Box) (i : Nat) : dist d.cx d.cy (d.X i) (d.Y i) = d.r i := by
  unfold r dist
  rw [Ar_W h.cx.2, Ar_W h.cy.2]
theorem rx_le (h : d.Box) {i : Nat} (hi : d.Row i) : V (Ar d.lx (ng (d.X i))) ≤ 2 ^ 1095 := by rw [← rg_subw]; exact (h.lx.sub hi.X (by omega)).2
theorem ry_le (h : d.Box) {i : Nat} (hi : d.Row i) : V (Ar d.ly (ng (d.Y i))) ≤ 2 ^ 1095 := by rw [← rg_subw]; exact (h.ly.sub hi.Y (by omega)).2
theorem r_lt_inf (h : d.Box) {i : Nat} (hi : d.Row i) : hyp (Ar d.lx (ng (d.X i))) (Ar d.ly (ng (d.Y i))) < infR := (hyp_le (rx_le h hi) (ry_le h hi) (by omega)).1
theorem r_eq (i : Nat) : d.r i = F false (hyp (Ar d.lx (ng (d.X i))) (Ar d.ly (ng (d.Y i)))) := by unfold r dist; rfl
theorem r_le (h : d.Box) {i : Nat} (hi : d.Row i) : Le (d.r i) 1096 := by
  rw [r_eq]
  exact Le_F (r_lt_inf h hi) (hyp_le (rx_le h hi) (ry_le h hi) (by omega)).2
theorem rg_r (h : d.Box) {i : Nat} (hi : d.Row i) : rg (d.r i) = hyp (Ar d.lx (ng (d.X i))) (Ar d.ly (ng (d.Y i))) := by
  rw [r_eq]
  exact rg_F (Nat.lt_trans (r_lt_inf h hi) infR_lt_S)
theorem r_big (h : d.Box) {i : Nat} (hi : d.Row i) (h0 : rg (d.r i) ≠ 0) : 2 ^ 1054 ≤ V (rg (d.r i)) := by
  have hg := hyp_ge (rx_le h hi) (ry_le h hi) (by omega)
  rw [rg_r h hi] at h0 ⊢
  rcases hi.far with hf | hf | hf
  · rw [hf.1, hf.2] at h0
    exact absurd (by unfold hyp; rw [if_pos ⟨rfl, rfl⟩]) h0
  · exact Nat.le_trans hf hg.1
  · exact Nat.le_trans hf hg.2
theorem E_le (h : d.Box) {i : Nat} (hi : d.Row i) : Le (d.E i) 1097 := (r_le h hi).sub (hi.D.mono (by omega)) (by omega)
theorem rg_miss (i : Nat) : rg (d.miss i) = rg (d.E i) := by
  have h : rg (fmax (fmax (subw (d.r i) (d.D i)) (subw (d.D i) (d.r i))) 0) = Ar (d.r i) (ng (d.D i)) := rg_max3' (a := d.r i) (a' := d.r i) (b := d.D i) (z := 0) rfl rfl
  exact h.trans (rg_subw _ _).symm
theorem miss_le (h : d.Box) {i : Nat} (hi : d.Row i) : Le (d.miss i) 1097 := by
  have := E_le h hi
  unfold Le fin at this ⊢
  rw [rg_miss]
  exact this
theorem T_miss (i : Nat) : mulw (mulw (d.Wt i) (d.miss i)) (d.miss i) = d.T i := mul_sq (rg_miss i)
theorem wE_le (h : d.Box) {i : Nat} (hi : d.Row i) : Le (mulw (d.Wt i) (d.E i)) 1117 := hi.Wt.mul (E_le h hi) (by omega) (by omega)
theorem wm_le (h : d.Box) {i : Nat} (hi : d.Row i) : Le (mulw (d.Wt i) (d.miss i)) 1117 := hi.Wt.mul (miss_le h hi) (by omega) (by omega)
theorem T_le (h : d.Box) {i : Nat} (hi : d.Row i) : Le (d.T i) 1140 := (wE_le h hi).mul (E_le h hi) (by omega) (by omega)
theorem SS_le (h : d.Box) : ∀ k, (∀ i, i < k → d.Row i) → k ≤ 32768 → LeK (d.SS k) k 1140
  | 0, _, _ => ⟨fin_zero rfl, by show V 0 ≤ _; rw [V_zero]; exact Nat.zero_le _⟩
  | k + 1, hr, hk => (SS_le h k (fun i hi => hr i (by omega)) (by omega)).add (T_le h (hr k (by omega))) (by omega) (by omega)
/-! The quadratic's parts. -/
def one : Nat := 4607182418800017408
theorem one_le : Le one 1074 := ⟨by unfold fin; decide, by rw [show rg one = oneR by decide, V_one]; exact Nat.le_refl _⟩
theorem two_le : Le twoW 1075 := ⟨fin_twoW, by rw [rg_twoW, V_two]; exact Nat.le_refl _⟩
def pullFar (i : Nat) : Nat := subw one (divw (d.D i) (d.r i))
theorem q_le (h : d.Box) {i : Nat} (hi : d.Row i) (h0 : rg (d.r i) ≠ 0) : Le (divw (d.D i) (d.r i)) 1114 := by
  have := Qr_le (a := rg (d.D i)) (b := rg (d.r i)) (K := 1) (c := 1114) h0 (by
    rw [Nat.one_mul]
    refine Nat.le_trans (Nat.mul_le_mul_right _ hi.D.2) (Nat.le_trans ?_ (Nat.mul_le_mul_left _ (r_big h hi h0)))
    exact Nat.le_of_eq (pow_swap (by omega))) (by decide) (pow_lt_TOP (by omega))
  rw [Nat.one_mul] at this
  exact Le_F this.1 this.2
theorem pull_le (h : d.Box) {i : Nat} (hi : d.Row i) (h0 : rg (d.r i) ≠ 0) : Le (subw one (divw (d.D i) (d.r i))) 1115 := (one_le.mono (by omega)).sub (q_le h hi h0) (by omega)
theorem wp_le (h : d.Box) {i : Nat} (hi : d.Row i) (h0 : rg (d.r i) ≠ 0) : Le (mulw (d.Wt i) (subw one (divw (d.D i) (d.r i)))) 1135 := hi.Wt.mul (pull_le h hi h0) (by omega) (by omega)
theorem w2_le {i : Nat} (hi : d.Row i) : Le (mulw twoW (d.Wt i)) 1095 := two_le.mul hi.Wt (by omega) (by omega)
theorem w2p_le {i p : Nat} (hi : d.Row i) (hp : Le p 1115) : Le (mulw (mulw twoW (d.Wt i)) p) 1136 := (w2_le hi).mul hp (by omega) (by omega)
theorem sx_le (h : d.Box) {i p : Nat} (hi : d.Row i) (hp : Le p 1115) : Le (mulw (mulw (mulw twoW (d.Wt i)) p) (subw d.cx (d.X i))) 1157 := (w2p_le hi hp).mul (h.cx.1.sub hi.X (by omega)) (by omega) (by omega)
theorem sy_le (h : d.Box) {i p : Nat} (hi : d.Row i) (hp : Le p 1115) : Le (mulw (mulw (mulw twoW (d.Wt i)) p) (subw d.cy (d.Y i))) 1157 := (w2p_le hi hp).mul (h.cy.1.sub hi.Y (by omega)) (by omega) (by omega)
end Data
theorem F_lt (s : Bool) {r : Nat} (h : r < S) : F s r < 2 * S := by rw [F_def]; split <;> omega
theorem addw_lt (x y : Nat) : addw x y < 2 * S := F_lt _ (Ar_lt_S x y)
end Go.Proofs.Qxb6616528a
