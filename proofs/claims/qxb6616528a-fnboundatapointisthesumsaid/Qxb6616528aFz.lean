/-
  SEAT b6616528a: contracts: zzInRange, zzAbs, distanceTo, ZZdistance.
-/
import Derived.Test.Qxb6616528aFy
set_option linter.unusedSimpArgs false
set_option exponentiation.threshold 5000
set_option maxRecDepth 8000
namespace Go.Proofs.Qxb6616528a
open Go.ChangeShapes Go.WideShapes Go.ChangeAt Go.RowKit
open Fl

theorem negFloat_eq (x : Nat) : Op.negFloat .f64 x = x ^^^ 2 ^ 63 := rfl
theorem rg_neg (x : Nat) : rg (Op.negFloat .f64 x) = rg x := by
  rw [negFloat_eq]
  show (x ^^^ 2 ^ 63) % 2 ^ 63 = x % 2 ^ 63
  rw [Nat.xor_mod_two_pow, Nat.mod_self, Nat.xor_zero]
theorem sg_neg (x : Nat) : sg (Op.negFloat .f64 x) = !sg x := by
  have h : ∀ y, sg y = y.testBit 63 := fun y => by
    rw [Nat.testBit_eq_decide_div_mod_eq]
    unfold sg
    show (y / 2 ^ 63 % 2 == 1) = _
    rfl
  rw [h, h, negFloat_eq, Nat.testBit_xor, Nat.testBit_two_pow_self]
  simp
theorem W_neg (x : Nat) : W (Op.negFloat .f64 x) = -W x := by
  unfold W
  rw [rg_neg, sg_neg]
  cases sg x <;> simp

@[go_sem] theorem unary_neg (v : Nat) : Op.unary .neg (.float .f64 v) = pure (.float .f64 (Op.negFloat .f64 v)) := rfl
@[go_sem] theorem run_store_float (P : Program) (w : World) (a : Addr) (k : FloatKind) (x : Nat) (m : Mode) : (store a (.float k x) m).run P w = stored P w a (.float k x) m := run_store P w a _ m rfl
theorem inRange_any (v : Nat) (w : World) : Calls Try.prog 14 #[.float .f64 v] w fun e w' => e = .returned (.bool (inR v)) ∧ w' = w := by
  have e : inR v = (if geq v loC then leq v hiC else false) := by unfold inR; cases geq v loC <;> rfl
  cases hg : geq v loC
  · rw [hg] at e
    have h1 : (FloatKind.f64.format.order v 13920209183539462144 == some .gt || FloatKind.f64.format.order v 13920209183539462144 == some .eq) = false := hg
    rw [e]
    go_enter Try.func14, Try.ntmps14
    go_wp2_with fail
    all_goals first
      | (go_ret; exact ⟨rfl, rfl⟩)
      | skip
  · rw [hg] at e
    have h1 : (FloatKind.f64.format.order v 13920209183539462144 == some .gt || FloatKind.f64.format.order v 13920209183539462144 == some .eq) = true := hg
    rw [e]
    go_enter Try.func14, Try.ntmps14
    go_wp2_with fail
    all_goals first
      | (go_ret; exact ⟨rfl, rfl⟩)
      | skip
theorem absZ_any (v : Nat) (w : World) (hv : fin v) : Calls Try.prog 15 #[.float .f64 v] w fun e w' => (∃ r, e = .returned (.float .f64 r) ∧ fin r ∧ W r = (V (rg v) : Int)) ∧ w' = w := by
  have ho : FloatKind.f64.format.order v 0 = some (compare (W v) (W 0)) := order_fin hv (fin_zero (x := 0) rfl)
  have h0 : W 0 = 0 := W_zero rfl
  have ha := W_abs v
  rw [h0] at ho
  by_cases h : W v < 0
  · have h1 : (FloatKind.f64.format.order v 0 == some .lt) = true := by rw [ho, Int.compare_eq_lt.2 h]; rfl
    clear ho
    go_enter Try.func15, Try.ntmps15
    go_wp2_with fail
    go_ret
    refine ⟨⟨_, rfl, ?_, ?_⟩, rfl⟩
    · unfold fin; rw [rg_neg]; exact hv
    · rw [W_neg]; omega
  · have h1 : (FloatKind.f64.format.order v 0 == some .lt) = false := by
      rw [ho]
      rcases Int.lt_trichotomy (W v) 0 with h2 | h2 | h2
      · exact absurd h2 h
      · rw [h2, Int.compare_eq_eq.2 rfl]; rfl
      · rw [Int.compare_eq_gt.2 h2]; rfl
    clear ho
    go_enter Try.func15, Try.ntmps15
    go_wp2_with fail
    go_ret
    exact ⟨⟨_, rfl, hv, by omega⟩, rfl⟩

/-- The distance, as the program has it. -/
def dist (ax ay bx by' : Nat) : Nat := F false (hyp (Ar ax (ng bx)) (Ar ay (ng by')))
theorem dist_any (ax ay bx by' : Nat) (w : World) (c : Nat) (hc : c + 2 < 2098) (h1 : Le ax c) (h2 : Le ay c) (h3 : Le bx c) (h4 : Le by' c) :
    Calls Try.prog 20 #[.agg #[.float .f64 ax, .float .f64 ay], .agg #[.float .f64 bx, .float .f64 by']] w fun e w' => e = .returned (.float .f64 (dist ax ay bx by')) ∧ Below w.heap.size w w' := by
  have s1 := fun w => run_sub (sub_w h1.1 h3.1) w
  have s2 := fun w => run_sub (sub_w h2.1 h4.1) w
  have l1 := h1.sub h3 (by omega)
  have l2 := h2.sub h4 (by omega)
  have hp : 1 * 2 ^ (c + 2) < TOP := pow_lt_TOP hc
  have ep : 1 * 2 ^ (c + 2) = 2 * 2 ^ (c + 1) := by rw [Nat.one_mul, Nat.pow_succ 2 (c + 1)]; omega
  have o1 := l1.2
  have o2 := l2.2
  have hd : dist ax ay bx by' = F false (hyp (rg (subw ax bx)) (rg (subw ay by'))) := by rw [rg_subw, rg_subw]; rfl
  have hh := fun w => hypot_any (subw ax bx) (subw ay by') w l1.1 l2.1 (by omega) (by omega)
  rw [← hd] at hh
  go_enter Try.func20, Try.ntmps20
  go_wp2_with fail
  refine (hh _).mono ?_
  rintro e w' ⟨rfl, rfl⟩
  go_wp2_with fail
  go_ret
  exact ⟨congrArg (fun x => Ending.returned (.float .f64 x)) hd.symm, ((Below.refl _ _).alloc (Nat.le_refl _) _).alloc (by simp) _⟩
theorem dist_any' (ax ay bx by' : Nat) (w : World) (c : Nat) (hc : c + 2 < 2098) (h1 : Le ax c) (h2 : Le ay c) (h3 : Le bx c) (h4 : Le by' c) :
    Calls Try.prog 16 #[.float .f64 ax, .float .f64 ay, .float .f64 bx, .float .f64 by'] w fun e w' => e = .returned (.float .f64 (dist ax ay bx by')) ∧ Below w.heap.size w w' := by
  go_enter Try.func16, Try.ntmps16
  go_wp2_with fail
  refine (dist_any ax ay bx by' _ c hc h1 h2 h3 h4).mono ?_
  rintro e w' ⟨rfl, hb⟩
  go_wp2_with fail
  go_ret
  exact ⟨rfl, hb⟩
theorem W_centre' {a a' : Nat} (h : W a = W a') (ha : Le a 1094) : Le (divw (addw a a') twoW) 1094 := by
  have h1 := W_centre h ha (by decide)
  have h2 := same_of_W h1
  refine ⟨?_, ?_⟩
  · unfold fin; rw [h2.1]; exact ha.1
  · rw [h2.1]; exact ha.2
def cen (a a' : Nat) : Nat := divw (addw a a') twoW
def boxV (lx ly hx hy : Nat) : Value := .agg #[.float .f64 lx, .float .f64 ly, .float .f64 hx, .float .f64 hy]
theorem centre_any (lx ly hx hy : Nat) (w : World) (h1 : Le lx 1094) (h2 : Le ly 1094) (h3 : Le hx 1094) (h4 : Le hy 1094) :
    Calls Try.prog 23 #[boxV lx ly hx hy] w fun e w' => e = .returned (.agg #[.float .f64 (cen lx hx), .float .f64 (cen ly hy)]) ∧ Below w.heap.size w w' := by
  have hr : rg twoW ≠ 0 := by rw [rg_twoW]; decide
  have a1 := fun w => run_add (add_w h1.1 h3.1) w
  have a2 := fun w => run_add (add_w h2.1 h4.1) w
  have d1 := fun w => run_div (div_w (h1.add h3 (by decide)).1 fin_twoW hr) w
  have d2 := fun w => run_div (div_w (h2.add h4 (by decide)).1 fin_twoW hr) w
  rw [show (Value.float .f64 twoW) = Value.float .f64 4611686018427387904 from rfl] at d1 d2
  unfold boxV
  go_enter Try.func23, Try.ntmps23
  go_wp2_with fail
  exact bodyPost_ret (v := .agg #[.float .f64 (cen lx hx), .float .f64 (cen ly hy)]) (by simp [results, Try.results23, cen, go_sem]) rfl ⟨rfl, ((Below.refl _ _).alloc (Nat.le_refl _) _).alloc (by simp) _⟩
theorem hyp_le {a b c : Nat} (ha : V a ≤ 2 ^ c) (hb : V b ≤ 2 ^ c) (hc : c + 1 < 2098) : hyp a b < infR ∧ V (hyp a b) ≤ 2 ^ (c + 1) := by
  have hp : 1 * 2 ^ (c + 1) < TOP := pow_lt_TOP hc
  have ep : 1 * 2 ^ (c + 1) = 2 * 2 ^ c := by rw [Nat.one_mul, Nat.pow_succ]; omega
  have ep2 : 2 ^ (c + 1) = 2 * 2 ^ c := by rw [Nat.pow_succ]; omega
  unfold hyp
  split
  · exact ⟨zero_lt_inf, by rw [V_zero]; exact Nat.zero_le _⟩
  · split
    · have := hyp2_bounds (big := b) (small := a) (by omega) (by omega) (by omega)
      exact ⟨this.1, by omega⟩
    · have := hyp2_bounds (big := a) (small := b) (by omega) (by omega) (by omega)
      exact ⟨this.1, by omega⟩
theorem hyp_ge {a b c : Nat} (ha : V a ≤ 2 ^ c) (hb : V b ≤ 2 ^ c) (hc : c + 1 < 2098) : V a ≤ V (hyp a b) ∧ V b ≤ V (hyp a b) := by
  have hp : 1 * 2 ^ (c + 1) < TOP := pow_lt_TOP hc
  have ep : 1 * 2 ^ (c + 1) = 2 * 2 ^ c := by rw [Nat.one_mul, Nat.pow_succ]; omega
  unfold hyp
  by_cases h0 : a = 0 ∧ b = 0
  · rw [if_pos h0, h0.1, h0.2]; exact ⟨Nat.le_refl _, Nat.le_refl _⟩
  · rw [if_neg h0]
    by_cases h : a < b
    · rw [if_pos h]
      have := hyp2_bounds (big := b) (small := a) (by omega) (by omega) (by omega)
      have := V_lt h
      exact ⟨by omega, by omega⟩
    · rw [if_neg h]
      have := hyp2_bounds (big := a) (small := b) (by omega) (by omega) (by omega)
      have := V_le (r := b) (q := a) (by omega)
      exact ⟨by omega, by omega⟩
theorem distances_any (lx ly hx hy x y : Nat) (w : World) (h1 : Le lx 1094) (h2 : Le ly 1094) (h3 : Le hx 1094) (h4 : Le hy 1094) (h5 : Le x 1094) (h6 : Le y 1094) (ex : W lx = W hx) (ey : W ly = W hy) :
    Calls Try.prog 24 #[boxV lx ly hx hy, .agg #[.float .f64 x, .float .f64 y]] w fun e w' => e = .returned (.tuple #[.float .f64 (dist lx ly x y), .float .f64 (dist lx ly x y)]) ∧ Below w.heap.size w w' := by
  have f0 : fin 0 := fin_zero rfl
  have s1 := fun w => run_sub (sub_w h1.1 h5.1) w
  have s2 := fun w => run_sub (sub_w h5.1 h3.1) w
  have s3 := fun w => run_sub (sub_w h2.1 h6.1) w
  have s4 := fun w => run_sub (sub_w h6.1 h4.1) w
  have s5 := fun w => run_sub (sub_w h5.1 h1.1) w
  have s6 := fun w => run_sub (sub_w h3.1 h5.1) w
  have s7 := fun w => run_sub (sub_w h6.1 h2.1) w
  have s8 := fun w => run_sub (sub_w h4.1 h6.1) w
  have l1 := h1.sub h5 (by decide)
  have l2 := h5.sub h3 (by decide)
  have l3 := h2.sub h6 (by decide)
  have l4 := h6.sub h4 (by decide)
  have l5 := h5.sub h1 (by decide)
  have l6 := h3.sub h5 (by decide)
  have l7 := h6.sub h2 (by decide)
  have l8 := h4.sub h6 (by decide)
  have m1 := fun w => run_max_3 l1.1 f0 l2.1 #[36, 36, 36] 36 w
  have m2 := fun w => run_max_3 l3.1 f0 l4.1 #[36, 36, 36] 36 w
  have m3 := fun w => run_max_2 l5.1 l6.1 #[36, 36] 36 w
  have m4 := fun w => run_max_2 l7.1 l8.1 #[36, 36] 36 w
  have g1 : rg (fmax (fmax (subw lx x) 0) (subw x hx)) = Ar lx (ng x) := rg_max3 ex rfl
  have g2 : rg (fmax (fmax (subw ly y) 0) (subw y hy)) = Ar ly (ng y) := rg_max3 ey rfl
  have g3 : rg (fmax (subw x lx) (subw hx x)) = Ar lx (ng x) := rg_max2 ex
  have g4 : rg (fmax (subw y ly) (subw hy y)) = Ar ly (ng y) := rg_max2 ey
  have fm1 := fin_fmax (fin_fmax l1.1 f0) l2.1
  have fm2 := fin_fmax (fin_fmax l3.1 f0) l4.1
  have fm3 := fin_fmax l5.1 l6.1
  have fm4 := fin_fmax l7.1 l8.1
  have o1 : V (Ar lx (ng x)) ≤ 2 ^ 1095 := by rw [← rg_subw]; exact l1.2
  have o2 : V (Ar ly (ng y)) ≤ 2 ^ 1095 := by rw [← rg_subw]; exact l3.2
  have ht : 2 * 2 ^ 1095 < TOP := by decide
  have hh1 := fun w => hypot_any _ _ w fm1 fm2 (by rw [g1]; omega) (by rw [g2]; omega)
  have hh2 := fun w => hypot_any _ _ w fm3 fm4 (by rw [g3]; omega) (by rw [g4]; omega)
  rw [g1, g2] at hh1
  rw [g3, g4] at hh2
  clear g1 g2 g3 g4 fm1 fm2 fm3 fm4
  have hd : F false (hyp (Ar lx (ng x)) (Ar ly (ng y))) = dist lx ly x y := rfl
  rw [hd] at hh1 hh2
  unfold boxV
  go_enter Try.func24, Try.ntmps24
  go_wp2_with fail
  refine (hh1 _).mono ?_
  rintro e w' ⟨rfl, rfl⟩
  go_wp2_with fail
  refine (hh2 _).mono ?_
  rintro e w' ⟨rfl, rfl⟩
  go_wp2_with fail
  go_ret2
  exact ⟨rfl, ((Below.refl _ _).alloc (Nat.le_refl _) _).alloc (by simp) _⟩
end Go.Proofs.Qxb6616528a
