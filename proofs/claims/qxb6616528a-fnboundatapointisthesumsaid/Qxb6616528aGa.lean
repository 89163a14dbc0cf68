/-
  SEAT b6616528a: contracts: math.Abs, the closure 'least'.
-/
import Derived.Test.Qxb6616528aFz
set_option linter.unusedSimpArgs false
set_option exponentiation.threshold 5000
set_option maxRecDepth 8000
namespace Go.Proofs.Qxb6616528a
open Go.ChangeShapes Go.WideShapes Go.ChangeAt Go.RowKit
open Fl

theorem call31 (x : Nat) (w : World) : (callFunc 31 #[.float .f64 x]).run Try.prog w = .ok (.value (.int .u64 (x : Int))) w := by
  have h : (callFunc 31 #[.float .f64 x]).run Try.prog w = ((Extern.MathFloatBits.float64bits #[.float .f64 x]).run Try.prog w).andThen fun v w' => .ok (.value v) w' :=
    run_callFunc_extern Try.func31 (by kernel_rfl) (by kernel_rfl) (by kernel_rfl) (by kernel_rfl) _ w
  rw [h]; rfl
theorem call30 (x : Nat) (w : World) : (callFunc 30 #[.int .u64 (x : Int)]).run Try.prog w = .ok (.value (.float .f64 x)) w := by
  have h : (callFunc 30 #[.int .u64 (x : Int)]).run Try.prog w = ((Extern.MathFloatBits.float64frombits #[.int .u64 (x : Int)]).run Try.prog w).andThen fun v w' => .ok (.value v) w' :=
    run_callFunc_extern Try.func30 (by kernel_rfl) (by kernel_rfl) (by kernel_rfl) (by kernel_rfl) _ w
  rw [h]; rfl
theorem andNot_top (x : Nat) (h : x < 2 * S) : bits .andNot .u64 (x : Int) 9223372036854775808 = ((rg x : Nat) : Int) := by
  have h2 : x < 18446744073709551616 := h
  have := u64_andNot_nat x 9223372036854775808 h2 (by decide)
  refine (show bits .andNot .u64 (x : Int) ((9223372036854775808 : Nat) : Int) = _ from this).trans ?_
  rw [show 18446744073709551615 - 9223372036854775808 = 2 ^ 63 - 1 by decide, Nat.and_two_pow_sub_one_eq_mod]
  rfl
theorem abs_any (x : Nat) (w : World) (h : x < 2 * S) : Calls Try.prog 26 #[.float .f64 x] w fun e w' => e = .returned (.float .f64 (rg x)) ∧ w' = w := by
  have c1 := fun w => call31 x w
  have c2 := fun w => call30 (rg x) w
  have hb := andNot_top x h
  go_enter Try.func26, Try.ntmps26
  go_wp2_with fail
  go_ret
  exact ⟨rfl, rfl⟩

/-! ### min and max with an infinity -/
def gmin (x y : Nat) : Nat := match Ieee.double.order x y with | some .lt => x | some .gt => y | some .eq => if (FloatKind.f64.decode x).neg then x else y | none => 0
def gmax (x y : Nat) : Nat := match Ieee.double.order x y with | some .lt => y | some .gt => x | some .eq => if (FloatKind.f64.decode x).neg then y else x | none => 0
theorem run_gmin {x y : Nat} (h : Ieee.double.order x y ≠ none) (ts : Array TypeId) (t : TypeId) (w : World) : (Builtin.min_ ts t #[.float .f64 x, .float .f64 y]).run Try.prog w = .ok (.float .f64 (gmin x y)) w := by
  have e : FloatKind.f64.format.order x y = Ieee.double.order x y := rfl
  unfold gmin
  cases ho : Ieee.double.order x y with
  | none => exact absurd ho h
  | some o => rw [ho] at e; cases o <;> simp [Builtin.min_, Builtin.min2, e]
theorem run_gmax {x y : Nat} (h : Ieee.double.order x y ≠ none) (ts : Array TypeId) (t : TypeId) (w : World) : (Builtin.max_ ts t #[.float .f64 x, .float .f64 y]).run Try.prog w = .ok (.float .f64 (gmax x y)) w := by
  have e : FloatKind.f64.format.order x y = Ieee.double.order x y := rfl
  unfold gmax
  cases ho : Ieee.double.order x y with
  | none => exact absurd ho h
  | some o => rw [ho] at e; cases o <;> simp [Builtin.max_, Builtin.max2, e]
theorem order_some {x y : Nat} (hx : fin x) (hy : rg y ≤ infR) : Ieee.double.order x y ≠ none := by
  rcases Nat.lt_or_eq_of_le hy with h | h
  · rw [order_fin hx h]; simp
  · rw [order_inf_right hx h]; simp
/-- At most nought: a zero, or of a sign that is set. -/
def NonPos (x : Nat) : Prop := rg x ≤ infR ∧ (rg x = 0 ∨ sg x = true)
theorem gmin_zero {s z : Nat} (hs : rg s = 0) (hz : rg z ≤ infR) : NonPos (gmin s z) := by
  have hfs := fin_zero hs
  have hns : NonPos s := ⟨by omega, Or.inl hs⟩
  unfold gmin
  rcases Nat.lt_or_eq_of_le hz with h | h
  · rw [order_fin hfs h, W_zero hs]
    rcases Int.lt_trichotomy 0 (W z) with h1 | h1 | h1
    · rw [Int.compare_eq_lt.2 h1]; exact hns
    · rw [Int.compare_eq_eq.2 h1]
      show NonPos (if _ then s else z)
      split
      · exact hns
      · exact ⟨hz, Or.inl (rg_zero_of_W h1.symm)⟩
    · rw [Int.compare_eq_gt.2 h1]
      refine ⟨hz, Or.inr ?_⟩
      cases hc : sg z
      · unfold W at h1; rw [hc] at h1; simp at h1; omega
      · rfl
  · rw [order_inf_right hfs h]
    cases hc : sg z
    · exact hns
    · exact ⟨hz, Or.inr hc⟩
theorem gmax_zero {s z : Nat} (hs : rg s = 0) (hz : NonPos z) : rg (gmax s z) = 0 := by
  have hfs := fin_zero hs
  unfold gmax
  rcases Nat.lt_or_eq_of_le hz.1 with h | h
  · rw [order_fin hfs h, W_zero hs]
    rcases Int.lt_trichotomy 0 (W z) with h1 | h1 | h1
    · rw [Int.compare_eq_lt.2 h1]
      show rg z = 0
      rcases hz.2 with h2 | h2
      · exact h2
      · unfold W at h1; rw [h2] at h1; simp at h1; omega
    · rw [Int.compare_eq_eq.2 h1]
      show rg (if _ then z else s) = 0
      split
      · exact rg_zero_of_W h1.symm
      · exact hs
    · rw [Int.compare_eq_gt.2 h1]; exact hs
  · rw [order_inf_right hfs h]
    rcases hz.2 with h2 | h2
    · rw [h2] at h; exact absurd h (by decide)
    · rw [h2]; exact hs

def theW (cur g s : Nat) : Nat := gmax (Op.negFloat .f64 s) (gmin s (divw (Op.negFloat .f64 g) (mulw twoW cur)))
def leastW (cur g s : Nat) : Nat :=
  if leq cur 0 then subw (mulw (mulw cur s) s) (mulw (rg g) s) else addw (mulw (mulw cur (theW cur g s)) (theW cur g s)) (mulw g (theW cur g s))
theorem Mr_comm (a b : Nat) : Mr a b = Mr b a := by unfold Mr; rw [Nat.mul_comm, Int.add_comm]
theorem mul_zero_rg {x s : Nat} (hs : rg s = 0) : rg (mulw x s) = 0 := by rw [rg_mulw, hs, Mr_zero]
theorem zero_mul_rg {x s : Nat} (hs : rg s = 0) : rg (mulw s x) = 0 := by rw [rg_mulw, hs, Mr_comm, Mr_zero]
theorem Qr_le_inf (a b : Nat) : Qr a b ≤ infR := nr_le_inf _ _
theorem theW_zero {cur g s : Nat} (hs : rg s = 0) : rg (theW cur g s) = 0 := gmax_zero (by rw [rg_neg]; exact hs) (gmin_zero hs (by rw [rg_divw]; exact Qr_le_inf _ _))
theorem leastW_zero {cur g s : Nat} (hs : rg s = 0) : rg (leastW cur g s) = 0 := by
  unfold leastW
  split
  · rw [rg_subw]; exact Ar_cancel (by rw [W_ng, W_zero (mul_zero_rg hs), W_zero (mul_zero_rg hs)]; rfl)
  · exact rg_add_zeros (mul_zero_rg (theW_zero hs)) (mul_zero_rg (theW_zero hs))
theorem two_mul_ne {cur : Nat} (h : rg cur ≠ 0) (hf : fin (mulw twoW cur)) : rg (mulw twoW cur) ≠ 0 := by
  intro h0
  unfold fin at hf
  rw [rg_mulw, rg_twoW] at h0 hf
  have hp := V_pos (Nat.pos_of_ne_zero h)
  have hg := Mr_ge (a := twoR) (b := rg cur) (K := 1) (c := 0) (by
    rw [V_two, Nat.pow_zero, Nat.one_mul]
    exact Nat.le_trans (Nat.pow_le_pow_right (by decide) (by decide)) (Nat.le_mul_of_pos_right _ hp)) (by decide) hf
  rw [h0, V_zero] at hg
  simp at hg
theorem lq_cur {cur : Nat} (hc : fin cur) (h : leq cur 0 = false) : rg cur ≠ 0 := by
  intro h0
  unfold leq at h
  rw [order_fin hc (fin_zero (x := 0) rfl), W_zero h0, W_zero (x := 0) rfl, Int.compare_eq_eq.2 rfl] at h
  simp at h
theorem least_pos (cur g s b c2 q mi T a1 a2 a3 r : Nat) (w : World) (hc : w.cell? ⟨b, 0, none⟩ = some (.float .f64 cur))
    (h1 : (FloatKind.f64.format.order cur 0 == some .lt || FloatKind.f64.format.order cur 0 == some .eq) = false)
    (m0 : ∀ w, (binOp .mul 36 (.float .f64 4611686018427387904) (.float .f64 cur)).run Try.prog w = .ok (.float .f64 c2) w)
    (d0 : ∀ w, (binOp .quo 36 (.float .f64 (Op.negFloat .f64 g)) (.float .f64 c2)).run Try.prog w = .ok (.float .f64 q) w)
    (mn : ∀ w, (Builtin.min_ #[36, 36] 36 #[.float .f64 s, .float .f64 q]).run Try.prog w = .ok (.float .f64 mi) w)
    (mx : ∀ w, (Builtin.max_ #[36, 36] 36 #[.float .f64 (Op.negFloat .f64 s), .float .f64 mi]).run Try.prog w = .ok (.float .f64 T) w)
    (m1 : ∀ w, (binOp .mul 36 (.float .f64 cur) (.float .f64 T)).run Try.prog w = .ok (.float .f64 a1) w)
    (m2 : ∀ w, (binOp .mul 36 (.float .f64 a1) (.float .f64 T)).run Try.prog w = .ok (.float .f64 a2) w)
    (m3 : ∀ w, (binOp .mul 36 (.float .f64 g) (.float .f64 T)).run Try.prog w = .ok (.float .f64 a3) w)
    (ad : ∀ w, (binOp .add 36 (.float .f64 a2) (.float .f64 a3)).run Try.prog w = .ok (.float .f64 r) w) :
    Calls Try.prog 25 #[.float .f64 g, .float .f64 s, .pointer (some ⟨b, 0, none⟩)] w fun e w' => e = .returned (.float .f64 r) ∧ ∃ m, w' = w.drewN m := by
  go_enter Try.func25, Try.ntmps25
  go_wp2_with fail
  go_ret
  exact ⟨rfl, 0, rfl⟩
theorem least_neg (cur g s b a1 a2 a3 r : Nat) (w : World) (hc : w.cell? ⟨b, 0, none⟩ = some (.float .f64 cur)) (hgS : g < 2 * S)
    (h1 : (FloatKind.f64.format.order cur 0 == some .lt || FloatKind.f64.format.order cur 0 == some .eq) = true)
    (m1 : ∀ w, (binOp .mul 36 (.float .f64 cur) (.float .f64 s)).run Try.prog w = .ok (.float .f64 a1) w)
    (m2 : ∀ w, (binOp .mul 36 (.float .f64 a1) (.float .f64 s)).run Try.prog w = .ok (.float .f64 a2) w)
    (m3 : ∀ w, (binOp .mul 36 (.float .f64 (rg g)) (.float .f64 s)).run Try.prog w = .ok (.float .f64 a3) w)
    (sb : ∀ w, (binOp .sub 36 (.float .f64 a2) (.float .f64 a3)).run Try.prog w = .ok (.float .f64 r) w) :
    Calls Try.prog 25 #[.float .f64 g, .float .f64 s, .pointer (some ⟨b, 0, none⟩)] w fun e w' => e = .returned (.float .f64 r) ∧ ∃ m, w' = w.drewN m := by
  have ha := fun w => abs_any g w hgS
  clear hgS
  go_enter Try.func25, Try.ntmps25
  go_wp2_with fail
  go_quiet (first | (go_at_call 26; refine Calls.quiet_of_same (ha _)))
  go_wp2_with fail
  go_ret
  exact ⟨rfl, _, rfl⟩
theorem least_any (cur g s b : Nat) (w : World) (hc : w.cell? ⟨b, 0, none⟩ = some (.float .f64 cur)) (hcur : Le cur 1200) (hg : fin g) (hgS : g < 2 * S) (hs : rg s = 0) :
    Calls Try.prog 25 #[.float .f64 g, .float .f64 s, .pointer (some ⟨b, 0, none⟩)] w fun e w' => e = .returned (.float .f64 (leastW cur g s)) ∧ ∃ m, w' = w.drewN m := by
  have fs := fin_zero hs
  cases hq : leq cur 0
  · have e : leastW cur g s = addw (mulw (mulw cur (theW cur g s)) (theW cur g s)) (mulw g (theW cur g s)) := if_neg (by rw [hq]; exact Bool.false_ne_true)
    have l2 : Le twoW 1075 := ⟨fin_twoW, by rw [rg_twoW, V_two]; exact Nat.le_refl _⟩
    have lm : Le (mulw twoW cur) 1201 := l2.mul hcur (by omega) (by omega)
    have hne := two_mul_ne (lq_cur hcur.1 hq) lm.1
    have fng : fin (Op.negFloat .f64 g) := by unfold fin; rw [rg_neg]; exact hg
    have hz : rg (divw (Op.negFloat .f64 g) (mulw twoW cur)) ≤ infR := by rw [rg_divw]; exact Qr_le_inf _ _
    have hmn := gmin_zero hs hz
    have fns : fin (Op.negFloat .f64 s) := by unfold fin; rw [rg_neg]; exact fs
    have tz := theW_zero (cur := cur) (g := g) hs
    have ft := fin_zero tz
    have f1 := fin_zero (mul_zero_rg (x := cur) tz)
    have f2 := fin_zero (mul_zero_rg (x := mulw cur (theW cur g s)) tz)
    have f3 := fin_zero (mul_zero_rg (x := g) tz)
    rw [e]
    exact least_pos cur g s b _ _ _ (theW cur g s) _ _ _ _ w hc hq (run_mul (mul_w fin_twoW hcur.1)) (run_div (div_w fng lm.1 hne)) (run_gmin (order_some fs hz) _ _) (run_gmax (order_some fns hmn.1) _ _)
      (run_mul (mul_w hcur.1 ft)) (run_mul (mul_w f1 ft)) (run_mul (mul_w hg ft)) (run_add (add_w f2 f3))
  · have e : leastW cur g s = subw (mulw (mulw cur s) s) (mulw (rg g) s) := if_pos hq
    have f1 := fin_zero (mul_zero_rg (x := cur) hs)
    have f2 := fin_zero (mul_zero_rg (x := mulw cur s) hs)
    have fg : fin (rg g) := by unfold fin; rw [rg_small (rg_lt g)]; exact hg
    have f3 := fin_zero (mul_zero_rg (x := rg g) hs)
    rw [e]
    exact least_neg cur g s b _ _ _ _ w hc hgS hq (run_mul (mul_w hcur.1 fs)) (run_mul (mul_w f1 fs)) (run_mul (mul_w fg fs)) (run_sub (sub_w f2 f3))
end Go.Proofs.Qxb6616528a
