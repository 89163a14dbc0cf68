/-
  SEAT b6616528a: contracts: math.Hypot, math.Abs.
-/
import Derived.Test.Qxb6616528aFw
import Derived.Laws.Externs
set_option linter.unusedSimpArgs false
set_option exponentiation.threshold 5000
namespace Go.Proofs.Qxb6616528a
open Go.ChangeShapes Go.WideShapes Go.ChangeAt Go.RowKit
open Fl

theorem arith_div {x y r : Nat} (h : Ieee.double.div x y = some r) (w : World) : (Extern.MathAsm.div x y).run Try.prog w = .ok r w := by
  have h' : FloatKind.f64.format.div x y = some r := h
  simp [Extern.MathAsm.div, Extern.MathAsm.arith, Op.floatArith, h']
theorem arith_mul {x y r : Nat} (h : Ieee.double.mul x y = some r) (w : World) : (Extern.MathAsm.mul x y).run Try.prog w = .ok r w := by
  have h' : FloatKind.f64.format.mul x y = some r := h
  simp [Extern.MathAsm.mul, Extern.MathAsm.arith, Op.floatArith, h']
theorem arith_add {x y r : Nat} (h : Ieee.double.add x y = some r) (w : World) : (Extern.MathAsm.add x y).run Try.prog w = .ok r w := by
  have h' : FloatKind.f64.format.add x y = some r := h
  simp [Extern.MathAsm.add, Extern.MathAsm.arith, Op.floatArith, h']
theorem ext_sqrt {x r : Nat} (h : Ieee.double.sqrt x = some r) (w : World) : (Extern.MathSqrt.sqrt #[.float .f64 x]).run Try.prog w = .ok (.float .f64 r) w := by
  have h' : FloatKind.f64.format.sqrt x = some r := h
  change Sem.run Try.prog (match FloatKind.f64.format.sqrt x with
    | some r => pure (Value.float .f64 r)
    | none => do pure (Value.float .f64 (← choose (.nanBits .f64 x x)))) w = _
  rw [h']
  rfl

theorem F_false (r : Nat) : F false r = r := rfl
theorem sg_small {r : Nat} (h : r < S) : sg r = false := by have := sg_F (s := false) h; rwa [F_false] at this
theorem rg_small {r : Nat} (h : r < S) : rg r = r := by have := rg_F (s := false) h; rwa [F_false] at this
theorem fin_small {r : Nat} (h : r < infR) : fin r := by unfold fin; rw [rg_small (Nat.lt_trans h infR_lt_S)]; exact h
theorem W_small {r : Nat} (h : r < S) : W r = (V r : Int) := by have := W_pos h; rwa [F_false] at this

/-- Of two rungs the greater and the lesser, and what the assembly makes of them. -/
theorem hyp_run {big small : Nat} (hb : big ≠ 0) (hbf : big < infR) (hs : small ≤ big) (_hov : 2 * V big < TOP) (w : World) :
    (do
      let r ← Extern.MathAsm.div small big
      let r ← Extern.MathAsm.add (← Extern.MathAsm.mul r r) Extern.MathAsm.one
      let .float _ r ← Extern.MathSqrt.sqrt #[.float .f64 r] | stuck "sqrt: a float expected"
      pure (.float .f64 (← Extern.MathAsm.mul r big)) : Sem Value).run Try.prog w = .ok (.float .f64 (F false (hyp2 big small))) w := by
  obtain ⟨q1, q2, q3, q4, q5, _, _⟩ := hyp_parts hb hs
  have hsf : small < infR := by omega
  have hSb := Nat.lt_trans hbf infR_lt_S
  have hSs := Nat.lt_trans hsf infR_lt_S
  have d1 : Ieee.double.div small big = some (Qr small big) := by
    have := div_fin (fin_small hsf) (fin_small hbf) (by rw [rg_small hSb]; exact hb)
    rw [sg_small hSs, sg_small hSb, rg_small hSs, rg_small hSb, Bool.xor_false, F_false] at this
    exact this
  have S1 := Nat.lt_trans q1 infR_lt_S
  have d2 : Ieee.double.mul (Qr small big) (Qr small big) = some (Mr (Qr small big) (Qr small big)) := by
    have := mul_fin (fin_small q1) (fin_small q1)
    rw [sg_small S1, rg_small S1, Bool.xor_false, F_false] at this
    exact this
  have hone : (Extern.MathAsm.one : Nat) = oneR := rfl
  have h1f : oneR < infR := by decide
  have d3 : Ieee.double.add (Mr (Qr small big) (Qr small big)) oneR = some (hin big small) := by
    have := add_fin (fin_small q2) (fin_small h1f)
    have e : As (Mr (Qr small big) (Qr small big)) oneR = false := by
      unfold As
      rw [W_small (Nat.lt_trans q2 infR_lt_S), W_small (Nat.lt_trans h1f infR_lt_S), V_one]
      have hp : 0 < 2 ^ 1074 := Nat.two_pow_pos 1074
      rw [if_neg (by omega)]
      exact decide_eq_false (by omega)
    rw [e, F_false] at this
    rw [this]
    unfold hin
    rw [F_false, F_false]
  have S3 := Nat.lt_trans q3 infR_lt_S
  have d4 : Ieee.double.sqrt (hin big small) = some (Sr (hin big small)) := by
    have := sqrt_fin (fin_small q3) (by rw [rg_small S3]; exact q4) (sg_small S3)
    rw [rg_small S3, F_false] at this
    exact this
  have S5 := Nat.lt_trans q5 infR_lt_S
  have d5 : Ieee.double.mul (Sr (hin big small)) big = some (F false (hyp2 big small)) := by
    have := mul_fin (fin_small q5) (fin_small hbf)
    rw [sg_small S5, sg_small hSb, rg_small S5, rg_small hSb, Bool.xor_false] at this
    exact this
  simp only [Sem.run_bind, arith_div d1, Result.andThen_ok, arith_mul d2, hone, arith_add d3, ext_sqrt d4, arith_mul d5, Sem.run_pure]

theorem run_archHypot {p q : Nat} (hp : fin p) (hq : fin q) (hpo : 2 * V (rg p) < TOP) (hqo : 2 * V (rg q) < TOP) (w : World) :
    (Extern.MathHypot.archHypot #[.float .f64 p, .float .f64 q]).run Try.prog w = .ok (.float .f64 (F false (hyp (rg p) (rg q)))) w := by
  unfold fin at hp hq
  have hpS := Nat.lt_trans hp infR_lt_S
  have hqS := Nat.lt_trans hq infR_lt_S
  change Sem.run Try.prog (do
    if rg p == infR || rg q == infR then return Value.float .f64 Extern.MathAsm.posInf
    if rg p > infR || rg q > infR then return Value.float .f64 Extern.MathAsm.nan
    if rg p == 0 && rg q == 0 then return Value.float .f64 0
    let (big, small) := if Extern.MathAsm.lt (rg p) (rg q) then (rg q, rg p) else (rg p, rg q)
    let r ← Extern.MathAsm.div small big
    let r ← Extern.MathAsm.add (← Extern.MathAsm.mul r r) Extern.MathAsm.one
    let .float _ r ← Extern.MathSqrt.sqrt #[.float .f64 r] | stuck "sqrt: a float expected"
    pure (Value.float .f64 (← Extern.MathAsm.mul r big))) w = _
  have c1 : (rg p == infR || rg q == infR) = false := by simp; omega
  have c2 : ¬ (rg p > infR ∨ rg q > infR) := by omega
  have hlt : Extern.MathAsm.lt (rg p) (rg q) = decide (rg p < rg q) := by
    show (FloatKind.f64.format.order (rg p) (rg q) == some .lt) = _
    have ho : FloatKind.f64.format.order (rg p) (rg q) = _ := order_fin (fin_small hp) (fin_small hq)
    rw [ho, W_small hpS, W_small hqS]
    rcases Nat.lt_trichotomy (rg p) (rg q) with h | h | h
    · rw [Int.compare_eq_lt.2 (by have := V_lt h; omega)]; simp [h]
    · rw [h, Int.compare_eq_eq.2 rfl]; simp
    · rw [Int.compare_eq_gt.2 (by have := V_lt h; omega)]; simp; omega
  unfold hyp
  by_cases h0 : rg p = 0 ∧ rg q = 0
  · rw [if_pos h0]
    simp [c1, c2, h0.1, h0.2]
    rfl
  · have c3 : (rg p == 0 && rg q == 0) = false := by
      rw [Bool.eq_false_iff]
      intro h
      simp at h
      exact h0 h
    rw [if_neg h0]
    by_cases h : rg p < rg q
    · rw [if_pos h]
      have := hyp_run (big := rg q) (small := rg p) (by omega) hq (Nat.le_of_lt h) hqo w
      simp only [c1, c2, c3, hlt, h, decide_true, if_true, Bool.false_eq_true, if_false, decide_eq_true_eq, Bool.or_eq_true]
      exact this
    · rw [if_neg h]
      have := hyp_run (big := rg p) (small := rg q) (by omega) hp (by omega) hpo w
      simp only [c1, c2, c3, hlt, h, decide_false, if_true, Bool.false_eq_true, if_false, decide_eq_true_eq, Bool.or_eq_true]
      exact this

theorem call28 (x y : Nat) (w : World) : (callFunc 28 #[.float .f64 x, .float .f64 y]).run Try.prog w = ((Extern.MathHypot.archHypot #[.float .f64 x, .float .f64 y]).run Try.prog w).andThen fun v w' => .ok (.value v) w' :=
  run_callFunc_extern Try.func28 (by kernel_rfl) (by kernel_rfl) (by kernel_rfl) (by kernel_rfl) _ w

theorem hypot_any (p q : Nat) (w : World) (hp : fin p) (hq : fin q) (hpo : 2 * V (rg p) < TOP) (hqo : 2 * V (rg q) < TOP) :
    Calls Try.prog 22 #[.float .f64 p, .float .f64 q] w fun e w' => e = .returned (.float .f64 (F false (hyp (rg p) (rg q)))) ∧ w' = w := by
  have h28 : ∀ w, (callFunc 28 #[.float .f64 p, .float .f64 q]).run Try.prog w = .ok (.value (.float .f64 (F false (hyp (rg p) (rg q))))) w := fun w => by
    rw [call28, run_archHypot hp hq hpo hqo]; rfl
  go_enter Try.func22, Try.ntmps22
  go_wp2_with fail
  go_ret
  exact ⟨rfl, rfl⟩
end Go.Proofs.Qxb6616528a
