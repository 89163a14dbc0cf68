/-
  The proof of the given statement (the frame after the guide's shell; the walk and the plain law by the prover).
-/
import Derived.Test.Qxb6616528aRows
import Derived.Test.Qxb6616528aGf
import Derived.WalkKit
import Derived.ProofKit
import Derived.OpenShut
import Derived.ShutString
import Derived.ChangeOld
import Derived.Below
import Derived.Laws.Cover2
import Derived.Deep.Slices
namespace Go.Proofs.Qxb6616528a.fnBoundAtAPointIsTheSum
open Go.ChangeShapes Go.WideShapes Go.ChangeAt Go.RowKit
open Go.ChangeMaps (open_string shut_string)
set_option linter.unusedVariables false

theorem own : ownKnob Try.prog.godebug = none := by kernel_rfl
theorem laidOut : laidOutB Try.prog = true := by kernel_rfl
theorem cells36 : Try.prog.cellsOf 36 = 1 := by kernel_rfl

theorem one_cell {w : World} {base : Nat} {a : Addr} {cs : List Value} (h : w.cells? base a 1 = some cs) : ∃ v, cs = [v] ∧ w.cell? a = some v := by
  unfold World.cells? at h
  split at h
  · cases hc : w.cell? (a.add 0) with
    | none => simp [List.range_succ, hc] at h
    | some v =>
      simp [List.range_succ, hc] at h
      refine ⟨v, h.symm, ?_⟩
      simpa [Addr.add] using hc
  · simp at h
theorem float_cell {H : Type} {enc : TypeId × Value → H} {w : World} {base : Nat} {spare : Nat → Bool} {held : Bool} {n : Nat} {v : Value} {x : DataW H × List MemPlace} (h : DataW.trod enc Try.prog w base spare held n 36 [v] = some x) : ∃ b, v = .float .f64 b := by
  cases n with
  | zero => simp [DataW.trod] at h
  | succ n =>
    simp only [DataW.trod, Try.underlying36] at h
    cases v <;> simp at h
    exact ⟨_, by rw [h.1.1]⟩
/-- A slice of floats that came in. -/
theorem float_row {H : Type} {enc : TypeId × Value → H} {w : World} {base : Nat} {spare : Nat → Bool} {held : Bool} {a : Option Addr} {len cap : Nat} {d : DataW H} {ps : List MemPlace} (h : DataW.Trod enc Try.prog w base spare held 35 (.slice a len cap) d ps) :
    ∃ z : Nat → Nat, RdF w a len z ∧ len ≤ maxLen ∧ (a = none → len = 0) := by
  obtain ⟨fuel, hf⟩ := h
  rcases Deep.open_slice Try.underlying35 hf with ⟨hcs, _⟩ | ⟨x, l, c, m, n, D, Pl, hcs, _, hl, hm, he, _, hel⟩
  · simp [Value.cells] at hcs
    obtain ⟨rfl, rfl, rfl⟩ := hcs
    exact ⟨fun _ => 0, fun i hi => by omega, by omega, fun _ => rfl⟩
  · simp [Value.cells] at hcs
    obtain ⟨rfl, rfl, rfl⟩ := hcs
    have hlm : len ≤ m := by rw [he]; split <;> omega
    have each : ∀ i, ∃ b, i < len → w.cell? (x.add i) = some (.float .f64 b) := by
      intro i
      by_cases hi : i < len
      · obtain ⟨cs', h1, h2⟩ := hel i (by omega)
        rw [cells36, Nat.mul_one] at h1
        obtain ⟨v, rfl, hv⟩ := one_cell h1
        obtain ⟨b, rfl⟩ := float_cell h2
        exact ⟨b, fun _ => hv⟩
      · exact ⟨0, fun h => absurd h hi⟩
    obtain ⟨z, hz⟩ : ∃ z : Nat → Nat, ∀ i, i < len → w.cell? (x.add i) = some (.float .f64 (z i)) := ⟨fun i => (each i).choose, fun i => (each i).choose_spec⟩
    clear each
    refine ⟨z, fun i hi => ?_, by omega, fun h => by cases h⟩
    have hc := hz i hi
    have h0 := hz 0 (by omega)
    obtain ⟨b, off, s⟩ := x
    obtain rfl : s = none := by simpa [Addr.add] using World.cell?_spot h0
    rw [add_plain] at hc
    exact ⟨b, off, rfl, hc⟩

/-! ### THE ROW's STEP -/
set_option maxRecDepth 100000 in
theorem lifted (os : Os) (started : os.Started) (H : Type) (enc : TypeId × Value → H) :
    ReturnsInHanded {} Try.checked os 5 .any (Rows.fnBoundAtAPointIsTheSumSpec.pre6 enc Try.prog Try.f5 Rows.fnBoundAtAPointIsTheSumRow.domain false) (Rows.fnBoundAtAPointIsTheSumSpec.post enc Try.prog Try.f5 false true false false) := by
  refine returnsInHanded_of_change (C := Try.checked) own started (by kernel_rfl) Try.func5
    (ChangeSpec.witness6 (enc := enc) (C := Try.checked) false ⟨#[], #[.slice none 0 0, .slice none 0 0, .float .f64 0, .float .f64 0, .float .f64 0, .float .f64 0, .float .f64 0, .slice none 0 0, .slice none 0 0, .float .f64 0], []⟩ 8 (by kernel_rfl) (by kernel_rfl) (by kernel_rfl) (by kernel_rfl)) ?_
  intro W base args ds gs before hval0 hW hcnd _
  have hval : ∀ (j : Nat) t v, Try.f5.params[j]? = some t → args[j]? = some v → Value.okWide Try.prog W .any base t v := hval0
  have hW' := hW
  obtain ⟨p, q, hA0, hV, rfl, hfz, hnd⟩ := hW
  have hA : DataW.TrodAll enc Try.prog W 0 (fun _ => true) true Try.f5.params.toList args.toList ds p := hA0
  rw [Try.params5] at hA hval
  obtain ⟨v0, vs0, d0, ds0, p0, q0, hargs, rfl, rfl, h0, r0⟩ := trodAll_cons hA
  obtain ⟨v1, vs1, d1, ds1, p1, q1, rfl, rfl, rfl, h1, r1⟩ := trodAll_cons r0
  obtain ⟨v2, vs2, d2, ds2, p2, q2, rfl, rfl, rfl, h2, r2⟩ := trodAll_cons r1
  obtain ⟨v3, vs3, d3, ds3, p3, q3, rfl, rfl, rfl, h3, r3⟩ := trodAll_cons r2
  obtain ⟨v4, vs4, d4, ds4, p4, q4, rfl, rfl, rfl, h4, r4⟩ := trodAll_cons r3
  obtain ⟨v5, vs5, d5, ds5, p5, q5, rfl, rfl, rfl, h5, r5⟩ := trodAll_cons r4
  obtain ⟨v6, vs6, d6, ds6, p6, q6, rfl, rfl, rfl, h6, r6⟩ := trodAll_cons r5
  obtain ⟨v7, vs7, d7, ds7, p7, q7, rfl, rfl, rfl, h7, r7⟩ := trodAll_cons r6
  obtain ⟨v8, vs8, d8, ds8, p8, q8, rfl, rfl, rfl, h8, r8⟩ := trodAll_cons r7
  obtain ⟨v9, vs9, d9, ds9, p9, q9, rfl, rfl, rfl, h9, r9⟩ := trodAll_cons r8
  obtain ⟨rfl, rfl, rfl⟩ := trodAll_nil r9
  obtain rfl : args = #[v0, v1, v2, v3, v4, v5, v6, v7, v8, v9] := by cases args; simp_all
  obtain ⟨rfl, rfl⟩ := trodVars_none hV
  obtain ⟨a0, len0, cap0, rfl⟩ := okWide_slice Try.underlying35 (hval 0 35 v0 rfl rfl)
  have k0 := h0
  have lt0 : ∀ x ∈ p0, x.block < W.heap.size := by obtain ⟨m, hm⟩ := k0; exact DataW.trod_lt m _ _ _ hm
  obtain ⟨z0, w0, m0, e0⟩ := float_row h0
  obtain ⟨a1, len1, cap1, rfl⟩ := okWide_slice Try.underlying35 (hval 1 35 v1 rfl rfl)
  have k1 := h1
  have lt1 : ∀ x ∈ p1, x.block < W.heap.size := by obtain ⟨m, hm⟩ := k1; exact DataW.trod_lt m _ _ _ hm
  obtain ⟨z1, w1, m1, e1⟩ := float_row h1
  obtain ⟨a2, rfl, rfl, rfl, w2⟩ := open_float Try.underlying36 (hval 2 36 v2 rfl rfl) h2
  obtain ⟨a3, rfl, rfl, rfl, w3⟩ := open_float Try.underlying36 (hval 3 36 v3 rfl rfl) h3
  obtain ⟨a4, rfl, rfl, rfl, w4⟩ := open_float Try.underlying36 (hval 4 36 v4 rfl rfl) h4
  obtain ⟨a5, rfl, rfl, rfl, w5⟩ := open_float Try.underlying36 (hval 5 36 v5 rfl rfl) h5
  obtain ⟨a6, rfl, rfl, rfl, w6⟩ := open_float Try.underlying36 (hval 6 36 v6 rfl rfl) h6
  obtain ⟨a7, len7, cap7, rfl⟩ := okWide_slice Try.underlying35 (hval 7 35 v7 rfl rfl)
  have k7 := h7
  have lt7 : ∀ x ∈ p7, x.block < W.heap.size := by obtain ⟨m, hm⟩ := k7; exact DataW.trod_lt m _ _ _ hm
  obtain ⟨z7, w7, m7, e7⟩ := float_row h7
  obtain ⟨a8, len8, cap8, rfl⟩ := okWide_slice Try.underlying35 (hval 8 35 v8 rfl rfl)
  have k8 := h8
  have lt8 : ∀ x ∈ p8, x.block < W.heap.size := by obtain ⟨m, hm⟩ := k8; exact DataW.trod_lt m _ _ _ hm
  obtain ⟨z8, w8, m8, e8⟩ := float_row h8
  obtain ⟨a9, rfl, rfl, rfl, w9⟩ := open_float Try.underlying36 (hval 9 36 v9 rfl rfl) h9
  clear hA0 hval0
  refine (law_walk a0 a1 a7 a8 len0 cap0 len1 cap1 len7 cap7 len8 cap8 a2 a3 a4 a5 a6 a9 z0 z1 z7 z8 W m0 m1 m7 m8 e0 e1 e7 e8 w0 w1 w7 w8).mono fun e W' ⟨he, bel⟩ => ?_
  subst he
  exact ⟨_, rfl, _, _, _, [], _, [], hW', trodAll_mk1 (shut_bool Try.underlying4 _), (trodAll_cons_mk (Below.trod laidOut (by kernel_rfl) (of_decide_eq_true (by kernel_rfl)) k0 bel lt0) (trodAll_cons_mk (Below.trod laidOut (by kernel_rfl) (of_decide_eq_true (by kernel_rfl)) k1 bel lt1) (trodAll_cons_mk (shut_float Try.underlying36 w2) (trodAll_cons_mk (shut_float Try.underlying36 w3) (trodAll_cons_mk (shut_float Try.underlying36 w4) (trodAll_cons_mk (shut_float Try.underlying36 w5) (trodAll_cons_mk (shut_float Try.underlying36 w6) (trodAll_cons_mk (Below.trod laidOut (by kernel_rfl) (of_decide_eq_true (by kernel_rfl)) k7 bel lt7) (trodAll_cons_mk (Below.trod laidOut (by kernel_rfl) (of_decide_eq_true (by kernel_rfl)) k8 bel lt8) (trodAll_cons_mk (shut_float Try.underlying36 w9) trodAll_mk0)))))))))), rfl, bel.frame _, fun h => by cases h⟩

theorem over : Rows.fnBoundAtAPointIsTheSumRow.holds Try.pinned (OpenSpec.ofChange Rows.fnBoundAtAPointIsTheSumSpec) :=
  OpenClaim.holds_of_wide 5 Try.f5 rfl rfl rfl rfl rfl rfl rfl ⟨rfl, rfl, rfl, rfl, rfl⟩ rfl rfl rfl rfl rfl (by kernel_rfl) Try.func5 (by kernel_rfl)
    (of_decide_eq_true (by kernel_rfl)) (by unfold Func.isWrapper; first | (rw [if_pos (by decide +kernel)]; kernel_rfl) | (rw [if_neg (by decide +kernel)]; exact ⟨rfl, rfl⟩))
    (fun os started H enc _ => lifted os started H enc)

/-- ████ THE STATEMENT ████ -/
theorem proved : Rows.FnBoundAtAPointIsTheSumSaid := over
end Go.Proofs.Qxb6616528a.fnBoundAtAPointIsTheSum

namespace Go.Proofs.Qxb6616528a
theorem fnBoundAtAPointIsTheSum_proved : Rows.FnBoundAtAPointIsTheSumSaid := fnBoundAtAPointIsTheSum.proved
end Go.Proofs.Qxb6616528a
