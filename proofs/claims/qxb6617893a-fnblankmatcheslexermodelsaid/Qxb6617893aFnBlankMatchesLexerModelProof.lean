/-
  The proof of the given statement (the frame after the guide's shell; the walk and the plain law by the prover).
-/
import Derived.Test.Qxb6617893aRows
import Derived.Test.Qxb6617893aBlank
import Derived.Test.Qxb6617893aModel
import Derived.WalkSmall
import Derived.WalkKit
import Derived.ProofKit
import Derived.OpenShut
import Derived.ShutString
import Derived.ChangeOld
import Derived.Below
namespace Go.Proofs.Qxb6617893a.fnBlankMatchesLexerModel
open Go.ChangeShapes Go.WideShapes Go.ChangeAt Go.RowKit
open Go.ChangeMaps (open_string shut_string)
set_option linter.unusedVariables false

theorem own : ownKnob Try.prog.godebug = none := by kernel_rfl
theorem laidOut : laidOutB Try.prog = true := by kernel_rfl

/-- WHAT THE WALK IS TOLD OF A SLICE OF INTEGERS THAT CAME IN: it is nil; or it leads to a row of 'cap' cells, the numbers 'zs' (the first 'len' are its elements, the rest its spare room), each fitting its kind. -/
def IsRow (k : IntKind) (w : World) (a : Option Addr) (len cap : Nat) (zs : List Int) : Prop :=
  (a = none ∧ len = 0 ∧ cap = 0 ∧ zs = []) ∨
  ∃ x, a = some x ∧ len ≤ cap ∧ cap ≤ maxLen ∧ zs.length = cap ∧ (∀ i, i < zs.length → w.cell? (x.add i) = some (.int k (zs.getD i 0))) ∧ ∀ n ∈ zs, (Lit.int k n).wf = true

open Plain

theorem row_rd {w : World} {a : Option Addr} {len cap : Nat} {zs : List Int} (h : IsRow .u8 w a len cap zs) :
    Rd w w.heap.size a len (fun i => zs.getD i 0) ∧ len ≤ maxLen ∧ ∀ i, i < len → 0 ≤ zs.getD i 0 ∧ zs.getD i 0 < 256 := by
  rcases h with ⟨rfl, rfl, rfl, rfl⟩ | ⟨x, rfl, h1, h2, h3, h4, h5⟩
  · exact ⟨fun i hi => by omega, by omega, fun i hi => by omega⟩
  · refine ⟨fun i hi => ?_, by omega, fun i hi => ?_⟩
    · have hc := h4 i (by omega)
      obtain ⟨b, off, s⟩ := x
      obtain rfl : s = none := by simpa [Addr.add] using World.cell?_spot (h4 0 (by omega))
      rw [add_plain] at hc
      exact ⟨b, off, rfl, World.block_lt_of_cell? w ⟨b, off + i, none⟩ hc, hc⟩
    · have hm : zs.getD i 0 ∈ zs := by
        rw [List.getD_eq_getElem?_getD, List.getElem?_eq_getElem (show i < zs.length by omega)]
        exact List.getElem_mem _
      have := bounds_u8 (h5 _ hm)
      omega

/-! ### STEP 1: THE WALK: the Go text returns true, AND WRITES NOTHING THAT WAS THERE. -/
set_option maxHeartbeats 1000000 in
theorem walk (a0 : Option Addr) (len0 cap0 : Nat) (z0 : List Int) (w : World) (w0 : IsRow .u8 w a0 len0 cap0 z0) :
    Calls Try.prog 3 #[.slice a0 len0 cap0] w fun e w' => e = .returned (.bool true) ∧ Below w.heap.size w w' := by
  have q22 : ∀ (w : World) (a : Option Addr) (n c n' c' : Nat), (binOp .eql 22 (.slice a n c) (.slice none n' c')).run Try.prog w = .ok (.bool a.isNone) w := fun w a n c n' c' => Lib.run_eql_slice_nil w _ _ a n c n' c' Try.underlying22
  obtain ⟨hrd, hml, hby⟩ := row_rd w0
  generalize hz : (fun i => z0.getD i 0) = z at hrd
  replace hby : ∀ i, i < len0 → 0 ≤ z i ∧ z i < 256 := by subst hz; exact hby
  clear w0 hz
  go_enter Try.func3, Try.ntmps3
  go_wp2_with fail
  refine (bytes6_any a0 len0 cap0 w hml).mono ?_
  rintro e w' ⟨⟨r, rfl, hr⟩, rfl⟩
  cases r
  · clear hr
    go_wp2_with fail
    go_ret
    exact ⟨rfl, Below.refl _ _⟩
  have hl := hr rfl
  clear hr
  unfold maxLen at hml
  cases a0 with
  | none =>
    go_wp2_with fail
    refine (clone_nil len0 cap0 _).mono ?_
    rintro e w1 ⟨rfl, rfl⟩
    go_wp2_with fail
    refine (clone_nil 0 0 _).mono ?_
    rintro e w2 ⟨rfl, rfl⟩
    go_wp2_with fail
    refine (zzblank_nil 0 0 _).mono ?_
    rintro e w3 ⟨rfl, hb⟩
    go_wp2_with fail
    refine (model_nil 0 0 _).mono ?_
    rintro e w4 ⟨rfl, rfl⟩
    go_wp2_with fail
    refine (same_any none none 0 0 0 0 (fun _ => 0) (fun _ => 0) _ (by omega) (fun i hi => by omega) (fun i hi => by omega) (fun i hi => by omega)).mono ?_
    rintro e w5 ⟨rfl, k5, rfl⟩
    go_wp2_with fail
    refine (same_any none none 0 0 0 0 (fun _ => 0) (fun _ => 0) _ (by omega) (fun i hi => by omega) (fun i hi => by omega) (fun i hi => by omega)).mono ?_
    rintro e w6 ⟨rfl, k6, rfl⟩
    go_wp2_with fail
    go_ret
    exact ⟨rfl, below_drewN hb _⟩
  | some x =>
    go_wp2_with fail
    refine (clone_any x len0 cap0 z _ (by omega) hrd).mono ?_
    rintro e w1 ⟨rfl, ho1, hb1⟩
    have hr1 := owns_rd ho1
    go_wp2_with fail
    refine (clone_any _ len0 len0 z _ (by omega) hr1).mono ?_
    rintro e w2 ⟨rfl, ho2, hb2⟩
    have hr2 := owns_rd ho2
    go_wp2_with fail
    refine (zzblank_some _ len0 len0 z _ (by omega) hby hr2).mono ?_
    rintro e w3 ⟨g, cap, y, rfl, ho3, hy, hb3⟩
    have hr13 := (hr1.below hb2).mono hb2.size |>.below hb3 |>.mono hb3.size
    go_wp2_with fail
    refine (model_some _ len0 len0 z _ (by omega) hr13).mono ?_
    rintro e w4 ⟨g', y', rfl, ho4, hy', hb4⟩
    have hr3 := (owns_rd ho3).below hb4 |>.mono hb4.size
    have hr4 := owns_rd ho4
    go_wp2_with fail
    refine (same_any _ _ len0 cap len0 _ y y' _ (by omega) hr3 hr4 (hy.uniq hy')).mono ?_
    rintro e w5 ⟨rfl, k5, rfl⟩
    have hr5 : Rd (w4.drewN k5) w4.heap.size (some ⟨w1.heap.size, 0, none⟩) len0 z := (hr2.below hb3).mono hb3.size |>.below hb4 |>.mono hb4.size
    have hr6 : Rd (w4.drewN k5) w4.heap.size (some ⟨w'.heap.size, 0, none⟩) len0 z := hr13.below hb4 |>.mono hb4.size
    go_wp2_with fail
    refine (same_any _ _ len0 len0 len0 _ z z _ (by omega) hr5 hr6 (fun _ _ => rfl)).mono ?_
    rintro e w6 ⟨rfl, k6, rfl⟩
    go_wp2_with fail
    go_ret
    exact ⟨rfl, below_drewN (((hb1.trans (hb2.mono hb1.size)).trans (hb3.mono (Nat.le_trans hb1.size hb2.size))).trans (hb4.mono (Nat.le_trans hb1.size (Nat.le_trans hb2.size hb3.size)))) _⟩

/-! ### THE ROW's STEP: WRITTEN OUT: LEAVE IT -/
set_option maxRecDepth 100000 in
theorem lifted (os : Os) (started : os.Started) (H : Type) (enc : TypeId × Value → H) :
    ReturnsInHanded {} Try.checked os 3 .any (Rows.fnBlankMatchesLexerModelSpec.pre6 enc Try.prog Try.f3 Rows.fnBlankMatchesLexerModelRow.domain false) (Rows.fnBlankMatchesLexerModelSpec.post enc Try.prog Try.f3 false true false false) := by
  refine returnsInHanded_of_change (C := Try.checked) own started (by kernel_rfl) Try.func3
    (ChangeSpec.witness6 (enc := enc) (C := Try.checked) false ⟨#[], #[.slice none 0 0], []⟩ 8 (by kernel_rfl) (by kernel_rfl) (by kernel_rfl) (by kernel_rfl)) ?_
  intro W base args ds gs before hval0 hW hcnd _
  have hval : ∀ (j : Nat) t v, Try.f3.params[j]? = some t → args[j]? = some v → Value.okWide Try.prog W .any base t v := hval0
  have hW' := hW
  obtain ⟨p, q, hA0, hV, rfl, hfz, hnd⟩ := hW
  have hA : DataW.TrodAll enc Try.prog W 0 (fun _ => true) true Try.f3.params.toList args.toList ds p := hA0
  rw [Try.params3] at hA hval
  obtain ⟨v0, vs0, d0, ds0, p0, q0, hargs, rfl, rfl, h0, r0⟩ := trodAll_cons hA
  obtain ⟨rfl, rfl, rfl⟩ := trodAll_nil r0
  obtain rfl : args = #[v0] := by cases args; simp_all
  obtain ⟨rfl, rfl⟩ := trodVars_none hV
  obtain ⟨a0, len0, cap0, rfl⟩ := okWide_slice Try.underlying22 (hval 0 22 v0 rfl rfl)
  have k0 := h0
  have lt0 : ∀ x ∈ p0, x.block < W.heap.size := by obtain ⟨m, hm⟩ := k0; exact DataW.trod_lt m _ _ _ hm
  obtain ⟨z0, w0⟩ : ∃ zs, IsRow .u8 W a0 len0 cap0 zs := by
    obtain ⟨fuel, hf⟩ := h0
    rcases open_ints Try.underlying22 Try.underlying5 (by kernel_rfl) hf with ⟨hcs, _⟩ | ⟨x, l, c, zs, hcs, _, hl, hm, hz, _, hcell, hwz⟩
    · simp [Value.cells] at hcs
      obtain ⟨rfl, rfl, rfl⟩ := hcs
      exact ⟨[], .inl ⟨rfl, rfl, rfl, rfl⟩⟩
    · simp [Value.cells] at hcs
      obtain ⟨rfl, rfl, rfl⟩ := hcs
      exact ⟨zs, .inr ⟨_, rfl, hl, hm, by simpa using hz, hcell, hwz⟩⟩
  clear hA0 hval0
  refine (walk a0 len0 cap0 z0 W w0).mono fun e W' ⟨he, bel⟩ => ?_
  subst he
  exact ⟨_, rfl, _, _, _, [], _, [], hW', trodAll_mk1 (shut_bool Try.underlying4 _), (trodAll_cons_mk (Below.trod laidOut (by kernel_rfl) (of_decide_eq_true (by kernel_rfl)) k0 bel lt0) trodAll_mk0), rfl, bel.frame _, fun h => by cases h⟩

theorem over : Rows.fnBlankMatchesLexerModelRow.holds Try.pinned (OpenSpec.ofChange Rows.fnBlankMatchesLexerModelSpec) :=
  OpenClaim.holds_of_wide 3 Try.f3 rfl rfl rfl rfl rfl rfl rfl ⟨rfl, rfl, rfl, rfl, rfl⟩ rfl rfl rfl rfl rfl (by kernel_rfl) Try.func3 (by kernel_rfl)
    (of_decide_eq_true (by kernel_rfl)) (by unfold Func.isWrapper; first | (rw [if_pos (by decide +kernel)]; kernel_rfl) | (rw [if_neg (by decide +kernel)]; exact ⟨rfl, rfl⟩))
    (fun os started H enc _ => lifted os started H enc)

/-- ████ THE STATEMENT ████ -/
theorem proved : Rows.FnBlankMatchesLexerModelSaid := over
end Go.Proofs.Qxb6617893a.fnBlankMatchesLexerModel

namespace Go.Proofs.Qxb6617893a
theorem fnBlankMatchesLexerModel_proved : Rows.FnBlankMatchesLexerModelSaid := fnBlankMatchesLexerModel.proved
end Go.Proofs.Qxb6617893a
