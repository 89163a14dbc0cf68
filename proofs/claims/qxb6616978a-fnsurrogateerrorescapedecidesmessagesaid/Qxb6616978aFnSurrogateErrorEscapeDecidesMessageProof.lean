/-
  The proof of the given statement (the frame after the guide's shell; the walk and the plain law by the prover).
-/
import Derived.Test.Qxb6616978aRows
import Derived.Test.Qxb6616978aEsc
import Derived.WalkKit
import Derived.ProofKit
import Derived.OpenShut
import Derived.ShutString
namespace Go.Proofs.Qxb6616978a.fnSurrogateErrorEscapeDecidesMessage
open Go.ChangeShapes Go.WideShapes Go.ChangeAt Go.RowKit
open Go.ChangeMaps (open_string shut_string)
set_option linter.unusedVariables false      -- a walk need not use every 'w<i>' (that an integer argument fits its kind)

theorem own : ownKnob Try.prog.godebug = none := by kernel_rfl

/-! ### THE PLAIN LAW -/
theorem msg_inj (a b : ByteArray) : ((msg a).toList == (msg b).toList) = (a.toList == b.toList) := by
  rw [Bool.eq_iff_iff, beq_iff_eq, beq_iff_eq, ByteArray.toList_eq, ByteArray.toList_eq, ByteArray.toList_eq, ByteArray.toList_eq]
  unfold msg
  simp [ByteArray.data_append]

theorem msg_size (a : ByteArray) : (msg a).size = a.size + 72 := by
  have h1 : preB.size = 28 := rfl
  have h2 : postB.size = 44 := rfl
  unfold msg
  simp only [ByteArray.size_append]
  omega

theorem ret_true {p : Prop} [Decidable p] (h : p) : Ending.returned (.bool (decide p)) = .returned (.bool true) := by rw [decide_eq_true h]

/-! ### STEP 1: THE WALK: the Go text returns true. -/
set_option maxHeartbeats 400000 in
theorem walk (a0 : ByteArray) (a1 : Int) (a2 : ByteArray) (a3 : Int) (w0 : a0.size ≤ maxLen) (w1 : (Lit.int .i64 a1).wf = true) (w2 : a2.size ≤ maxLen) (w3 : (Lit.int .i64 a3).wf = true) (w : World) :
    Calls Try.prog 5 #[.string a0, .int .i64 a1, .string a2, .int .i64 a3] w fun e w' => e = .returned (.bool true) ∧ Grown w w' := by
  have wa := w0
  have wb := w2
  unfold maxLen at wa wb
  have hs0 := msg_size a0
  have hs2 := msg_size a2
  have hi := msg_inj a0 a2
  have HI : Hid (((msg a0).toList == (msg a2).toList) = (a0.toList == a2.toList)) := hi
  have H0 : Hid ((msg a0).size = a0.size + 72) := hs0
  have H2 : Hid ((msg a2).size = a2.size + 72) := hs2
  clear hi hs0 hs2
  go_enter Try.func5, Try.ntmps5
  go_wp2_with fail
  refine (bytes12_any a0 a1 a2 a3 _ w0 w2).mono ?_
  rintro e w' ⟨⟨r, rfl, hr⟩, rfl⟩
  cases r
  · clear hr
    go_wp2_with fail
    go_ret
    exact ⟨rfl, Grown.refl _⟩
  · obtain ⟨k0, k2⟩ := hr rfl
    clear hr
    by_cases c0 : 65536 < a0.size
    · go_wp2_with fail
      go_ret
      exact ⟨rfl, Grown.refl _⟩
    by_cases c2 : 65536 < a2.size
    · go_wp2_with fail
      go_ret
      exact ⟨rfl, Grown.refl _⟩
    go_wp2_with fail
    refine (text_any a0 a1 _ k0).mono ?_
    rintro e wA ⟨rfl, gA⟩
    go_wp2_with fail
    refine (text_any a2 a3 _ k2).mono ?_
    rintro e wB ⟨rfl, gB⟩
    have hi := HI.out
    have hs0 := H0.out
    have hs2 := H2.out
    go_wp2_with fail
    go_ret
    exact ⟨ret_true (by omega), grown_trans gA gB⟩

/-! ### THE ROW's STEP: WRITTEN OUT: LEAVE IT -/
set_option maxRecDepth 100000 in
theorem lifted (os : Os) (started : os.Started) (H : Type) (enc : TypeId × Value → H) :
    ReturnsInHanded {} Try.checked os 5 .any (Rows.fnSurrogateErrorEscapeDecidesMessageSpec.pre6 enc Try.prog Try.f5 Rows.fnSurrogateErrorEscapeDecidesMessageRow.domain false) (Rows.fnSurrogateErrorEscapeDecidesMessageSpec.post enc Try.prog Try.f5 false true false false) := by
  refine returnsInHanded_of_change (C := Try.checked) own started (by kernel_rfl) Try.func5
    (ChangeSpec.witness6 (enc := enc) (C := Try.checked) false ⟨#[], #[.string ByteArray.empty, .int .i64 0, .string ByteArray.empty, .int .i64 0], []⟩ 8 (by kernel_rfl) (by kernel_rfl) (by kernel_rfl) (by kernel_rfl)) ?_
  intro W base args ds gs before hval0 hW hcnd _
  have hval : ∀ (j : Nat) t v, Try.f5.params[j]? = some t → args[j]? = some v → Value.okWide Try.prog W .any base t v := hval0
  have hW' := hW
  obtain ⟨p, q, hA0, hV, rfl, hfz, hnd⟩ := hW
  have hA : DataW.TrodAll enc Try.prog W 0 (fun _ => true) true Try.f5.params.toList args.toList ds p := hA0
  rw [Try.params5] at hA hval
  obtain ⟨v0, vs0, d0, ds0, p0, q0, hargs, rfl, rfl, h0, r0⟩ := trodAll_cons hA
  obtain ⟨v1, vs1, d1, ds1, p1, q1, rfl, rfl, rfl, h1, r1⟩ := trodAll_cons r0
  obtain ⟨v2, vs2, d2, ds2, p2, q2, rfl, rfl, rfl, h2, r2⟩ := trodAll_cons r1
  obtain ⟨v3, vs3, d3, ds3, p3, q3, rfl, rfl, rfl, h3, r3⟩ := trodAll_cons r2
  obtain ⟨rfl, rfl, rfl⟩ := trodAll_nil r3
  obtain rfl : args = #[v0, v1, v2, v3] := by cases args; simp_all
  obtain ⟨rfl, rfl⟩ := trodVars_none hV
  obtain ⟨a0, rfl, rfl, rfl, w0⟩ := open_string Try.underlying9 (hval 0 9 v0 rfl rfl) h0
  obtain ⟨a1, rfl, rfl, rfl, w1⟩ := open_int Try.underlying2 (hval 1 2 v1 rfl rfl) h1
  obtain ⟨a2, rfl, rfl, rfl, w2⟩ := open_string Try.underlying9 (hval 2 9 v2 rfl rfl) h2
  obtain ⟨a3, rfl, rfl, rfl, w3⟩ := open_int Try.underlying2 (hval 3 2 v3 rfl rfl) h3
  clear hA0 hval0
  simp only [List.append_nil] at hW'
  refine (walk a0 a1 a2 a3 w0 w1 w2 w3 W).mono fun e W' ⟨he, hg⟩ => ?_
  subst he
  exact ⟨_, rfl, post_of_same (pa := []) (pv := []) hW' (fun _ _ _ => (trodAll_cons_mk (shut_bool Try.underlying4 _) trodAll_mk0)) (fun sp _ => (trodAll_cons_mk (shut_string Try.underlying9 w0) (trodAll_cons_mk (shut_int Try.underlying2 w1) (trodAll_cons_mk (shut_string Try.underlying9 w2) (trodAll_cons_mk (shut_int Try.underlying2 w3) trodAll_mk0))))) (fun _ _ => rfl) rfl
    (hg.frame _) hg.2.1 (ok_one (by kernel_rfl) rfl (okWide_bool_mk Try.underlying4 _))⟩

theorem over : Rows.fnSurrogateErrorEscapeDecidesMessageRow.holds Try.pinned (OpenSpec.ofChange Rows.fnSurrogateErrorEscapeDecidesMessageSpec) :=
  OpenClaim.holds_of_wide 5 Try.f5 rfl rfl rfl rfl rfl rfl rfl ⟨rfl, rfl, rfl, rfl, rfl⟩ rfl rfl rfl rfl rfl (by kernel_rfl) Try.func5 (by kernel_rfl)
    (of_decide_eq_true (by kernel_rfl)) (by unfold Func.isWrapper; first | (rw [if_pos (by decide +kernel)]; kernel_rfl) | (rw [if_neg (by decide +kernel)]; exact ⟨rfl, rfl⟩))
    (fun os started H enc _ => lifted os started H enc)

/-- ████ THE STATEMENT ████ -/
theorem proved : Rows.FnSurrogateErrorEscapeDecidesMessageSaid :=
  over
end Go.Proofs.Qxb6616978a.fnSurrogateErrorEscapeDecidesMessage

namespace Go.Proofs.Qxb6616978a
theorem fnSurrogateErrorEscapeDecidesMessage_proved : Rows.FnSurrogateErrorEscapeDecidesMessageSaid := fnSurrogateErrorEscapeDecidesMessage.proved
end Go.Proofs.Qxb6616978a
