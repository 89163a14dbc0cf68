/-
  The proof of the given statement (the frame after the guide's shell; the walk and the plain law by the prover).
-/
import Derived.Test.Qxb6616978aRows
import Derived.Test.Qxb6616978aEsc
import Derived.WalkSpells
import Derived.Deep.QuietTactic
import Derived.BigQuiet
import Derived.WalkKit
import Derived.ProofKit
import Derived.OpenShut
import Derived.ShutString
namespace Go.Proofs.Qxb6616978a.fnSurrogateErrorEscapeInsideFixedFrame
open Go.ChangeShapes Go.WideShapes Go.ChangeAt Go.RowKit
open Go.ChangeMaps (open_string shut_string)
set_option linter.unusedVariables false      -- a walk need not use every 'w<i>' (that an integer argument fits its kind)

theorem own : ownKnob Try.prog.godebug = none := by kernel_rfl

/-! ### THE PLAIN LAW -/
theorem msg_size (a : ByteArray) : (msg a).size = a.size + 72 := by
  have h1 : preB.size = 28 := rfl
  have h2 : postB.size = 44 := rfl
  unfold msg
  simp only [ByteArray.size_append]
  omega

theorem ext_list (s : ByteArray) (i j : Nat) : (s.extract i j).toList = (s.data.toList.drop i).take (j - i) := by
  rw [ByteArray.toList_eq, ByteArray.data_extract]
  simp [Array.toList_extract, List.extract_eq_take_drop]

theorem msg_list (a : ByteArray) : (msg a).data.toList = preB.data.toList ++ (a.data.toList ++ postB.data.toList) := by
  unfold msg
  simp [ByteArray.data_append]

theorem pre_len : preB.data.toList.length = 28 := rfl

/-- Up to the place of the escape the two messages begin alike. -/
theorem head_eq (a b : ByteArray) (k : Nat) (h : k ≤ 28) : (((msg a).extract 0 k).toList == ((msg b).extract 0 k).toList) = true := by
  rw [beq_iff_eq, ext_list, ext_list, msg_list, msg_list]
  simp only [List.drop_zero, Nat.sub_zero]
  rw [List.take_append_of_le_length (by rw [pre_len]; exact h), List.take_append_of_le_length (by rw [pre_len]; exact h)]

theorem mid_eq (a : ByteArray) : (((msg a).extract 28 (28 + a.size)).toList == a.toList) = true := by
  rw [beq_iff_eq, ext_list, msg_list, ByteArray.toList_eq, ← pre_len, List.drop_left]
  have e : preB.data.toList.length + a.size - preB.data.toList.length = a.data.toList.length := by
    have h1 : a.data.toList.length = a.size := rfl
    omega
  rw [e, List.take_left]

theorem tail_eq (a b : ByteArray) (h : b.size = 0) : (((msg a).extract (28 + a.size) (msg a).size).toList == ((msg b).extract 28 (msg b).size).toList) = true := by
  have hb : b.data.toList = [] := List.eq_nil_of_length_eq_zero h
  have hp : postB.data.toList.length = 44 := rfl
  have ha : a.data.toList.length = a.size := rfl
  rw [beq_iff_eq, ext_list, ext_list, msg_size, msg_size, msg_list, msg_list, hb, List.nil_append]
  have e1 : (28 + a.size) = (preB.data.toList ++ a.data.toList).length := by rw [List.length_append, pre_len, ha]
  have e2 : (28 : Nat) = preB.data.toList.length := pre_len.symm
  rw [← List.append_assoc]
  rw [show (preB.data.toList ++ a.data.toList ++ postB.data.toList).drop (28 + a.size) = postB.data.toList from by rw [e1, List.drop_left]]
  rw [show (preB.data.toList ++ postB.data.toList).drop 28 = postB.data.toList from by rw [e2, List.drop_left]]
  rw [List.take_of_length_le (by omega), List.take_of_length_le (by omega)]

theorem grown_drewN {a b : World} (h : Grown a b) (n : Nat) : Grown a (b.drewN n) := h

/-! ### STEP 1: THE WALK: the Go text returns true. -/
set_option maxHeartbeats 1000000 in
theorem walk (a0 : ByteArray) (a1 : Int) (a2 : Int) (w0 : a0.size ≤ maxLen) (w1 : (Lit.int .i64 a1).wf = true) (w2 : (Lit.int .i64 a2).wf = true) (w : World) :
    Calls Try.prog 6 #[.string a0, .int .i64 a1, .int .i64 a2] w fun e w' => e = .returned (.bool true) ∧ Grown w w' := by
  have wa := w0
  unfold maxLen at wa
  go_enter Try.func6, Try.ntmps6
  go_wp2_with fail
  refine (bytes14_any a0 a1 a2 _ w0).mono ?_
  rintro e w' ⟨⟨r, rfl, hr⟩, rfl⟩
  cases r
  · clear hr
    go_wp2_with fail
    go_ret
    exact ⟨rfl, Grown.refl _⟩
  · have k0 := hr rfl
    clear hr
    by_cases c0 : 65536 < a0.size
    · go_wp2_with fail
      go_ret
      exact ⟨rfl, Grown.refl _⟩
    go_wp2_with fail
    refine (text_any _ a2 _ (by decide)).mono ?_
    rintro e wA ⟨rfl, gA⟩
    go_wp2_with fail
    refine (text_any a0 a1 _ k0).mono ?_
    rintro e wB ⟨rfl, gB⟩
    have g0 := grown_trans gA gB
    have hs0 := msg_size a0
    have hsf := msg_size { data := #[] }
    have hz : ({ data := #[] } : ByteArray).size = 0 := rfl
    go_wp2_with fail
    go_loopw [9] (fun i wx => ∃ k : Nat, 1 ≤ k ∧ k ≤ 28 ∧ i = .int .i64 k ∧ Grown w' wx) (fun i _ => 28 - (intOf i).toNat)
    case atStart => exact ⟨1, by omega, by omega, rfl, g0⟩
    case round =>
      obtain ⟨k, hk1, hk2, rfl, gr⟩ := hrel
      have h1 := head_eq a0 { data := #[] } k hk2
      by_cases h2 : (((msg a0).extract k (k + a0.size)).toList == a0.toList) = true
      · by_cases h3 : (((msg a0).extract (k + a0.size) (a0.size + 72)).toList == ((msg { data := #[] }).extract k 72).toList) = true
        · go_wp2
          go_quiet (fail)
          go_wp2
          go_ret
          exact ⟨rfl, grown_drewN gr _⟩
        · have hk : k < 28 := by
            rcases Nat.lt_or_ge k 28 with h | h
            · exact h
            · obtain rfl : k = 28 := by omega
              exact absurd (by rw [← tail_eq a0 { data := #[] } rfl, msg_size, msg_size]; rfl) h3
          have h3' : (((msg a0).extract (k + a0.size) (a0.size + 72)).toList == ((msg { data := #[] }).extract k 72).toList) = false := by simpa using h3
          clear h3
          go_wp2
          go_quiet (fail)
          go_wp2
          go_roundw
          case rel => exact ⟨k + 1, by omega, by omega, by go_num, grown_drewN gr _⟩
          case measure => simp [intOf]; omega
      · have hk : k < 28 := by
          rcases Nat.lt_or_ge k 28 with h | h
          · exact h
          · obtain rfl : k = 28 := by omega
            exact absurd (mid_eq a0) h2
        have h2' : (((msg a0).extract k (k + a0.size)).toList == a0.toList) = false := by simpa using h2
        clear h2
        go_wp2
        go_quiet (fail)
        go_wp2
        go_roundw
        case rel => exact ⟨k + 1, by omega, by omega, by go_num, grown_drewN gr _⟩
        case measure => simp [intOf]; omega

/-! ### THE ROW's STEP: WRITTEN OUT: LEAVE IT -/
set_option maxRecDepth 100000 in
theorem lifted (os : Os) (started : os.Started) (H : Type) (enc : TypeId × Value → H) :
    ReturnsInHanded {} Try.checked os 6 .any (Rows.fnSurrogateErrorEscapeInsideFixedFrameSpec.pre6 enc Try.prog Try.f6 Rows.fnSurrogateErrorEscapeInsideFixedFrameRow.domain false) (Rows.fnSurrogateErrorEscapeInsideFixedFrameSpec.post enc Try.prog Try.f6 false true false false) := by
  refine returnsInHanded_of_change (C := Try.checked) own started (by kernel_rfl) Try.func6
    (ChangeSpec.witness6 (enc := enc) (C := Try.checked) false ⟨#[], #[.string ByteArray.empty, .int .i64 0, .int .i64 0], []⟩ 8 (by kernel_rfl) (by kernel_rfl) (by kernel_rfl) (by kernel_rfl)) ?_
  intro W base args ds gs before hval0 hW hcnd _
  have hval : ∀ (j : Nat) t v, Try.f6.params[j]? = some t → args[j]? = some v → Value.okWide Try.prog W .any base t v := hval0
  have hW' := hW
  obtain ⟨p, q, hA0, hV, rfl, hfz, hnd⟩ := hW
  have hA : DataW.TrodAll enc Try.prog W 0 (fun _ => true) true Try.f6.params.toList args.toList ds p := hA0
  rw [Try.params6] at hA hval
  obtain ⟨v0, vs0, d0, ds0, p0, q0, hargs, rfl, rfl, h0, r0⟩ := trodAll_cons hA
  obtain ⟨v1, vs1, d1, ds1, p1, q1, rfl, rfl, rfl, h1, r1⟩ := trodAll_cons r0
  obtain ⟨v2, vs2, d2, ds2, p2, q2, rfl, rfl, rfl, h2, r2⟩ := trodAll_cons r1
  obtain ⟨rfl, rfl, rfl⟩ := trodAll_nil r2
  obtain rfl : args = #[v0, v1, v2] := by cases args; simp_all
  obtain ⟨rfl, rfl⟩ := trodVars_none hV
  obtain ⟨a0, rfl, rfl, rfl, w0⟩ := open_string Try.underlying9 (hval 0 9 v0 rfl rfl) h0
  obtain ⟨a1, rfl, rfl, rfl, w1⟩ := open_int Try.underlying2 (hval 1 2 v1 rfl rfl) h1
  obtain ⟨a2, rfl, rfl, rfl, w2⟩ := open_int Try.underlying2 (hval 2 2 v2 rfl rfl) h2
  clear hA0 hval0
  simp only [List.append_nil] at hW'
  refine (walk a0 a1 a2 w0 w1 w2 W).mono fun e W' ⟨he, hg⟩ => ?_
  subst he
  exact ⟨_, rfl, post_of_same (pa := []) (pv := []) hW' (fun _ _ _ => (trodAll_cons_mk (shut_bool Try.underlying4 _) trodAll_mk0)) (fun sp _ => (trodAll_cons_mk (shut_string Try.underlying9 w0) (trodAll_cons_mk (shut_int Try.underlying2 w1) (trodAll_cons_mk (shut_int Try.underlying2 w2) trodAll_mk0)))) (fun _ _ => rfl) rfl
    (hg.frame _) hg.2.1 (ok_one (by kernel_rfl) rfl (okWide_bool_mk Try.underlying4 _))⟩

theorem over : Rows.fnSurrogateErrorEscapeInsideFixedFrameRow.holds Try.pinned (OpenSpec.ofChange Rows.fnSurrogateErrorEscapeInsideFixedFrameSpec) :=
  OpenClaim.holds_of_wide 6 Try.f6 rfl rfl rfl rfl rfl rfl rfl ⟨rfl, rfl, rfl, rfl, rfl⟩ rfl rfl rfl rfl rfl (by kernel_rfl) Try.func6 (by kernel_rfl)
    (of_decide_eq_true (by kernel_rfl)) (by unfold Func.isWrapper; first | (rw [if_pos (by decide +kernel)]; kernel_rfl) | (rw [if_neg (by decide +kernel)]; exact ⟨rfl, rfl⟩))
    (fun os started H enc _ => lifted os started H enc)

/-- ████ THE STATEMENT ████ -/
theorem proved : Rows.FnSurrogateErrorEscapeInsideFixedFrameSaid :=
  over
end Go.Proofs.Qxb6616978a.fnSurrogateErrorEscapeInsideFixedFrame

namespace Go.Proofs.Qxb6616978a
theorem fnSurrogateErrorEscapeInsideFixedFrame_proved : Rows.FnSurrogateErrorEscapeInsideFixedFrameSaid := fnSurrogateErrorEscapeInsideFixedFrame.proved
end Go.Proofs.Qxb6616978a
