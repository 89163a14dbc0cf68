/-
  The proof of the given statement (the frame after the guide's shell; the walk and the plain law by the prover).
-/
import Derived.Test.Qxb6616528aRows
import Derived.Test.Qxb6616528aCopy
import Derived.WalkKit
import Derived.ProofKit
import Derived.OpenShut
import Derived.ShutString
import Derived.ChangeOld
import Derived.Below
namespace Go.Proofs.Qxb6616528a.fnWithUpperLastWriteWins
open Go.ChangeShapes Go.WideShapes Go.ChangeAt Go.RowKit
open Go.ChangeMaps (open_string shut_string)
set_option linter.unusedVariables false

theorem own : ownKnob Try.prog.godebug = none := by kernel_rfl
theorem laidOut : laidOutB Try.prog = true := by kernel_rfl

/-- WHAT THE WALK IS TOLD OF A SLICE OF INTEGERS THAT CAME IN: it is nil; or it leads to a row of 'cap' cells, the numbers 'zs' (the first 'len' are its elements, the rest its spare room), each fitting its kind. -/
def IsRow (k : IntKind) (w : World) (a : Option Addr) (len cap : Nat) (zs : List Int) : Prop :=
  (a = none ∧ len = 0 ∧ cap = 0 ∧ zs = []) ∨
  ∃ x, a = some x ∧ len ≤ cap ∧ cap ≤ maxLen ∧ zs.length = cap ∧ (∀ i, i < zs.length → w.cell? (x.add i) = some (.int k (zs.getD i 0))) ∧ ∀ n ∈ zs, (Lit.int k n).wf = true

open Plain

theorem row_ex {w : World} {a : Option Addr} {len cap : Nat} {zs : List Int} (h : IsRow .i64 w a len cap zs) :
    ∃ z : Nat → Int, Rd w w.heap.size a len z ∧ len ≤ maxLen ∧ (a = none → len = 0 ∧ cap = 0) := by
  rcases h with ⟨rfl, rfl, rfl, rfl⟩ | ⟨x, rfl, h1, h2, h3, h4, h5⟩
  · exact ⟨fun _ => 0, fun i hi => by omega, by omega, fun _ => ⟨rfl, rfl⟩⟩
  · refine ⟨fun i => zs.getD i 0, fun i hi => ?_, by omega, fun h => by cases h⟩
    have hc := h4 i (by omega)
    obtain ⟨b, off, s⟩ := x
    obtain rfl : s = none := by simpa [Addr.add] using World.cell?_spot (h4 0 (by omega))
    rw [add_plain] at hc
    exact ⟨b, off, rfl, World.block_lt_of_cell? w ⟨b, off + i, none⟩ hc, hc⟩

theorem u64_ex {n : Int} (h : (Lit.int .u64 n).wf = true) : ∃ X : Nat, n = (X : Int) ∧ X < 18446744073709551616 := by
  have := bounds_u64 h
  exact ⟨n.toNat, by omega, by omega⟩

theorem box_later {w w' : World} {v : Value} {t : TypeId} (hb : Below (w.alloc (.cells #[v] t)).heap.size (w.alloc (.cells #[v] t)) w') : w'.cell? ⟨w.heap.size, 0, none⟩ = some v := by
  rw [hb.cell (p := ⟨w.heap.size, 0, none⟩) (by simp), World.cell?_alloc_at _ _ _ _ rfl]
  rfl
theorem and_mask {b x : Nat} (hb : b ≤ 64) (hx : x < 18446744073709551616) : bits .and .u64 (x : Int) ((2 ^ b - 1 : Nat) : Int) = ((x % 2 ^ b : Nat) : Int) := by
  have h1 := pow_le64 hb
  have h2 := Nat.two_pow_pos b
  rw [u64_and_nat _ _ hx (by omega), Nat.and_two_pow_sub_one_eq_mod]

theorem ret_beq {a b : Int} (h : a = b) : Ending.returned (.bool (a == b)) = .returned (.bool true) := by rw [h]; simp

/-! ### STEP 1: THE WALK: the Go text returns true, AND WRITES NOTHING THAT WAS THERE. -/
set_option maxRecDepth 8000 in
set_option maxHeartbeats 1000000 in
theorem walk (a0 : Option Addr) (len0 cap0 : Nat) (z0 : List Int) (a1 : Int) (a2 : Int) (a3 : Int) (w : World) (w0 : IsRow .i64 w a0 len0 cap0 z0) (w1 : (Lit.int .u64 a1).wf = true) (w2 : (Lit.int .u64 a2).wf = true) (w3 : (Lit.int .u64 a3).wf = true) :
    Calls Try.prog 3 #[.slice a0 len0 cap0, .int .u64 a1, .int .u64 a2, .int .u64 a3] w fun e w' => e = .returned (.bool true) ∧ Below w.heap.size w w' := by
  obtain ⟨z, rd, ml, hnil⟩ := row_ex w0
  obtain ⟨X, rfl, hX⟩ := u64_ex w1
  obtain ⟨U, rfl, hU⟩ := u64_ex w2
  obtain ⟨V, rfl, hV⟩ := u64_ex w3
  clear w0 w1 w2 w3
  have q22 : ∀ (w : World) (a : Option Addr) (n c n' c' : Nat), (binOp .neq 22 (.slice a n c) (.slice none n' c')).run Try.prog w = .ok (.bool (!a.isNone)) w := fun w a n c n' c' => run_neq_slice_nil_any w _ _ a n c n' c' Try.underlying22
  obtain ⟨i0, hi, hz0, hz1, hz2⟩ := info_parts info3
  go_enter Try.func3, Try.ntmps3
  go_wp2_with fail
  refine (bytes6_any a0 len0 cap0 _ _ _ w ml).mono ?_
  rintro e w' ⟨⟨r, rfl, hr⟩, rfl⟩
  unfold maxLen at ml
  cases r
  · clear hr
    go_wp2_with fail
    go_ret
    exact ⟨rfl, Below.refl _ _⟩
  clear hr
  by_cases s0 : 65536 < len0
  · go_wp2_with fail
    go_ret
    exact ⟨rfl, Below.refl _ _⟩
  cases a0 with
  | none =>
    obtain ⟨rfl, rfl⟩ := hnil rfl
    clear hnil
    go_wp2_with fail
    refine (upper_any none 0 0 _ z _ (by omega) rd).mono ?_
    rintro e w3 ⟨h3, rfl⟩
    clear q22 rd
    rcases h3 with rfl | ⟨rfl, hf⟩
    · go_wp2_with fail
      go_ret
      exact ⟨rfl, Below.refl _ _⟩
    rw [show sumTo z 0 = 0 from rfl]
    clear hf
    obtain ⟨b, hb⟩ : ∃ b : Nat, b = 64 := ⟨_, rfl⟩
    have hb64 : b ≤ 64 := by omega
    have hb0 : 64 ≤ b := by omega
    clear hb
    go_wp2_with fail
    rw [show (64 : Int) = (b : Int) by omega]
    refine (newLayout_any _ 0 0 _).mono ?_
    rintro e w4 ⟨rfl, hb4⟩
    have hal := fun o => (Below.refl w4.heap.size w4).alloc (Nat.le_refl _) o
    go_wp2_with fail
    refine (withUpper_nil b X U _ hb64 hb0 hX).mono ?_
    rintro e w5 ⟨rfl, hb5⟩
    have hc5 := box_later hb5
    have hB5 := (hal _).trans (hb5.mono (hal _).size)
    have hlt5 : w4.heap.size < w5.heap.size := by have := hb5.size; simp at this; omega
    clear hb5 hal
    have hlU : wu b X U < 18446744073709551616 := wu_lt hb64
    obtain ⟨E, hE⟩ : ∃ E, E = wu b X U := ⟨_, rfl⟩
    rw [← hE] at hlU ⊢
    have HE : Hid (E = wu b X U) := hE
    clear hE
    go_wp2_with fail
    refine (withUpper_nil b E V _ hb64 hb0 hlU).mono ?_
    rintro e w6 ⟨rfl, hb6⟩
    rw [HE.out, wu_wu]
    have hc6 : w6.cell? ⟨w4.heap.size, 0, none⟩ = some (.slice none 0 0) := by rw [hb6.cell (p := ⟨w4.heap.size, 0, none⟩) hlt5]; exact hc5
    have hB6 := hB5.trans (hb6.mono hB5.size)
    have hlD : wu b X V < 18446744073709551616 := wu_lt hb64
    have hmD : wu b X V % 2 ^ b = X % 2 ^ b := wu_mod
    obtain ⟨D, hD⟩ : ∃ D, D = wu b X V := ⟨_, rfl⟩
    rw [← hD] at hlD hmD ⊢
    have HD : Hid (D = wu b X V) := hD
    clear hD hc5 hb6
    go_wp2_with fail
    refine (withUpper_nil b X V _ hb64 hb0 hX).mono ?_
    rintro e w7 ⟨rfl, hb7⟩
    rw [← HD.out]
    have hB7 := hb4.trans ((hB6.trans (hb7.mono hB6.size)).mono hb4.size)
    clear hb7 hB6 hB5 hb4 hc6
    have hM1 := and_mask (b := b) (x := D) hb64 hlD
    have hM2 := and_mask (b := b) (x := X) hb64 hX
    rw [hmD] at hM1
    obtain ⟨M, hM⟩ : ∃ M, M = 2 ^ b - 1 := ⟨_, rfl⟩
    obtain ⟨Y, hY⟩ : ∃ Y, Y = X % 2 ^ b := ⟨_, rfl⟩
    rw [← hM, ← hY] at hM1 hM2
    have HN : Hid (M = 2 ^ b - 1) := hM
    clear hM hY hmD HD HE
    go_wp2_with fail
    refine (lowMask_any b _ hb64).mono ?_
    rintro e w8 ⟨rfl, rfl⟩
    rw [← HN.out]
    go_wp2_with fail
    refine (lowMask_any b _ hb64).mono ?_
    rintro e w9 ⟨rfl, rfl⟩
    rw [← HN.out]
    go_wp2_with fail
    go_ret
    exact ⟨rfl, hB7⟩
  | some x =>
    clear hnil
    have b2 : i0.bytes * len0 ≤ 281474976710656 := by rw [hz2]; omega
    have b3 : len0 ≤ maxLen := by unfold maxLen; omega
    go_wp2_with (at_make; refine wpList_make_full _ rfl (.tmp 30) (.tmp 30) 22 rfl w'.heap.size 3 i0 (.int .i64 0) 1 Try.underlying22 hi hz0 hz1 .i64 .i64 _ _ len0 rfl rfl rfl rfl b2 b3 (Nat.le_refl _) ?_)
    intro w1 ho1 hg1
    have hb1 := (Below.refl w'.heap.size w').grown hg1 (Nat.le_refl _) (by simp)
    obtain ⟨w2, hrun, rd2, hb2⟩ := copy_full w' w1 w'.heap.size w'.heap.size len0 cap0 x _ z ho1 hb1 ((rd.below hb1).mono hb1.size)
    clear b2 b3 hi hz0 hz1 hz2 ho1 hg1 hb1 rd
    go_wp2_with fail
    clear hrun q22
    refine (upper_any _ len0 len0 _ z _ (by omega) rd2).mono ?_
    rintro e w3 ⟨h3, rfl⟩
    rcases h3 with rfl | ⟨rfl, hf⟩
    · go_wp2_with fail
      go_ret
      exact ⟨rfl, hb2⟩
    have hs0 := sumTo_nonneg hf.1 len0 (Nat.le_refl _)
    have hs1 := hf.2 len0 (Nat.le_refl _)
    obtain ⟨S, hS⟩ : ∃ S : Nat, sumTo z len0 = (S : Int) := ⟨(sumTo z len0).toNat, by omega⟩
    obtain ⟨b, hb⟩ : ∃ b : Nat, (b : Int) = 64 - sumTo z len0 := ⟨(64 - sumTo z len0).toNat, by omega⟩
    rw [hS]
    have hSb : S + b ≤ 64 := by omega
    have hSb' : 64 ≤ S + b := by omega
    have HB : Hid ((b : Int) = 64 - sumTo z len0) := hb
    clear hb hS hs0 hs1
    go_wp2_with fail
    rw [show (64 : Int) - (S : Int) = (b : Int) by omega]
    refine (newLayout_any _ len0 len0 _).mono ?_
    rintro e w4 ⟨rfl, hb4⟩
    have hbA := hb2.trans (hb4.mono hb2.size)
    have rdA := (rd2.below hb4).mono hb4.size
    have hal := fun o => (Below.refl w4.heap.size w4).alloc (Nat.le_refl _) o
    clear hb2 hb4 rd2
    go_wp2_with fail
    refine (withUpper_some _ len0 b X U z _ (by omega) ((rdA.below (hal _)).mono (hal _).size) hf HB.out hX).mono ?_
    rintro e w5 ⟨rfl, hb5⟩
    have hc5 := box_later hb5
    have hB5 := (hal _).trans (hb5.mono (hal _).size)
    have hlt5 : w4.heap.size < w5.heap.size := by have := hb5.size; simp at this; omega
    clear hb5 hal
    have hlU : wu b X U < 18446744073709551616 := wu_lt (by omega)
    obtain ⟨E, hE⟩ : ∃ E, E = wu b X U := ⟨_, rfl⟩
    rw [← hE] at hlU ⊢
    have HE : Hid (E = wu b X U) := hE
    clear hE
    go_wp2_with fail
    refine (withUpper_some _ len0 b E V z _ (by omega) ((rdA.below hB5).mono hB5.size) hf HB.out hlU).mono ?_
    rintro e w6 ⟨rfl, hb6⟩
    rw [HE.out, wu_wu]
    have hc6 : w6.cell? ⟨w4.heap.size, 0, none⟩ = some (.slice (some ⟨w'.heap.size, 0, none⟩) len0 len0) := by rw [hb6.cell (p := ⟨w4.heap.size, 0, none⟩) hlt5]; exact hc5
    have hB6 := hB5.trans (hb6.mono hB5.size)
    have hlD : wu b X V < 18446744073709551616 := wu_lt (by omega)
    have hmD : wu b X V % 2 ^ b = X % 2 ^ b := wu_mod
    have hdD : wu b X V / 2 ^ b = V % 2 ^ (64 - b) := wu_div
    obtain ⟨D, hD⟩ : ∃ D, D = wu b X V := ⟨_, rfl⟩
    rw [← hD] at hlD hmD hdD ⊢
    have HD : Hid (D = wu b X V) := hD
    clear hD hc5 hb6
    go_wp2_with fail
    refine (withUpper_some _ len0 b X V z _ (by omega) ((rdA.below hB6).mono hB6.size) hf HB.out hX).mono ?_
    rintro e w7 ⟨rfl, hb7⟩
    rw [← HD.out]
    have hB7 := hbA.trans ((hB6.trans (hb7.mono hB6.size)).mono hbA.size)
    clear hb7 hB6 hB5 rdA hbA hf HB hc6
    have hM1 := and_mask (b := b) (x := D) (by omega) hlD
    have hM2 := and_mask (b := b) (x := X) (by omega) hX
    have hM3 := and_mask (b := S) (x := V) (by omega) hV
    rw [hmD] at hM1
    have hSe : 64 - b = S := by omega
    rw [hSe] at hdD
    obtain ⟨M, hM⟩ : ∃ M, M = 2 ^ b - 1 := ⟨_, rfl⟩
    obtain ⟨Q, hQ⟩ : ∃ Q, Q = 2 ^ S - 1 := ⟨_, rfl⟩
    obtain ⟨Y, hY⟩ : ∃ Y, Y = X % 2 ^ b := ⟨_, rfl⟩
    obtain ⟨Z, hZ⟩ : ∃ Z, Z = V % 2 ^ S := ⟨_, rfl⟩
    rw [← hM, ← hY] at hM1 hM2
    rw [← hQ, ← hZ] at hM3
    rw [← hZ] at hdD
    have HN : Hid (M = 2 ^ b - 1 ∧ Q = 2 ^ S - 1 ∧ D / 2 ^ b = Z) := ⟨hM, hQ, hdD⟩
    clear hM hQ hY hZ hmD hdD hSe HD HE
    go_wp2_with fail
    refine (lowMask_any b _ (by omega)).mono ?_
    rintro e w8 ⟨rfl, rfl⟩
    rw [← HN.out.1]
    go_wp2_with fail
    refine (lowMask_any b _ (by omega)).mono ?_
    rintro e w9 ⟨rfl, rfl⟩
    rw [← HN.out.1]
    by_cases hS0 : S = 0
    · subst hS0
      go_wp2_with fail
      go_ret
      exact ⟨rfl, hB7⟩
    · have hS1 : ((S : Int) == 0) = false := by simpa using hS0
      clear hS0
      go_wp2_with fail
      refine (lowMask_any S _ (by omega)).mono ?_
      rintro e w10 ⟨rfl, rfl⟩
      rw [← HN.out.2.1]
      have hfin : (D : Int) / 2 ^ b = (Z : Int) := by rw [pow_cast, ← HN.out.2.2]; rfl
      go_wp2_with fail
      go_ret
      exact ⟨by first | rfl | exact ret_beq hfin, hB7⟩

/-! ### THE ROW's STEP: WRITTEN OUT: LEAVE IT -/
set_option maxRecDepth 100000 in
theorem lifted (os : Os) (started : os.Started) (H : Type) (enc : TypeId × Value → H) :
    ReturnsInHanded {} Try.checked os 3 .any (Rows.fnWithUpperLastWriteWinsSpec.pre6 enc Try.prog Try.f3 Rows.fnWithUpperLastWriteWinsRow.domain false) (Rows.fnWithUpperLastWriteWinsSpec.post enc Try.prog Try.f3 false true false false) := by
  refine returnsInHanded_of_change (C := Try.checked) own started (by kernel_rfl) Try.func3
    (ChangeSpec.witness6 (enc := enc) (C := Try.checked) false ⟨#[], #[.slice none 0 0, .int .u64 0, .int .u64 0, .int .u64 0], []⟩ 8 (by kernel_rfl) (by kernel_rfl) (by kernel_rfl) (by kernel_rfl)) ?_
  intro W base args ds gs before hval0 hW hcnd _
  have hval : ∀ (j : Nat) t v, Try.f3.params[j]? = some t → args[j]? = some v → Value.okWide Try.prog W .any base t v := hval0
  have hW' := hW
  obtain ⟨p, q, hA0, hV, rfl, hfz, hnd⟩ := hW
  have hA : DataW.TrodAll enc Try.prog W 0 (fun _ => true) true Try.f3.params.toList args.toList ds p := hA0
  rw [Try.params3] at hA hval
  obtain ⟨v0, vs0, d0, ds0, p0, q0, hargs, rfl, rfl, h0, r0⟩ := trodAll_cons hA
  obtain ⟨v1, vs1, d1, ds1, p1, q1, rfl, rfl, rfl, h1, r1⟩ := trodAll_cons r0
  obtain ⟨v2, vs2, d2, ds2, p2, q2, rfl, rfl, rfl, h2, r2⟩ := trodAll_cons r1
  obtain ⟨v3, vs3, d3, ds3, p3, q3, rfl, rfl, rfl, h3, r3⟩ := trodAll_cons r2
  obtain ⟨rfl, rfl, rfl⟩ := trodAll_nil r3
  obtain rfl : args = #[v0, v1, v2, v3] := by cases args; simp_all
  obtain ⟨rfl, rfl⟩ := trodVars_none hV
  obtain ⟨a0, len0, cap0, rfl⟩ := okWide_slice Try.underlying22 (hval 0 22 v0 rfl rfl)
  have k0 := h0
  have lt0 : ∀ x ∈ p0, x.block < W.heap.size := by obtain ⟨m, hm⟩ := k0; exact DataW.trod_lt m _ _ _ hm
  obtain ⟨z0, w0⟩ : ∃ zs, IsRow .i64 W a0 len0 cap0 zs := by
    obtain ⟨fuel, hf⟩ := h0
    rcases open_ints Try.underlying22 Try.underlying3 (by kernel_rfl) hf with ⟨hcs, _⟩ | ⟨x, l, c, zs, hcs, _, hl, hm, hz, _, hcell, hwz⟩
    · simp [Value.cells] at hcs
      obtain ⟨rfl, rfl, rfl⟩ := hcs
      exact ⟨[], .inl ⟨rfl, rfl, rfl, rfl⟩⟩
    · simp [Value.cells] at hcs
      obtain ⟨rfl, rfl, rfl⟩ := hcs
      exact ⟨zs, .inr ⟨_, rfl, hl, hm, by simpa using hz, hcell, hwz⟩⟩
  obtain ⟨a1, rfl, rfl, rfl, w1⟩ := open_int Try.underlying23 (hval 1 23 v1 rfl rfl) h1
  obtain ⟨a2, rfl, rfl, rfl, w2⟩ := open_int Try.underlying23 (hval 2 23 v2 rfl rfl) h2
  obtain ⟨a3, rfl, rfl, rfl, w3⟩ := open_int Try.underlying23 (hval 3 23 v3 rfl rfl) h3
  clear hA0 hval0
  refine (walk a0 len0 cap0 z0 a1 a2 a3 W w0 w1 w2 w3).mono fun e W' ⟨he, bel⟩ => ?_
  subst he
  exact ⟨_, rfl, _, _, _, [], _, [], hW', trodAll_mk1 (shut_bool Try.underlying4 _), (trodAll_cons_mk (Below.trod laidOut (by kernel_rfl) (of_decide_eq_true (by kernel_rfl)) k0 bel lt0) (trodAll_cons_mk (shut_int Try.underlying23 w1) (trodAll_cons_mk (shut_int Try.underlying23 w2) (trodAll_cons_mk (shut_int Try.underlying23 w3) trodAll_mk0)))), rfl, bel.frame _, fun h => by cases h⟩

theorem over : Rows.fnWithUpperLastWriteWinsRow.holds Try.pinned (OpenSpec.ofChange Rows.fnWithUpperLastWriteWinsSpec) :=
  OpenClaim.holds_of_wide 3 Try.f3 rfl rfl rfl rfl rfl rfl rfl ⟨rfl, rfl, rfl, rfl, rfl⟩ rfl rfl rfl rfl rfl (by kernel_rfl) Try.func3 (by kernel_rfl)
    (of_decide_eq_true (by kernel_rfl)) (by unfold Func.isWrapper; first | (rw [if_pos (by decide +kernel)]; kernel_rfl) | (rw [if_neg (by decide +kernel)]; exact ⟨rfl, rfl⟩))
    (fun os started H enc _ => lifted os started H enc)

/-- ████ THE STATEMENT ████ -/
theorem proved : Rows.FnWithUpperLastWriteWinsSaid := over
end Go.Proofs.Qxb6616528a.fnWithUpperLastWriteWins

namespace Go.Proofs.Qxb6616528a
theorem fnWithUpperLastWriteWins_proved : Rows.FnWithUpperLastWriteWinsSaid := fnWithUpperLastWriteWins.proved
end Go.Proofs.Qxb6616528a
