/-
  The proof of the given statement (the frame after the guide's shell; the walk and the plain law by the prover).
-/
import Derived.Test.Qxb6617893aRows
import Derived.Test.Qxb6617893aBlank
import Derived.Test.Qxb6617893aBuild
import Derived.Test.Qxb6617893aPlain2
import Derived.WalkSmall
import Derived.WalkKit
import Derived.ProofKit
import Derived.OpenShut
import Derived.ShutString
import Derived.ChangeOld
import Derived.Below
namespace Go.Proofs.Qxb6617893a.fnBlankCommentActsAsSpaces
open Go.ChangeShapes Go.WideShapes Go.ChangeAt Go.RowKit
open Go.ChangeMaps (open_string shut_string)
set_option linter.unusedVariables false

theorem own : ownKnob Try.prog.godebug = none := by kernel_rfl
theorem laidOut : laidOutB Try.prog = true := by kernel_rfl

/-- WHAT THE WALK IS TOLD OF A SLICE OF INTEGERS THAT CAME IN: it is nil; or it leads to a row of 'cap' cells, the numbers 'zs' (the first 'len' are its elements, the rest its spare room), each fitting its kind. -/
def IsRow (k : IntKind) (w : World) (a : Option Addr) (len cap : Nat) (zs : List Int) : Prop :=
  (a = none ∧ len = 0 ∧ cap = 0 ∧ zs = []) ∨
  ∃ x, a = some x ∧ len ≤ cap ∧ cap ≤ maxLen ∧ zs.length = cap ∧ (∀ i, i < zs.length → w.cell? (x.add i) = some (.int k (zs.getD i 0))) ∧ ∀ n ∈ zs, (Lit.int k n).wf = true

open Plain

theorem row_rd {w : World} {a : Option Addr} {len cap : Nat} {zs : List Int} (h : IsRow .u8 w a len cap zs) :
    Rd w w.heap.size a len (fun i => zs.getD i 0) ∧ len ≤ maxLen ∧ ∀ i, i < len → 0 ≤ zs.getD i 0 ∧ zs.getD i 0 < 256 := by
  rcases h with ⟨rfl, rfl, rfl, rfl⟩ | ⟨x, rfl, h1, h2, h3, h4, h5⟩
  · exact ⟨fun i hi => by omega, by omega, fun i hi => by omega⟩
  · refine ⟨fun i hi => ?_, by omega, fun i hi => ?_⟩
    · have hc := h4 i (by omega)
      obtain ⟨b, off, s⟩ := x
      obtain rfl : s = none := by simpa [Addr.add] using World.cell?_spot (h4 0 (by omega))
      rw [add_plain] at hc
      exact ⟨b, off, rfl, World.block_lt_of_cell? w ⟨b, off + i, none⟩ hc, hc⟩
    · have hm : zs.getD i 0 ∈ zs := by
        rw [List.getD_eq_getElem?_getD, List.getElem?_eq_getElem (show i < zs.length by omega)]
        exact List.getElem_mem _
      have := bounds_u8 (h5 _ hm)
      omega

theorem row_ex {w : World} {a : Option Addr} {len cap : Nat} {zs : List Int} (h : IsRow .u8 w a len cap zs) :
    ∃ z : Nat → Int, Rd w w.heap.size a len z ∧ len ≤ maxLen ∧ ∀ i, i < len → 0 ≤ z i ∧ z i < 256 := ⟨_, row_rd h⟩

/-! ### STEP 1: THE WALK: the Go text returns true, AND WRITES NOTHING THAT WAS THERE. -/
set_option maxRecDepth 8000 in
set_option maxHeartbeats 2000000 in
theorem walk (a0 : Option Addr) (len0 cap0 : Nat) (z0 : List Int) (a1 : Option Addr) (len1 cap1 : Nat) (z1 : List Int) (a2 : Option Addr) (len2 cap2 : Nat) (z2 : List Int) (w : World) (w0 : IsRow .u8 w a0 len0 cap0 z0) (w1 : IsRow .u8 w a1 len1 cap1 z1) (w2 : IsRow .u8 w a2 len2 cap2 z2) :
    Calls Try.prog 4 #[.slice a0 len0 cap0, .slice a1 len1 cap1, .slice a2 len2 cap2] w fun e w' => e = .returned (.bool true) ∧ Below w.heap.size w w' := by
  obtain ⟨za, rda, ml0, bya⟩ := row_ex w0
  obtain ⟨zc, rdc, ml1, byc⟩ := row_ex w1
  obtain ⟨zb, rdb, ml2, byb⟩ := row_ex w2
  clear w0 w1 w2
  obtain ⟨i0, hi, hz0, hz1, hz2⟩ := info_parts info5
  go_enter Try.func4, Try.ntmps4
  go_wp2_with fail
  refine (bytes11_any a0 a1 a2 len0 cap0 len1 cap1 len2 cap2 w ml0 ml1 ml2).mono ?_
  rintro e w' ⟨⟨r, rfl, hr⟩, rfl⟩
  unfold maxLen at ml0 ml1 ml2
  cases r
  · clear hr
    go_wp2_with fail
    go_ret
    exact ⟨rfl, Below.refl _ _⟩
  clear hr
  by_cases s0 : 262144 < len0
  · have d0 : (262144 : Int) < (len0 : Int) := by omega
    go_wp2_with fail
    go_ret
    exact ⟨rfl, Below.refl _ _⟩
  have d0 : decide ((262144 : Int) < (len0 : Int)) = false := decide_eq_false (by omega)
  by_cases s1 : 262144 < len1
  · have d1 : (262144 : Int) < (len1 : Int) := by omega
    go_wp2_with fail
    go_ret
    exact ⟨rfl, Below.refl _ _⟩
  have d1 : decide ((262144 : Int) < (len1 : Int)) = false := decide_eq_false (by omega)
  by_cases s2 : 262144 < len2
  · have d2 : (262144 : Int) < (len2 : Int) := by omega
    go_wp2_with fail
    go_ret
    exact ⟨rfl, Below.refl _ _⟩
  have d2 : decide ((262144 : Int) < (len2 : Int)) = false := decide_eq_false (by omega)
  go_wp2_with fail
  clear d0 d1 d2
  go_loopg [7] len1 (fun gk i wr => ∃ k : Nat, k ≤ len1 ∧ len1 - k ≤ gk ∧ i = .int .i64 k ∧ (∀ j, j < k → zc j ≠ 10) ∧ wr = w')
  case atStart => exact ⟨0, by omega, by omega, rfl, fun j hj => by omega, rfl⟩
  case round =>
    obtain ⟨k, hk, hgk, rfl, hno, rfl⟩ := hrel
    by_cases hlt : k < len1
    · obtain ⟨b, off, rfl, hB, hc⟩ := rdc k hlt
      by_cases h10 : zc k = 10
      · rw [h10] at hc
        clear hno h10
        go_wp2_with fail
        go_ret
        exact ⟨rfl, Below.refl _ _⟩
      · have h10' : (zc k == 10) = false := by simpa using h10
        have HR : Hid (∃ k' : Nat, k' ≤ len1 ∧ len1 - k' ≤ len1 - (k + 1) ∧ Value.int .i64 ((k : Int) + 1) = .int .i64 k' ∧ (∀ j, j < k' → zc j ≠ 10)) :=
          ⟨k + 1, by omega, Nat.le_refl _, by go_num, fun j hj => by
            rcases Nat.lt_or_ge j k with h | h
            · exact hno j h
            · obtain rfl : j = k := by omega
              exact h10⟩
        clear hno h10
        go_wp2_with fail
        go_roundg (len1 - (k + 1))
        case measure => go_light; omega
        case rel => obtain ⟨k', p1, p2, p3, p4⟩ := HR.out; exact ⟨k', p1, p2, p3, p4, rfl⟩
    · have hno' : ∀ j, j < len1 → zc j ≠ 10 := fun j hj => hno j (by omega)
      clear hno
      obtain ⟨W0, rfl⟩ : ∃ W0, W0 = wr := ⟨_, rfl⟩
      by_cases hsl : 0 < len0 ∧ za (len0 - 1) = 47
      · obtain ⟨hs1, hs2⟩ := hsl
        obtain ⟨b, off, rfl, hB, hc⟩ := rda (len0 - 1) (by omega)
        rw [hs2] at hc
        have d3 : (0 : Int) < (len0 : Int) := by omega
        clear hs2 hno'
        go_wp2_with fail
        go_ret
        exact ⟨rfl, Below.refl _ _⟩
      have hsl' : 0 < len0 → za (len0 - 1) ≠ 47 := fun h e => hsl ⟨h, e⟩
      by_cases hl0 : 0 < len0
      all_goals first
        | (obtain ⟨b, off, rfl, hB, hc⟩ := rda (len0 - 1) (by omega)
           have d3 : (0 : Int) < (len0 : Int) := by omega
           have d4 : (za (len0 - 1) == 47) = false := by simpa using hsl' hl0
           have HP : Hid ((∀ j, j < len1 → zc j ≠ 10) ∧ (0 < len0 → za (len0 - 1) ≠ 47)) := ⟨hno', hsl'⟩
           clear hno' hsl hsl'
           go_wp2_with fail
           clear d3 d4 hc hB)
        | (have d3 : decide ((0 : Int) < (len0 : Int)) = false := decide_eq_false (by omega)
           have HP : Hid ((∀ j, j < len1 → zc j ≠ 10) ∧ (0 < len0 → za (len0 - 1) ≠ 47)) := ⟨hno', hsl'⟩
           clear hno' hsl hsl'
           go_wp2_with fail
           clear d3)
      all_goals
        refine (kinds_any _ len0 cap0 za _ (by omega) rda).mono ?_
        rintro e wk ⟨rfl, hko, hkb⟩
        clear hko
        by_cases hst : st za len0 len0 = 0
        · rw [hst]
          have HS : Hid (st za len0 len0 = 0) := hst
          clear hst
          obtain ⟨N, hN⟩ : ∃ N, N = len0 + len1 + len2 + 3 := ⟨_, rfl⟩
          have hN1 : N ≤ len0 + len1 + len2 + 3 := by omega
          have hN2 : len0 + len1 + len2 + 3 ≤ N := by omega
          clear hN
          have b2 : i0.bytes * N ≤ 281474976710656 := by rw [hz2]; omega
          have b3 : N ≤ maxLen := by unfold maxLen; omega
          go_wp2_with (at_make; refine wpList_make_own _ rfl _ (.tmp 73) 22 rfl W0.heap.size 5 i0 (.int .u8 0) 1 Try.underlying22 hi hz0 hz1 _ _ _ N rfl rfl (by omega) b2 b3 hkb.size ?_)
          intro wL0 hoL0 hgL0
          have hbL0 := hkb.grown hgL0 hkb.size (by simp)
          rw [show ([] : List Value) = cellsF (fun _ => 0) 0 from rfl] at hoL0
          go_wp2_with fail
          refine (append_abs wk.heap.size 0 N W0.heap.size (fun _ => 0) _ len0 cap0 za _ hoL0 (by omega) (by omega) (rda.below hbL0)).mono ?_
          rintro e wL1 ⟨rfl, f1, _, f1b, ho1, hb1⟩
          simp only [Nat.zero_add] at f1b
          rw [Nat.zero_add] at ho1 ⊢
          have hbW1 := hbL0.trans (hb1.mono hkb.size)
          have F1 : Hid (∀ i, i < len0 → f1 i = za i) := f1b
          clear f1b hb1 hoL0 hgL0 hbL0
          go_wp2_with (at_builtin; refine wpList_append_fits _ rfl (.tmp 78) (.tmp 79) 22 rfl W0.heap.size 5 i0 1 Try.underlying22 hi hz1 wk.heap.size len0 N _ rfl (ho1.alloc _) ⟨wL1.heap.size, 0, none⟩ 2 2 [.int .u8 47, .int .u8 47] rfl rfl (two_new _ _ _ _) ?c1 ?c2 ?_)
          case c1 => intro u hu; simp at hu; subst hu; rfl
          case c2 => omega
          intro wL2 ho2 hg2
          obtain ⟨f2, f2a, f2b, f2c, e2⟩ := push2 f1 len0 47 47
          rw [e2] at ho2
          have hbW2 := below_app hbW1 hg2 hkb.size (owns_lt ho1).2
          have F2 : Hid ((∀ i, i < len0 → f2 i = za i) ∧ f2 len0 = 47 ∧ f2 (len0 + 1) = 47) := ⟨fun i hi => (f2a i hi).trans (F1.out i hi), f2b, f2c⟩
          clear f2a f2b f2c e2 F1 ho1 hg2 hbW1
          go_wp2_with fail
          refine (append_abs wk.heap.size (len0 + 2) N W0.heap.size f2 _ len1 cap1 zc _ ho2 (by omega) (by omega) (rdc.below hbW2)).mono ?_
          rintro e wL3 ⟨rfl, f3, f3a, f3b, ho3, hb3⟩
          have hbW3 := hbW2.trans (hb3.mono hkb.size)
          have F3 : Hid ((∀ i, i < len0 → f3 i = za i) ∧ f3 len0 = 47 ∧ f3 (len0 + 1) = 47 ∧ ∀ i, i < len1 → f3 (len0 + 2 + i) = zc i) :=
            ⟨fun i hi => (f3a i (by omega)).trans (F2.out.1 i hi), (f3a _ (by omega)).trans F2.out.2.1, (f3a _ (by omega)).trans F2.out.2.2, f3b⟩
          clear f3a f3b F2 ho2 hb3 hbW2
          go_wp2_with (at_builtin; refine wpList_append_fits _ rfl (.tmp 84) (.tmp 85) 22 rfl W0.heap.size 5 i0 1 Try.underlying22 hi hz1 wk.heap.size (len0 + 2 + len1) N _ rfl (ho3.alloc _) ⟨wL3.heap.size, 0, none⟩ 1 1 [.int .u8 10] rfl rfl (cell_one_new _ _ _) ?c3 ?c4 ?_)
          case c3 => intro u hu; simp at hu; subst hu; rfl
          case c4 => omega
          intro wL4 ho4 hg4
          obtain ⟨f4, f4a, f4b, e4⟩ := push1 f3 (len0 + 2 + len1) 10
          rw [e4] at ho4
          have hbW4 := below_app hbW3 hg4 hkb.size (owns_lt ho3).2
          have F4 : Hid ((∀ i, i < len0 → f4 i = za i) ∧ f4 len0 = 47 ∧ f4 (len0 + 1) = 47 ∧ (∀ i, i < len1 → f4 (len0 + 2 + i) = zc i) ∧ f4 (len0 + 2 + len1) = 10) :=
            ⟨fun i hi => (f4a i (by omega)).trans (F3.out.1 i hi), (f4a _ (by omega)).trans F3.out.2.1, (f4a _ (by omega)).trans F3.out.2.2.1, fun i hi => (f4a _ (by omega)).trans (F3.out.2.2.2 i hi), f4b⟩
          clear f4a f4b e4 F3 ho3 hg4 hbW3
          go_wp2_with fail
          refine (append_abs wk.heap.size (len0 + 2 + len1 + 1) N W0.heap.size f4 _ len2 cap2 zb _ ho4 (by omega) (by omega) (rdb.below hbW4)).mono ?_
          rintro e wL5 ⟨rfl, L, f5a, f5b, ho5, hb5⟩
          have eL : len0 + 2 + len1 + 1 + len2 = N := by omega
          rw [eL] at ho5 ⊢
          have hbW5 := hbW4.trans (hb5.mono hkb.size)
          have FL : Hid ((∀ i, i < len0 → L i = za i) ∧ L len0 = 47 ∧ L (len0 + 1) = 47 ∧ (∀ i, i < len1 → L (len0 + 2 + i) = zc i) ∧ L (len0 + 2 + len1) = 10 ∧ ∀ i, i < len2 → L (len0 + 2 + len1 + 1 + i) = zb i) :=
            ⟨fun i hi => (f5a i (by omega)).trans (F4.out.1 i hi), (f5a _ (by omega)).trans F4.out.2.1, (f5a _ (by omega)).trans F4.out.2.2.1, fun i hi => (f5a _ (by omega)).trans (F4.out.2.2.2.1 i hi), (f5a _ (by omega)).trans F4.out.2.2.2.2, f5b⟩
          clear f5a f5b F4 ho4 hb5 hbW4 eL
          have hgL := owns_lt ho5
          go_wp2_with (at_make; refine wpList_make_own _ rfl _ (.tmp 90) 22 rfl W0.heap.size 5 i0 (.int .u8 0) 1 Try.underlying22 hi hz0 hz1 _ _ _ N rfl rfl (by omega) b2 b3 hbW5.size ?_)
          intro wR0 hoR0 hgR0
          rw [show ([] : List Value) = cellsF (fun _ => 0) 0 from rfl] at hoR0
          have hbR0 := (Below.refl wL5.heap.size wL5).grown hgR0 (Nat.le_refl _) (by simp)
          clear hgR0 b2 b3 hz0 hz2
          go_wp2_with fail
          refine (append_abs wL5.heap.size 0 N W0.heap.size (fun _ => 0) _ len0 cap0 za _ hoR0 (by omega) (by omega) (rda.below (hbW5.trans (hbR0.mono hbW5.size)))).mono ?_
          rintro e wR1 ⟨rfl, r1, _, r1b, oR1, hb1⟩
          simp only [Nat.zero_add] at r1b
          rw [Nat.zero_add] at oR1 ⊢
          have hbR1 := hbR0.trans hb1
          have G1 : Hid (∀ i, i < len0 → r1 i = za i) := r1b
          clear r1b hb1 hoR0 hbR0
          go_wp2_with fail
          go_loopg [12, 13] (len1 + 2) (fun gk v i wq => ∃ (j : Nat) (r : Nat → Int), j ≤ len1 + 2 ∧ len1 + 2 - j ≤ gk ∧ i = .int .i64 j ∧ v = .slice (some ⟨wL5.heap.size, 0, none⟩) (len0 + j) N ∧ wq.ownsRow W0.heap.size 5 1 (.slice (some ⟨wL5.heap.size, 0, none⟩) (len0 + j) N) (len0 + j) (cellsF r (len0 + j)) ∧ Below wL5.heap.size wL5 wq ∧ (∀ i, i < len0 → r i = za i) ∧ ∀ i, i < j → r (len0 + i) = 32)
          case atStart => exact ⟨0, r1, by omega, by omega, rfl, rfl, oR1, hbR1, G1.out, fun i hi => by omega⟩
          case round =>
            clear oR1 hbR1 G1
            obtain ⟨j, r, hj, hgj, rfl, rfl, oR, hbR, ra, rb⟩ := hrel
            have G : Hid ((∀ i, i < len0 → r i = za i) ∧ ∀ i, i < j → r (len0 + i) = 32) := ⟨ra, rb⟩
            clear ra rb
            by_cases hjl : j < len1 + 2
            · go_wp2_with (at_builtin; refine wpList_append_fits _ rfl (.tmp 102) (.tmp 103) 22 rfl W0.heap.size 5 i0 1 Try.underlying22 hi hz1 wL5.heap.size (len0 + j) N _ rfl (oR.alloc _) ⟨wr.heap.size, 0, none⟩ 1 1 [.int .u8 32] rfl rfl (cell_one_new _ _ _) ?c5 ?c6 ?_)
              case c5 => intro u hu; simp at hu; subst hu; rfl
              case c6 => omega
              intro wq oR' hgq
              obtain ⟨r', r'a, r'b, e'⟩ := push1 r (len0 + j) 32
              rw [e'] at oR'
              have hbR' := below_app hbR hgq (Nat.le_refl _) (owns_lt oR).2
              have G' : Hid ((∀ i, i < len0 → r' i = za i) ∧ ∀ i, i < j + 1 → r' (len0 + i) = 32) :=
                ⟨fun i hi => (r'a i (by omega)).trans (G.out.1 i hi), fun i hi => by
                  rcases Nat.lt_or_ge i j with h | h
                  · exact (r'a _ (by omega)).trans (G.out.2 i h)
                  · rw [show i = j by omega]; exact r'b⟩
              clear r'a r'b e' G oR hbR hgq
              go_wp2_with fail
              go_roundg (len1 + 2 - (j + 1))
              case measure => go_light; omega
              case rel => exact ⟨j + 1, r', by omega, Nat.le_refl _, by go_num, rfl, oR', hbR', G'.out.1, G'.out.2⟩
            · go_wp2_with (at_builtin; refine wpList_append_fits _ rfl (.tmp 105) (.tmp 106) 22 rfl W0.heap.size 5 i0 1 Try.underlying22 hi hz1 wL5.heap.size (len0 + j) N _ rfl (oR.alloc _) ⟨wr.heap.size, 0, none⟩ 1 1 [.int .u8 10] rfl rfl (cell_one_new _ _ _) ?c7 ?c8 ?_)
              case c7 => intro u hu; simp at hu; subst hu; rfl
              case c8 => omega
              intro wq oR' hgq
              obtain ⟨r', r'a, r'b, e'⟩ := push1 r (len0 + j) 10
              rw [e'] at oR'
              have hbR' := below_app hbR hgq (Nat.le_refl _) (owns_lt oR).2
              have G' : Hid ((∀ i, i < len0 → r' i = za i) ∧ (∀ i, i < j → r' (len0 + i) = 32) ∧ r' (len0 + j) = 10) :=
                ⟨fun i hi => (r'a i (by omega)).trans (G.out.1 i hi), fun i hi => (r'a _ (by omega)).trans (G.out.2 i hi), r'b⟩
              clear r'a r'b e' G oR hbR hgq
              go_wp2_with fail
              refine (append_abs wL5.heap.size (len0 + j + 1) N W0.heap.size r' _ len2 cap2 zb _ oR' (by omega) (by omega) (rdb.below (hbW5.trans (hbR'.mono hbW5.size)))).mono ?_
              rintro e wE ⟨rfl, R, fRa, fRb, oE, hbE⟩
              have eR : len0 + j + 1 + len2 = N := by omega
              rw [eR] at oE ⊢
              have hbRE := hbR'.trans hbE
              have GR : Hid ((∀ i, i < len0 → R i = za i) ∧ (∀ i, i < j → R (len0 + i) = 32) ∧ R (len0 + j) = 10 ∧ ∀ i, i < len2 → R (len0 + j + 1 + i) = zb i) :=
                ⟨fun i hi => (fRa i (by omega)).trans (G'.out.1 i hi), fun i hi => (fRa _ (by omega)).trans (G'.out.2.1 i hi), (fRa _ (by omega)).trans G'.out.2.2, fRb⟩
              clear fRa fRb G' oR' hbE hbR' eR
              have hzL : ∀ i, i < N → 0 ≤ L i ∧ L i < 256 := by
                intro i hi
                obtain ⟨q1, q2, q3, q4, q5, q6⟩ := FL.out
                rcases Nat.lt_or_ge i len0 with h | h
                · rw [q1 i h]; exact bya i h
                rcases Nat.lt_or_ge i (len0 + 2) with h2 | h2
                · rcases (show i = len0 ∨ i = len0 + 1 by omega) with e | e
                  · rw [e, q2]; decide
                  · rw [e, q3]; decide
                rcases Nat.lt_or_ge i (len0 + 2 + len1) with h3 | h3
                · obtain ⟨d, rfl⟩ : ∃ d, i = len0 + 2 + d := ⟨i - (len0 + 2), by omega⟩
                  rw [q4 d (by omega)]; exact byc d (by omega)
                rcases Nat.lt_or_ge i (len0 + 2 + len1 + 1) with h4 | h4
                · rw [show i = len0 + 2 + len1 by omega, q5]; decide
                · obtain ⟨d, rfl⟩ : ∃ d, i = len0 + 2 + len1 + 1 + d := ⟨i - (len0 + 2 + len1 + 1), by omega⟩
                  rw [q6 d (by omega)]; exact byb d (by omega)
              have hzR : ∀ i, i < N → 0 ≤ R i ∧ R i < 256 := by
                intro i hi
                obtain ⟨q1, q2, q3, q4⟩ := GR.out
                rcases Nat.lt_or_ge i len0 with h | h
                · rw [q1 i h]; exact bya i h
                rcases Nat.lt_or_ge i (len0 + j) with h2 | h2
                · obtain ⟨d, rfl⟩ : ∃ d, i = len0 + d := ⟨i - len0, by omega⟩
                  rw [q2 d (by omega)]; decide
                rcases Nat.lt_or_ge i (len0 + j + 1) with h4 | h4
                · rw [show i = len0 + j by omega, q3]; decide
                · obtain ⟨d, rfl⟩ : ∃ d, i = len0 + j + 1 + d := ⟨i - (len0 + j + 1), by omega⟩
                  rw [q4 d (by omega)]; exact byb d (by omega)
              have hlaw : ∀ {yL yR : Nat → Int}, Blanked L N yL → Blanked R N yR → ∀ p, p < N → yL p = yR p := by
                intro yL yR h1 h2
                obtain ⟨q1, q2, q3, q4, q5, q6⟩ := FL.out
                obtain ⟨p1, p2, p3, p4⟩ := GR.out
                have ej : j = len1 + 2 := by omega
                refine law_comment (lb := len2) (by omega) HS.out HP.out.2 HP.out.1 q1 q2 q3 q4 p1 (fun i hi => p2 i (by omega)) ?_ (by rw [show len0 + len1 + 2 = len0 + 2 + len1 by omega]; exact q5) h1 h2
                intro k hk1 hk2
                rcases Nat.lt_or_ge k (len0 + j + 1) with h | h
                · rw [show k = len0 + j by omega, p3, show len0 + j = len0 + 2 + len1 by omega, q5]
                · obtain ⟨d, rfl⟩ : ∃ d, k = len0 + j + 1 + d := ⟨k - (len0 + j + 1), by omega⟩
                  rw [p4 d (by omega), show len0 + j + 1 + d = len0 + 2 + len1 + 1 + d by omega, q6 d (by omega)]
              have HZ : Hid ((∀ i, i < N → 0 ≤ L i ∧ L i < 256) ∧ (∀ i, i < N → 0 ≤ R i ∧ R i < 256) ∧ (∀ (yL yR : Nat → Int), Blanked L N yL → Blanked R N yR → ∀ p, p < N → yL p = yR p)) := ⟨hzL, hzR, fun yL yR h1 h2 => hlaw h1 h2⟩
              clear hzL hzR hlaw FL GR HS HP bya byc byb rda rdb rdc
              have oL := owns_below ho5 hbRE hgL.2
              have hbZ := hbW5.trans (hbRE.mono hbW5.size)
              clear ho5 hbRE hbW5 hi hz1
              go_wp2_with fail
              refine (zzblank_some _ N N L _ (by omega) HZ.out.1 (owns_rd oL)).mono ?_
              rintro e wB1 ⟨gl, capl, yl, rfl, hol, hyl, hbB1⟩
              have rdR := ((owns_rd oE).below hbB1).mono hbB1.size
              have hbY := hbZ.trans (hbB1.mono hbZ.size)
              clear oL oE hbZ hbB1
              go_wp2_with fail
              refine (zzblank_some _ N N R _ (by omega) HZ.out.2.1 rdR).mono ?_
              rintro e wB2 ⟨gr, capr, yr, rfl, hor, hyr, hbB2⟩
              have rdl := ((owns_rd hol).below hbB2).mono hbB2.size
              have rdr := owns_rd hor
              have hbX := hbY.trans (hbB2.mono hbY.size)
              have hsame := HZ.out.2.2 yl yr hyl hyr
              clear hol hor hyl hyr hbY hbB2 HZ rdR
              go_wp2_with (go_at_call 10; refine (same_any _ _ N capl capr _ yl yr _ (by omega) rdl rdr hsame).mono ?_; rintro e wS ⟨rfl, kS, rfl⟩)
              go_ret
              exact ⟨rfl, below_drewN hbX _⟩
        · have t1 : (st za len0 len0 == 0) = false := by simpa using hst
          have t2 : (st za len0 len0 != 0) = true := by simpa using hst
          clear hst
          go_wp2_with fail
          go_ret
          exact ⟨rfl, hkb⟩

/-! ### THE ROW's STEP: WRITTEN OUT: LEAVE IT -/
set_option maxRecDepth 100000 in
theorem lifted (os : Os) (started : os.Started) (H : Type) (enc : TypeId × Value → H) :
    ReturnsInHanded {} Try.checked os 4 .any (Rows.fnBlankCommentActsAsSpacesSpec.pre6 enc Try.prog Try.f4 Rows.fnBlankCommentActsAsSpacesRow.domain false) (Rows.fnBlankCommentActsAsSpacesSpec.post enc Try.prog Try.f4 false true false false) := by
  refine returnsInHanded_of_change (C := Try.checked) own started (by kernel_rfl) Try.func4
    (ChangeSpec.witness6 (enc := enc) (C := Try.checked) false ⟨#[], #[.slice none 0 0, .slice none 0 0, .slice none 0 0], []⟩ 8 (by kernel_rfl) (by kernel_rfl) (by kernel_rfl) (by kernel_rfl)) ?_
  intro W base args ds gs before hval0 hW hcnd _
  have hval : ∀ (j : Nat) t v, Try.f4.params[j]? = some t → args[j]? = some v → Value.okWide Try.prog W .any base t v := hval0
  have hW' := hW
  obtain ⟨p, q, hA0, hV, rfl, hfz, hnd⟩ := hW
  have hA : DataW.TrodAll enc Try.prog W 0 (fun _ => true) true Try.f4.params.toList args.toList ds p := hA0
  rw [Try.params4] at hA hval
  obtain ⟨v0, vs0, d0, ds0, p0, q0, hargs, rfl, rfl, h0, r0⟩ := trodAll_cons hA
  obtain ⟨v1, vs1, d1, ds1, p1, q1, rfl, rfl, rfl, h1, r1⟩ := trodAll_cons r0
  obtain ⟨v2, vs2, d2, ds2, p2, q2, rfl, rfl, rfl, h2, r2⟩ := trodAll_cons r1
  obtain ⟨rfl, rfl, rfl⟩ := trodAll_nil r2
  obtain rfl : args = #[v0, v1, v2] := by cases args; simp_all
  obtain ⟨rfl, rfl⟩ := trodVars_none hV
  obtain ⟨a0, len0, cap0, rfl⟩ := okWide_slice Try.underlying22 (hval 0 22 v0 rfl rfl)
  have k0 := h0
  have lt0 : ∀ x ∈ p0, x.block < W.heap.size := by obtain ⟨m, hm⟩ := k0; exact DataW.trod_lt m _ _ _ hm
  obtain ⟨z0, w0⟩ : ∃ zs, IsRow .u8 W a0 len0 cap0 zs := by
    obtain ⟨fuel, hf⟩ := h0
    rcases open_ints Try.underlying22 Try.underlying5 (by kernel_rfl) hf with ⟨hcs, _⟩ | ⟨x, l, c, zs, hcs, _, hl, hm, hz, _, hcell, hwz⟩
    · simp [Value.cells] at hcs
      obtain ⟨rfl, rfl, rfl⟩ := hcs
      exact ⟨[], .inl ⟨rfl, rfl, rfl, rfl⟩⟩
    · simp [Value.cells] at hcs
      obtain ⟨rfl, rfl, rfl⟩ := hcs
      exact ⟨zs, .inr ⟨_, rfl, hl, hm, by simpa using hz, hcell, hwz⟩⟩
  obtain ⟨a1, len1, cap1, rfl⟩ := okWide_slice Try.underlying22 (hval 1 22 v1 rfl rfl)
  have k1 := h1
  have lt1 : ∀ x ∈ p1, x.block < W.heap.size := by obtain ⟨m, hm⟩ := k1; exact DataW.trod_lt m _ _ _ hm
  obtain ⟨z1, w1⟩ : ∃ zs, IsRow .u8 W a1 len1 cap1 zs := by
    obtain ⟨fuel, hf⟩ := h1
    rcases open_ints Try.underlying22 Try.underlying5 (by kernel_rfl) hf with ⟨hcs, _⟩ | ⟨x, l, c, zs, hcs, _, hl, hm, hz, _, hcell, hwz⟩
    · simp [Value.cells] at hcs
      obtain ⟨rfl, rfl, rfl⟩ := hcs
      exact ⟨[], .inl ⟨rfl, rfl, rfl, rfl⟩⟩
    · simp [Value.cells] at hcs
      obtain ⟨rfl, rfl, rfl⟩ := hcs
      exact ⟨zs, .inr ⟨_, rfl, hl, hm, by simpa using hz, hcell, hwz⟩⟩
  obtain ⟨a2, len2, cap2, rfl⟩ := okWide_slice Try.underlying22 (hval 2 22 v2 rfl rfl)
  have k2 := h2
  have lt2 : ∀ x ∈ p2, x.block < W.heap.size := by obtain ⟨m, hm⟩ := k2; exact DataW.trod_lt m _ _ _ hm
  obtain ⟨z2, w2⟩ : ∃ zs, IsRow .u8 W a2 len2 cap2 zs := by
    obtain ⟨fuel, hf⟩ := h2
    rcases open_ints Try.underlying22 Try.underlying5 (by kernel_rfl) hf with ⟨hcs, _⟩ | ⟨x, l, c, zs, hcs, _, hl, hm, hz, _, hcell, hwz⟩
    · simp [Value.cells] at hcs
      obtain ⟨rfl, rfl, rfl⟩ := hcs
      exact ⟨[], .inl ⟨rfl, rfl, rfl, rfl⟩⟩
    · simp [Value.cells] at hcs
      obtain ⟨rfl, rfl, rfl⟩ := hcs
      exact ⟨zs, .inr ⟨_, rfl, hl, hm, by simpa using hz, hcell, hwz⟩⟩
  clear hA0 hval0
  refine (walk a0 len0 cap0 z0 a1 len1 cap1 z1 a2 len2 cap2 z2 W w0 w1 w2).mono fun e W' ⟨he, bel⟩ => ?_
  subst he
  exact ⟨_, rfl, _, _, _, [], _, [], hW', trodAll_mk1 (shut_bool Try.underlying4 _), (trodAll_cons_mk (Below.trod laidOut (by kernel_rfl) (of_decide_eq_true (by kernel_rfl)) k0 bel lt0) (trodAll_cons_mk (Below.trod laidOut (by kernel_rfl) (of_decide_eq_true (by kernel_rfl)) k1 bel lt1) (trodAll_cons_mk (Below.trod laidOut (by kernel_rfl) (of_decide_eq_true (by kernel_rfl)) k2 bel lt2) trodAll_mk0))), rfl, bel.frame _, fun h => by cases h⟩

theorem over : Rows.fnBlankCommentActsAsSpacesRow.holds Try.pinned (OpenSpec.ofChange Rows.fnBlankCommentActsAsSpacesSpec) :=
  OpenClaim.holds_of_wide 4 Try.f4 rfl rfl rfl rfl rfl rfl rfl ⟨rfl, rfl, rfl, rfl, rfl⟩ rfl rfl rfl rfl rfl (by kernel_rfl) Try.func4 (by kernel_rfl)
    (of_decide_eq_true (by kernel_rfl)) (by unfold Func.isWrapper; first | (rw [if_pos (by decide +kernel)]; kernel_rfl) | (rw [if_neg (by decide +kernel)]; exact ⟨rfl, rfl⟩))
    (fun os started H enc _ => lifted os started H enc)

/-- ████ THE STATEMENT ████ -/
theorem proved : Rows.FnBlankCommentActsAsSpacesSaid := over
end Go.Proofs.Qxb6617893a.fnBlankCommentActsAsSpaces

namespace Go.Proofs.Qxb6617893a
theorem fnBlankCommentActsAsSpaces_proved : Rows.FnBlankCommentActsAsSpacesSaid := fnBlankCommentActsAsSpaces.proved
end Go.Proofs.Qxb6617893a
