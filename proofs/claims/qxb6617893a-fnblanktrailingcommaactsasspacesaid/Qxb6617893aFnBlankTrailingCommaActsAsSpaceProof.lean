/-
  The proof of the given statement (the frame after the guide's shell; the walk and the plain law by the prover).
-/
import Derived.Test.Qxb6617893aRows
import Derived.Test.Qxb6617893aBlank
import Derived.Test.Qxb6617893aBuild
import Derived.Test.Qxb6617893aPlain3
import Derived.WalkSmall
import Derived.WalkKit
import Derived.ProofKit
import Derived.OpenShut
import Derived.ShutString
import Derived.ChangeOld
import Derived.Below
namespace Go.Proofs.Qxb6617893a.fnBlankTrailingCommaActsAsSpace
open Go.ChangeShapes Go.WideShapes Go.ChangeAt Go.RowKit
open Go.ChangeMaps (open_string shut_string)
set_option linter.unusedVariables false

theorem own : ownKnob Try.prog.godebug = none := by kernel_rfl
theorem laidOut : laidOutB Try.prog = true := by kernel_rfl

/-- WHAT THE WALK IS TOLD OF A SLICE OF INTEGERS THAT CAME IN: it is nil; or it leads to a row of 'cap' cells, the numbers 'zs' (the first 'len' are its elements, the rest its spare room), each fitting its kind. -/
def IsRow (k : IntKind) (w : World) (a : Option Addr) (len cap : Nat) (zs : List Int) : Prop :=
  (a = none ∧ len = 0 ∧ cap = 0 ∧ zs = []) ∨
  ∃ x, a = some x ∧ len ≤ cap ∧ cap ≤ maxLen ∧ zs.length = cap ∧ (∀ i, i < zs.length → w.cell? (x.add i) = some (.int k (zs.getD i 0))) ∧ ∀ n ∈ zs, (Lit.int k n).wf = true

open Plain

theorem row_rd {w : World} {a : Option Addr} {len cap : Nat} {zs : List Int} (h : IsRow .u8 w a len cap zs) :
    Rd w w.heap.size a len (fun i => zs.getD i 0) ∧ len ≤ maxLen ∧ ∀ i, i < len → 0 ≤ zs.getD i 0 ∧ zs.getD i 0 < 256 := by
  rcases h with ⟨rfl, rfl, rfl, rfl⟩ | ⟨x, rfl, h1, h2, h3, h4, h5⟩
  · exact ⟨fun i hi => by omega, by omega, fun i hi => by omega⟩
  · refine ⟨fun i hi => ?_, by omega, fun i hi => ?_⟩
    · have hc := h4 i (by omega)
      obtain ⟨b, off, s⟩ := x
      obtain rfl : s = none := by simpa [Addr.add] using World.cell?_spot (h4 0 (by omega))
      rw [add_plain] at hc
      exact ⟨b, off, rfl, World.block_lt_of_cell? w ⟨b, off + i, none⟩ hc, hc⟩
    · have hm : zs.getD i 0 ∈ zs := by
        rw [List.getD_eq_getElem?_getD, List.getElem?_eq_getElem (show i < zs.length by omega)]
        exact List.getElem_mem _
      have := bounds_u8 (h5 _ hm)
      omega

theorem row_ex {w : World} {a : Option Addr} {len cap : Nat} {zs : List Int} (h : IsRow .u8 w a len cap zs) :
    ∃ z : Nat → Int, Rd w w.heap.size a len z ∧ len ≤ maxLen ∧ ∀ i, i < len → 0 ≤ z i ∧ z i < 256 := ⟨_, row_rd h⟩


/-- The loop backwards over the kinds of a. -/
def RRel (z : Nat → Int) (n p gk : Nat) (i : Value) : Prop :=
  ∃ m : Nat, m ≤ p ∧ m ≤ gk ∧ ((m = 0 ∧ i = .int .i64 (-1)) ∨ ∃ m' : Nat, m = m' + 1 ∧ i = .int .i64 (m' : Int)) ∧ ∀ j, m ≤ j → j < p → kind z n j ≠ 0
theorem rrel_mk {z : Nat → Int} {n p m : Nat} (hm : m ≤ p) (h : ∀ j, m ≤ j → j < p → kind z n j ≠ 0) : RRel z n p m (.int .i64 ((m : Int) - 1)) := by
  refine ⟨m, hm, Nat.le_refl _, ?_, h⟩
  match m with
  | 0 => exact .inl ⟨rfl, rfl⟩
  | m' + 1 => exact .inr ⟨m', rfl, by congr 1; omega⟩

set_option maxRecDepth 8000 in
set_option maxHeartbeats 4000000 in
theorem walk_false (a0 : Option Addr) (len0 cap0 : Nat) (z0 : List Int) (a1 : Option Addr) (len1 cap1 : Nat) (z1 : List Int) (a3 : Option Addr) (len3 cap3 : Nat) (z3 : List Int) (w : World) (w0 : IsRow .u8 w a0 len0 cap0 z0) (w1 : IsRow .u8 w a1 len1 cap1 z1) (w3 : IsRow .u8 w a3 len3 cap3 z3) :
    Calls Try.prog 5 #[.slice a0 len0 cap0, .slice a1 len1 cap1, .bool false, .slice a3 len3 cap3] w fun e w' => e = .returned (.bool true) ∧ Below w.heap.size w w' := by
  obtain ⟨za, rda, ml0, bya⟩ := row_ex w0
  obtain ⟨zc, rdc, ml1, byc⟩ := row_ex w1
  obtain ⟨zb, rdb, ml2, byb⟩ := row_ex w3
  clear w0 w1 w3
  obtain ⟨i0, hi, hz0, hz1, hz2⟩ := info_parts info5
  go_enter Try.func5, Try.ntmps5
  go_wp2_with fail
  refine (bytes14_any a0 a1 a3 len0 cap0 len1 cap1 len3 cap3 false w ml0 ml1 ml2).mono ?_
  rintro e w' ⟨⟨r, rfl, hr⟩, rfl⟩
  unfold maxLen at ml0 ml1 ml2
  cases r
  · clear hr
    go_wp2_with fail
    go_ret
    exact ⟨rfl, Below.refl _ _⟩
  clear hr
  by_cases s0 : 262144 < len0
  · have d0 : (262144 : Int) < (len0 : Int) := by omega
    go_wp2_with fail
    go_ret
    exact ⟨rfl, Below.refl _ _⟩
  have d0 : decide ((262144 : Int) < (len0 : Int)) = false := decide_eq_false (by omega)
  by_cases s1 : 262144 < len1
  · have d1 : (262144 : Int) < (len1 : Int) := by omega
    go_wp2_with fail
    go_ret
    exact ⟨rfl, Below.refl _ _⟩
  have d1 : decide ((262144 : Int) < (len1 : Int)) = false := decide_eq_false (by omega)
  by_cases s2 : 262144 < len3
  · have d2 : (262144 : Int) < (len3 : Int) := by omega
    go_wp2_with fail
    go_ret
    exact ⟨rfl, Below.refl _ _⟩
  have d2 : decide ((262144 : Int) < (len3 : Int)) = false := decide_eq_false (by omega)
  go_wp2_with fail
  clear d0 d1 d2
  go_loopg [9] len1 (fun gk i wr => ∃ k : Nat, k ≤ len1 ∧ len1 - k ≤ gk ∧ i = .int .i64 k ∧ (∀ j, j < k → isSp (zc j) = true) ∧ wr = w')
  case atStart => exact ⟨0, by omega, by omega, rfl, fun j hj => by omega, rfl⟩
  case round =>
    obtain ⟨k, hk, hgk, rfl, hno, rfl⟩ := hrel
    obtain ⟨W0, rfl⟩ : ∃ W0, W0 = wr := ⟨_, rfl⟩
    by_cases hlt : k < len1
    · obtain ⟨b, off, rfl, hB, hc⟩ := rdc k hlt
      by_cases hsp : isSp (zc k) = true
      · have HR : Hid (∃ k' : Nat, k' ≤ len1 ∧ len1 - k' ≤ len1 - (k + 1) ∧ Value.int .i64 ((k : Int) + 1) = .int .i64 k' ∧ (∀ j, j < k' → isSp (zc j) = true)) :=
          ⟨k + 1, by omega, Nat.le_refl _, by go_num, fun j hj => by
            rcases Nat.lt_or_ge j k with h | h
            · exact hno j h
            · obtain rfl : j = k := by omega
              exact hsp⟩
        clear hno
        go_wp2_with fail
        refine (isSpace_any _ _).mono ?_
        rintro e wS ⟨rfl, rfl⟩
        rw [hsp]
        clear hsp
        go_wp2_with fail
        go_roundg (len1 - (k + 1))
        case measure => go_light; omega
        case rel => obtain ⟨k', p1, p2, p3, p4⟩ := HR.out; exact ⟨k', p1, p2, p3, p4, rfl⟩
      · have hsp' : isSp (zc k) = false := by simpa using hsp
        clear hno hsp
        go_wp2_with fail
        refine (isSpace_any _ _).mono ?_
        rintro e wS ⟨rfl, rfl⟩
        rw [hsp']
        clear hsp'
        go_wp2_with fail
        go_ret
        exact ⟨rfl, Below.refl _ _⟩
    · have hno' : ∀ j, j < len1 → isSp (zc j) = true := fun j hj => hno j (by omega)
      have HP : Hid (∀ j, j < len1 → isSp (zc j) = true) := hno'
      clear hno hno'
      go_wp2_with fail
      refine (kinds_any _ len0 cap0 za _ (by omega) rda).mono ?_
      rintro e wk ⟨rfl, hko, hkb⟩
      have hrk : Rd wk wk.heap.size (some ⟨W0.heap.size, 0, none⟩) len0 (kind za len0) := owns_rd hko
      have hrt : Rd wk wk.heap.size a0 len0 za := (rda.below hkb).mono hkb.size
      clear hko
      by_cases hst : st za len0 len0 = 0
      · rw [hst]
        have HS : Hid (st za len0 len0 = 0) := hst
        clear hst
        go_wp2_with fail
        go_loopg [12] len0 (fun gk i wq => RRel za len0 len0 gk i ∧ wq = wk)
        case atStart => exact ⟨rrel_mk (Nat.le_refl _) (fun j h1 h2 => by omega), rfl⟩
        case round =>
          obtain ⟨⟨m, hm, hgm, hcase, hnn⟩, rfl⟩ := hrel
          obtain ⟨wk, rfl⟩ : ∃ wk, wk = wr := ⟨_, rfl⟩
          by_cases hgo : ∃ m', m = m' + 1 ∧ kind za len0 m' ≠ 0
          · obtain ⟨m', rfl, hm0⟩ := hgo
            rcases hcase with ⟨e, _⟩ | ⟨m'', e, rfl⟩
            · omega
            obtain rfl : m'' = m' := by omega
            have hcm := (hrk.at m'' (by omega)).2
            rw [Nat.zero_add] at hcm
            have hmi : (m'' : Int) < (len0 : Int) := by omega
            have HR : Hid (RRel za len0 len0 m'' (.int .i64 ((m'' : Int) - 1))) := rrel_mk (by omega) (fun j h1 h2 => by
              rcases Nat.lt_or_ge m'' j with hj | hj
              · exact hnn j hj h2
              · obtain rfl : j = m'' := by omega
                exact hm0)
            have m1 : (kind za len0 m'' == 0) = false := by simpa using hm0
            have m2 : (kind za len0 m'' != 0) = true := by simpa using hm0
            clear hnn hm0 e
            go_wp2_with fail
            go_roundg m''
            case measure => go_light; omega
            case rel => exact ⟨HR.out, rfl⟩
          by_cases hret : ∃ m', m = m' + 1 ∧ (za m' = 91 ∨ za m' = 123 ∨ za m' = 44)
          · obtain ⟨m', rfl, hv⟩ := hret
            have hm0 : kind za len0 m' = 0 := by
              by_cases e : kind za len0 m' = 0
              · exact e
              · exact absurd ⟨m', rfl, e⟩ hgo
            rcases hcase with ⟨e, _⟩ | ⟨m'', e, rfl⟩
            · omega
            obtain rfl : m'' = m' := by omega
            have hcm := (hrk.at m'' (by omega)).2
            rw [Nat.zero_add, hm0] at hcm
            have hmi : (m'' : Int) < (len0 : Int) := by omega
            obtain ⟨b, off, rfl, hB, hct⟩ := hrt m'' (by omega)
            clear hnn hm0 e hgo
            rcases hv with hv | hv | hv
            all_goals
              rw [hv] at hct
              clear hv
              go_wp2_with fail
              go_ret
              exact ⟨rfl, hkb⟩
          have HL : Hid ((∃ r, r < len0 ∧ kind za len0 r = 0 ∧ (∀ j, r + 1 ≤ j → j < len0 → kind za len0 j ≠ 0) ∧ za r ≠ 91 ∧ za r ≠ 123 ∧ za r ≠ 44) ∨ (∀ j, 0 ≤ j → j < len0 → kind za len0 j ≠ 0)) := by
            match m, hm, hgo, hret, hnn with
            | 0, _, _, _, hnn => exact .inr hnn
            | m' + 1, hm, hgo, hret, hnn =>
              refine .inl ⟨m', by omega, ?_, hnn, fun e => hret ⟨m', rfl, .inl e⟩, fun e => hret ⟨m', rfl, .inr (.inl e)⟩, fun e => hret ⟨m', rfl, .inr (.inr e)⟩⟩
              by_cases e : kind za len0 m' = 0
              · exact e
              · exact absurd ⟨m', rfl, e⟩ hgo
          obtain ⟨N, hN⟩ : ∃ N, N = len0 + len1 + len3 + 2 := ⟨_, rfl⟩
          have hN1 : N ≤ len0 + len1 + len3 + 2 := by omega
          have hN2 : len0 + len1 + len3 + 2 ≤ N := by omega
          clear hN
          have b2 : i0.bytes * N ≤ 281474976710656 := by rw [hz2]; omega
          have b3 : N ≤ maxLen := by unfold maxLen; omega
          rcases hcase with ⟨rfl, rfl⟩ | ⟨m', rfl, rfl⟩
          all_goals first
            | (have hm0 : kind za len0 m' = 0 := by
                 by_cases e : kind za len0 m' = 0
                 · exact e
                 · exact absurd ⟨m', rfl, e⟩ hgo
               have hcm := (hrk.at m' (by omega)).2
               rw [Nat.zero_add, hm0] at hcm
               have hmi : (m' : Int) < (len0 : Int) := by omega
               obtain ⟨b, off, rfl, hB, hct⟩ := hrt m' (by omega)
               have o1 : (za m' == 91) = false := by simpa using fun e => hret ⟨m', rfl, .inl e⟩
               have o2 : (za m' == 123) = false := by simpa using fun e => hret ⟨m', rfl, .inr (.inl e)⟩
               have o3 : (za m' == 44) = false := by simpa using fun e => hret ⟨m', rfl, .inr (.inr e)⟩
               clear hgo hret hnn hm0
               go_wp2_with (at_make; refine wpList_make_own _ rfl _ (.tmp 104) 22 rfl W0.heap.size 5 i0 (.int .u8 0) 1 Try.underlying22 hi hz0 hz1 _ _ _ N rfl rfl (by omega) b2 b3 hkb.size ?_)
               clear o1 o2 o3 hcm hct hmi hB)
            | (clear hgo hret hnn
               go_wp2_with (at_make; refine wpList_make_own _ rfl _ (.tmp 104) 22 rfl W0.heap.size 5 i0 (.int .u8 0) 1 Try.underlying22 hi hz0 hz1 _ _ _ N rfl rfl (by omega) b2 b3 hkb.size ?_))
          all_goals
            clear hrk hrt
            intro wL0 hoL0 hgL0
            have hbL0 := hkb.grown hgL0 hkb.size (by simp)
            rw [show ([] : List Value) = cellsF (fun _ => 0) 0 from rfl] at hoL0
            go_wp2_with fail
            refine (append_abs wk.heap.size 0 N W0.heap.size (fun _ => 0) _ len0 cap0 za _ hoL0 (by omega) (by omega) (rda.below hbL0)).mono ?_
            rintro e wL1 ⟨rfl, f1, _, f1b, ho1, hb1⟩
            simp only [Nat.zero_add] at f1b
            rw [Nat.zero_add] at ho1 ⊢
            have hbW1 := hbL0.trans (hb1.mono hkb.size)
            have F1 : Hid (∀ i, i < len0 → f1 i = za i) := f1b
            clear f1b hb1 hoL0 hgL0 hbL0
            go_wp2_with (at_builtin; refine wpList_append_fits _ rfl (.tmp 109) (.tmp 110) 22 rfl W0.heap.size 5 i0 1 Try.underlying22 hi hz1 wk.heap.size len0 N _ rfl (ho1.alloc _) ⟨wL1.heap.size, 0, none⟩ 1 1 [.int .u8 44] rfl rfl (cell_one_new _ _ _) ?c1 ?c2 ?_)
            case c1 => intro u hu; simp at hu; subst hu; rfl
            case c2 => omega
            intro wL2 ho2 hg2
            obtain ⟨f2, f2a, f2b, e2⟩ := push1 f1 len0 44
            rw [e2] at ho2
            have hbW2 := below_app hbW1 hg2 hkb.size (owns_lt ho1).2
            have F2 : Hid ((∀ i, i < len0 → f2 i = za i) ∧ f2 len0 = 44) := ⟨fun i hi => (f2a i hi).trans (F1.out i hi), f2b⟩
            clear f2a f2b e2 F1 ho1 hg2 hbW1
            go_wp2_with fail
            refine (append_abs wk.heap.size (len0 + 1) N W0.heap.size f2 _ len1 cap1 zc _ ho2 (by omega) (by omega) (rdc.below hbW2)).mono ?_
            rintro e wL3 ⟨rfl, f3, f3a, f3b, ho3, hb3⟩
            have hbW3 := hbW2.trans (hb3.mono hkb.size)
            have F3 : Hid ((∀ i, i < len0 → f3 i = za i) ∧ f3 len0 = 44 ∧ ∀ i, i < len1 → f3 (len0 + 1 + i) = zc i) :=
              ⟨fun i hi => (f3a i (by omega)).trans (F2.out.1 i hi), (f3a _ (by omega)).trans F2.out.2, f3b⟩
            clear f3a f3b F2 ho2 hb3 hbW2
            go_wp2_with (at_builtin; refine wpList_append_fits _ rfl (.tmp 115) (.tmp 117) 22 rfl W0.heap.size 5 i0 1 Try.underlying22 hi hz1 wk.heap.size (len0 + 1 + len1) N _ rfl (ho3.alloc _) ⟨wL3.heap.size, 0, none⟩ 1 1 [.int .u8 93] rfl rfl (cell_one_new _ _ _) ?c3 ?c4 ?_)
            case c3 => intro u hu; simp at hu; subst hu; rfl
            case c4 => omega
            intro wL4 ho4 hg4
            obtain ⟨f4, f4a, f4b, e4⟩ := push1 f3 (len0 + 1 + len1) 93
            rw [e4] at ho4
            have hbW4 := below_app hbW3 hg4 hkb.size (owns_lt ho3).2
            have F4 : Hid ((∀ i, i < len0 → f4 i = za i) ∧ f4 len0 = 44 ∧ (∀ i, i < len1 → f4 (len0 + 1 + i) = zc i) ∧ f4 (len0 + 1 + len1) = 93) :=
              ⟨fun i hi => (f4a i (by omega)).trans (F3.out.1 i hi), (f4a _ (by omega)).trans F3.out.2.1, fun i hi => (f4a _ (by omega)).trans (F3.out.2.2 i hi), f4b⟩
            clear f4a f4b e4 F3 ho3 hg4 hbW3
            go_wp2_with fail
            refine (append_abs wk.heap.size (len0 + 1 + len1 + 1) N W0.heap.size f4 _ len3 cap3 zb _ ho4 (by omega) (by omega) (rdb.below hbW4)).mono ?_
            rintro e wL5 ⟨rfl, L, f5a, f5b, ho5, hb5⟩
            have eL : len0 + 1 + len1 + 1 + len3 = N := by omega
            rw [eL] at ho5 ⊢
            have hbW5 := hbW4.trans (hb5.mono hkb.size)
            have FL : Hid ((∀ i, i < len0 → L i = za i) ∧ L len0 = 44 ∧ (∀ i, i < len1 → L (len0 + 1 + i) = zc i) ∧ L (len0 + 1 + len1) = 93 ∧ ∀ i, i < len3 → L (len0 + 1 + len1 + 1 + i) = zb i) :=
              ⟨fun i hi => (f5a i (by omega)).trans (F4.out.1 i hi), (f5a _ (by omega)).trans F4.out.2.1, fun i hi => (f5a _ (by omega)).trans (F4.out.2.2.1 i hi), (f5a _ (by omega)).trans F4.out.2.2.2, f5b⟩
            clear f5a f5b F4 ho4 hb5 hbW4 eL
            have hgL := owns_lt ho5
            go_wp2_with (at_make; refine wpList_make_own _ rfl _ (.tmp 122) 22 rfl W0.heap.size 5 i0 (.int .u8 0) 1 Try.underlying22 hi hz0 hz1 _ _ _ N rfl rfl (by omega) b2 b3 hbW5.size ?_)
            intro wR0 hoR0 hgR0
            rw [show ([] : List Value) = cellsF (fun _ => 0) 0 from rfl] at hoR0
            have hbR0 := (Below.refl wL5.heap.size wL5).grown hgR0 (Nat.le_refl _) (by simp)
            clear hgR0 b2 b3 hz0 hz2
            go_wp2_with fail
            refine (append_abs wL5.heap.size 0 N W0.heap.size (fun _ => 0) _ len0 cap0 za _ hoR0 (by omega) (by omega) (rda.below (hbW5.trans (hbR0.mono hbW5.size)))).mono ?_
            rintro e wR1 ⟨rfl, r1, _, r1b, oR1, hb1⟩
            simp only [Nat.zero_add] at r1b
            rw [Nat.zero_add] at oR1 ⊢
            have hbR1 := hbR0.trans hb1
            have G1 : Hid (∀ i, i < len0 → r1 i = za i) := r1b
            clear r1b hb1 hoR0 hbR0
            go_wp2_with (at_builtin; refine wpList_append_fits _ rfl (.tmp 127) (.tmp 128) 22 rfl W0.heap.size 5 i0 1 Try.underlying22 hi hz1 wL5.heap.size len0 N _ rfl (oR1.alloc _) ⟨wR1.heap.size, 0, none⟩ 1 1 [.int .u8 32] rfl rfl (cell_one_new _ _ _) ?c5 ?c6 ?_)
            case c5 => intro u hu; simp at hu; subst hu; rfl
            case c6 => omega
            intro wR2 oR2 hg2
            obtain ⟨r2, r2a, r2b, e2⟩ := push1 r1 len0 32
            rw [e2] at oR2
            have hbR2 := below_app hbR1 hg2 (Nat.le_refl _) (owns_lt oR1).2
            have G2 : Hid ((∀ i, i < len0 → r2 i = za i) ∧ r2 len0 = 32) := ⟨fun i hi => (r2a i hi).trans (G1.out i hi), r2b⟩
            clear r2a r2b e2 G1 oR1 hg2 hbR1
            go_wp2_with fail
            refine (append_abs wL5.heap.size (len0 + 1) N W0.heap.size r2 _ len1 cap1 zc _ oR2 (by omega) (by omega) (rdc.below (hbW5.trans (hbR2.mono hbW5.size)))).mono ?_
            rintro e wR3 ⟨rfl, r3, r3a, r3b, oR3, hb3⟩
            have hbR3 := hbR2.trans hb3
            have G3 : Hid ((∀ i, i < len0 → r3 i = za i) ∧ r3 len0 = 32 ∧ ∀ i, i < len1 → r3 (len0 + 1 + i) = zc i) :=
              ⟨fun i hi => (r3a i (by omega)).trans (G2.out.1 i hi), (r3a _ (by omega)).trans G2.out.2, r3b⟩
            clear r3a r3b G2 oR2 hb3 hbR2
            go_wp2_with (at_builtin; refine wpList_append_fits _ rfl (.tmp 133) (.tmp 135) 22 rfl W0.heap.size 5 i0 1 Try.underlying22 hi hz1 wL5.heap.size (len0 + 1 + len1) N _ rfl (oR3.alloc _) ⟨wR3.heap.size, 0, none⟩ 1 1 [.int .u8 93] rfl rfl (cell_one_new _ _ _) ?c7 ?c8 ?_)
            case c7 => intro u hu; simp at hu; subst hu; rfl
            case c8 => omega
            intro wR4 oR4 hg4
            obtain ⟨r4, r4a, r4b, e4⟩ := push1 r3 (len0 + 1 + len1) 93
            rw [e4] at oR4
            have hbR4 := below_app hbR3 hg4 (Nat.le_refl _) (owns_lt oR3).2
            have G4 : Hid ((∀ i, i < len0 → r4 i = za i) ∧ r4 len0 = 32 ∧ (∀ i, i < len1 → r4 (len0 + 1 + i) = zc i) ∧ r4 (len0 + 1 + len1) = 93) :=
              ⟨fun i hi => (r4a i (by omega)).trans (G3.out.1 i hi), (r4a _ (by omega)).trans G3.out.2.1, fun i hi => (r4a _ (by omega)).trans (G3.out.2.2 i hi), r4b⟩
            clear r4a r4b e4 G3 oR3 hg4 hbR3
            go_wp2_with fail
            refine (append_abs wL5.heap.size (len0 + 1 + len1 + 1) N W0.heap.size r4 _ len3 cap3 zb _ oR4 (by omega) (by omega) (rdb.below (hbW5.trans (hbR4.mono hbW5.size)))).mono ?_
            rintro e wE ⟨rfl, R, fRa, fRb, oE, hbE⟩
            have eR : len0 + 1 + len1 + 1 + len3 = N := by omega
            rw [eR] at oE ⊢
            have hbRE := hbR4.trans hbE
            have GR : Hid ((∀ i, i < len0 → R i = za i) ∧ R len0 = 32 ∧ (∀ i, i < len1 → R (len0 + 1 + i) = zc i) ∧ R (len0 + 1 + len1) = 93 ∧ ∀ i, i < len3 → R (len0 + 1 + len1 + 1 + i) = zb i) :=
              ⟨fun i hi => (fRa i (by omega)).trans (G4.out.1 i hi), (fRa _ (by omega)).trans G4.out.2.1, fun i hi => (fRa _ (by omega)).trans (G4.out.2.2.1 i hi), (fRa _ (by omega)).trans G4.out.2.2.2, fRb⟩
            clear fRa fRb G4 oR4 hbE hbR4 eR
            have hzz : ∀ (X : Nat → Int) (x : Int), 0 ≤ x ∧ x < 256 → ((∀ i, i < len0 → X i = za i) ∧ X len0 = x ∧ (∀ i, i < len1 → X (len0 + 1 + i) = zc i) ∧ X (len0 + 1 + len1) = 93 ∧ ∀ i, i < len3 → X (len0 + 1 + len1 + 1 + i) = zb i) → ∀ i, i < N → 0 ≤ X i ∧ X i < 256 := by
              intro X x hx ⟨q1, q2, q3, q4, q5⟩ i hi
              rcases Nat.lt_or_ge i len0 with h | h
              · rw [q1 i h]; exact bya i h
              rcases Nat.lt_or_ge i (len0 + 1) with h2 | h2
              · rw [show i = len0 by omega, q2]; exact hx
              rcases Nat.lt_or_ge i (len0 + 1 + len1) with h3 | h3
              · obtain ⟨d, rfl⟩ : ∃ d, i = len0 + 1 + d := ⟨i - (len0 + 1), by omega⟩
                rw [q3 d (by omega)]; exact byc d (by omega)
              rcases Nat.lt_or_ge i (len0 + 1 + len1 + 1) with h4 | h4
              · rw [show i = len0 + 1 + len1 by omega, q4]; decide
              · obtain ⟨d, rfl⟩ : ∃ d, i = len0 + 1 + len1 + 1 + d := ⟨i - (len0 + 1 + len1 + 1), by omega⟩
                rw [q5 d (by omega)]; exact byb d (by omega)
            have hzL := hzz L 44 (by decide) FL.out
            have hzR := hzz R 32 (by decide) GR.out
            have hlaw : ∀ (yL yR : Nat → Int), Blanked L N yL → Blanked R N yR → ∀ p, p < N → yL p = yR p := by
              intro yL yR h1 h2
              obtain ⟨q1, q2, q3, q4, q5⟩ := FL.out
              obtain ⟨p1, p2, p3, p4, p5⟩ := GR.out
              refine law_comma (lb := len3) (cl := 93) (by omega) HS.out HP.out (by decide) HL.out q1 q2 q3 q4 p1 p2 ?_ h1 h2
              intro k hk1 hk2
              rcases Nat.lt_or_ge k (len0 + 1 + len1) with h | h
              · obtain ⟨d, rfl⟩ : ∃ d, k = len0 + 1 + d := ⟨k - (len0 + 1), by omega⟩
                rw [q3 d (by omega), p3 d (by omega)]
              rcases Nat.lt_or_ge k (len0 + 1 + len1 + 1) with h' | h'
              · rw [show k = len0 + 1 + len1 by omega, q4, p4]
              · obtain ⟨d, rfl⟩ : ∃ d, k = len0 + 1 + len1 + 1 + d := ⟨k - (len0 + 1 + len1 + 1), by omega⟩
                rw [q5 d (by omega), p5 d (by omega)]
            have HZ : Hid ((∀ i, i < N → 0 ≤ L i ∧ L i < 256) ∧ (∀ i, i < N → 0 ≤ R i ∧ R i < 256) ∧ (∀ (yL yR : Nat → Int), Blanked L N yL → Blanked R N yR → ∀ p, p < N → yL p = yR p)) := ⟨hzL, hzR, hlaw⟩
            clear hzz hzL hzR hlaw FL GR HS HP HL bya byc byb rda rdb rdc
            have oL := owns_below ho5 hbRE hgL.2
            have hbZ := hbW5.trans (hbRE.mono hbW5.size)
            clear ho5 hbRE hbW5 hi hz1
            go_wp2_with fail
            refine (zzblank_some _ N N L _ (by omega) HZ.out.1 (owns_rd oL)).mono ?_
            rintro e wB1 ⟨gl, capl, yl, rfl, hol, hyl, hbB1⟩
            have rdR := ((owns_rd oE).below hbB1).mono hbB1.size
            have hbY := hbZ.trans (hbB1.mono hbZ.size)
            clear oL oE hbZ hbB1
            go_wp2_with fail
            refine (zzblank_some _ N N R _ (by omega) HZ.out.2.1 rdR).mono ?_
            rintro e wB2 ⟨gr, capr, yr, rfl, hor, hyr, hbB2⟩
            have rdl := ((owns_rd hol).below hbB2).mono hbB2.size
            have rdr := owns_rd hor
            have hbX := hbY.trans (hbB2.mono hbY.size)
            have hsame := HZ.out.2.2 yl yr hyl hyr
            clear hol hor hyl hyr hbY hbB2 HZ rdR
            go_wp2_with (go_at_call 10; refine (same_any _ _ N capl capr _ yl yr _ (by omega) rdl rdr hsame).mono ?_; rintro e wS ⟨rfl, kS, rfl⟩)
            go_ret
            exact ⟨rfl, below_drewN hbX _⟩
      · have t1 : (st za len0 len0 == 0) = false := by simpa using hst
        have t2 : (st za len0 len0 != 0) = true := by simpa using hst
        clear hst
        go_wp2_with fail
        go_ret
        exact ⟨rfl, hkb⟩

set_option maxRecDepth 8000 in
set_option maxHeartbeats 4000000 in
theorem walk_true (a0 : Option Addr) (len0 cap0 : Nat) (z0 : List Int) (a1 : Option Addr) (len1 cap1 : Nat) (z1 : List Int) (a3 : Option Addr) (len3 cap3 : Nat) (z3 : List Int) (w : World) (w0 : IsRow .u8 w a0 len0 cap0 z0) (w1 : IsRow .u8 w a1 len1 cap1 z1) (w3 : IsRow .u8 w a3 len3 cap3 z3) :
    Calls Try.prog 5 #[.slice a0 len0 cap0, .slice a1 len1 cap1, .bool true, .slice a3 len3 cap3] w fun e w' => e = .returned (.bool true) ∧ Below w.heap.size w w' := by
  obtain ⟨za, rda, ml0, bya⟩ := row_ex w0
  obtain ⟨zc, rdc, ml1, byc⟩ := row_ex w1
  obtain ⟨zb, rdb, ml2, byb⟩ := row_ex w3
  clear w0 w1 w3
  obtain ⟨i0, hi, hz0, hz1, hz2⟩ := info_parts info5
  go_enter Try.func5, Try.ntmps5
  go_wp2_with fail
  refine (bytes14_any a0 a1 a3 len0 cap0 len1 cap1 len3 cap3 true w ml0 ml1 ml2).mono ?_
  rintro e w' ⟨⟨r, rfl, hr⟩, rfl⟩
  unfold maxLen at ml0 ml1 ml2
  cases r
  · clear hr
    go_wp2_with fail
    go_ret
    exact ⟨rfl, Below.refl _ _⟩
  clear hr
  by_cases s0 : 262144 < len0
  · have d0 : (262144 : Int) < (len0 : Int) := by omega
    go_wp2_with fail
    go_ret
    exact ⟨rfl, Below.refl _ _⟩
  have d0 : decide ((262144 : Int) < (len0 : Int)) = false := decide_eq_false (by omega)
  by_cases s1 : 262144 < len1
  · have d1 : (262144 : Int) < (len1 : Int) := by omega
    go_wp2_with fail
    go_ret
    exact ⟨rfl, Below.refl _ _⟩
  have d1 : decide ((262144 : Int) < (len1 : Int)) = false := decide_eq_false (by omega)
  by_cases s2 : 262144 < len3
  · have d2 : (262144 : Int) < (len3 : Int) := by omega
    go_wp2_with fail
    go_ret
    exact ⟨rfl, Below.refl _ _⟩
  have d2 : decide ((262144 : Int) < (len3 : Int)) = false := decide_eq_false (by omega)
  go_wp2_with fail
  clear d0 d1 d2
  go_loopg [9] len1 (fun gk i wr => ∃ k : Nat, k ≤ len1 ∧ len1 - k ≤ gk ∧ i = .int .i64 k ∧ (∀ j, j < k → isSp (zc j) = true) ∧ wr = w')
  case atStart => exact ⟨0, by omega, by omega, rfl, fun j hj => by omega, rfl⟩
  case round =>
    obtain ⟨k, hk, hgk, rfl, hno, rfl⟩ := hrel
    obtain ⟨W0, rfl⟩ : ∃ W0, W0 = wr := ⟨_, rfl⟩
    by_cases hlt : k < len1
    · obtain ⟨b, off, rfl, hB, hc⟩ := rdc k hlt
      by_cases hsp : isSp (zc k) = true
      · have HR : Hid (∃ k' : Nat, k' ≤ len1 ∧ len1 - k' ≤ len1 - (k + 1) ∧ Value.int .i64 ((k : Int) + 1) = .int .i64 k' ∧ (∀ j, j < k' → isSp (zc j) = true)) :=
          ⟨k + 1, by omega, Nat.le_refl _, by go_num, fun j hj => by
            rcases Nat.lt_or_ge j k with h | h
            · exact hno j h
            · obtain rfl : j = k := by omega
              exact hsp⟩
        clear hno
        go_wp2_with fail
        refine (isSpace_any _ _).mono ?_
        rintro e wS ⟨rfl, rfl⟩
        rw [hsp]
        clear hsp
        go_wp2_with fail
        go_roundg (len1 - (k + 1))
        case measure => go_light; omega
        case rel => obtain ⟨k', p1, p2, p3, p4⟩ := HR.out; exact ⟨k', p1, p2, p3, p4, rfl⟩
      · have hsp' : isSp (zc k) = false := by simpa using hsp
        clear hno hsp
        go_wp2_with fail
        refine (isSpace_any _ _).mono ?_
        rintro e wS ⟨rfl, rfl⟩
        rw [hsp']
        clear hsp'
        go_wp2_with fail
        go_ret
        exact ⟨rfl, Below.refl _ _⟩
    · have hno' : ∀ j, j < len1 → isSp (zc j) = true := fun j hj => hno j (by omega)
      have HP : Hid (∀ j, j < len1 → isSp (zc j) = true) := hno'
      clear hno hno'
      go_wp2_with fail
      refine (kinds_any _ len0 cap0 za _ (by omega) rda).mono ?_
      rintro e wk ⟨rfl, hko, hkb⟩
      have hrk : Rd wk wk.heap.size (some ⟨W0.heap.size, 0, none⟩) len0 (kind za len0) := owns_rd hko
      have hrt : Rd wk wk.heap.size a0 len0 za := (rda.below hkb).mono hkb.size
      clear hko
      by_cases hst : st za len0 len0 = 0
      · rw [hst]
        have HS : Hid (st za len0 len0 = 0) := hst
        clear hst
        go_wp2_with fail
        go_loopg [12] len0 (fun gk i wq => RRel za len0 len0 gk i ∧ wq = wk)
        case atStart => exact ⟨rrel_mk (Nat.le_refl _) (fun j h1 h2 => by omega), rfl⟩
        case round =>
          obtain ⟨⟨m, hm, hgm, hcase, hnn⟩, rfl⟩ := hrel
          obtain ⟨wk, rfl⟩ : ∃ wk, wk = wr := ⟨_, rfl⟩
          by_cases hgo : ∃ m', m = m' + 1 ∧ kind za len0 m' ≠ 0
          · obtain ⟨m', rfl, hm0⟩ := hgo
            rcases hcase with ⟨e, _⟩ | ⟨m'', e, rfl⟩
            · omega
            obtain rfl : m'' = m' := by omega
            have hcm := (hrk.at m'' (by omega)).2
            rw [Nat.zero_add] at hcm
            have hmi : (m'' : Int) < (len0 : Int) := by omega
            have HR : Hid (RRel za len0 len0 m'' (.int .i64 ((m'' : Int) - 1))) := rrel_mk (by omega) (fun j h1 h2 => by
              rcases Nat.lt_or_ge m'' j with hj | hj
              · exact hnn j hj h2
              · obtain rfl : j = m'' := by omega
                exact hm0)
            have m1 : (kind za len0 m'' == 0) = false := by simpa using hm0
            have m2 : (kind za len0 m'' != 0) = true := by simpa using hm0
            clear hnn hm0 e
            go_wp2_with fail
            go_roundg m''
            case measure => go_light; omega
            case rel => exact ⟨HR.out, rfl⟩
          by_cases hret : ∃ m', m = m' + 1 ∧ (za m' = 91 ∨ za m' = 123 ∨ za m' = 44)
          · obtain ⟨m', rfl, hv⟩ := hret
            have hm0 : kind za len0 m' = 0 := by
              by_cases e : kind za len0 m' = 0
              · exact e
              · exact absurd ⟨m', rfl, e⟩ hgo
            rcases hcase with ⟨e, _⟩ | ⟨m'', e, rfl⟩
            · omega
            obtain rfl : m'' = m' := by omega
            have hcm := (hrk.at m'' (by omega)).2
            rw [Nat.zero_add, hm0] at hcm
            have hmi : (m'' : Int) < (len0 : Int) := by omega
            obtain ⟨b, off, rfl, hB, hct⟩ := hrt m'' (by omega)
            clear hnn hm0 e hgo
            rcases hv with hv | hv | hv
            all_goals
              rw [hv] at hct
              clear hv
              go_wp2_with fail
              go_ret
              exact ⟨rfl, hkb⟩
          have HL : Hid ((∃ r, r < len0 ∧ kind za len0 r = 0 ∧ (∀ j, r + 1 ≤ j → j < len0 → kind za len0 j ≠ 0) ∧ za r ≠ 91 ∧ za r ≠ 123 ∧ za r ≠ 44) ∨ (∀ j, 0 ≤ j → j < len0 → kind za len0 j ≠ 0)) := by
            match m, hm, hgo, hret, hnn with
            | 0, _, _, _, hnn => exact .inr hnn
            | m' + 1, hm, hgo, hret, hnn =>
              refine .inl ⟨m', by omega, ?_, hnn, fun e => hret ⟨m', rfl, .inl e⟩, fun e => hret ⟨m', rfl, .inr (.inl e)⟩, fun e => hret ⟨m', rfl, .inr (.inr e)⟩⟩
              by_cases e : kind za len0 m' = 0
              · exact e
              · exact absurd ⟨m', rfl, e⟩ hgo
          obtain ⟨N, hN⟩ : ∃ N, N = len0 + len1 + len3 + 2 := ⟨_, rfl⟩
          have hN1 : N ≤ len0 + len1 + len3 + 2 := by omega
          have hN2 : len0 + len1 + len3 + 2 ≤ N := by omega
          clear hN
          have b2 : i0.bytes * N ≤ 281474976710656 := by rw [hz2]; omega
          have b3 : N ≤ maxLen := by unfold maxLen; omega
          rcases hcase with ⟨rfl, rfl⟩ | ⟨m', rfl, rfl⟩
          all_goals first
            | (have hm0 : kind za len0 m' = 0 := by
                 by_cases e : kind za len0 m' = 0
                 · exact e
                 · exact absurd ⟨m', rfl, e⟩ hgo
               have hcm := (hrk.at m' (by omega)).2
               rw [Nat.zero_add, hm0] at hcm
               have hmi : (m' : Int) < (len0 : Int) := by omega
               obtain ⟨b, off, rfl, hB, hct⟩ := hrt m' (by omega)
               have o1 : (za m' == 91) = false := by simpa using fun e => hret ⟨m', rfl, .inl e⟩
               have o2 : (za m' == 123) = false := by simpa using fun e => hret ⟨m', rfl, .inr (.inl e)⟩
               have o3 : (za m' == 44) = false := by simpa using fun e => hret ⟨m', rfl, .inr (.inr e)⟩
               clear hgo hret hnn hm0
               go_wp2_with (at_make; refine wpList_make_own _ rfl _ (.tmp 104) 22 rfl W0.heap.size 5 i0 (.int .u8 0) 1 Try.underlying22 hi hz0 hz1 _ _ _ N rfl rfl (by omega) b2 b3 hkb.size ?_)
               clear o1 o2 o3 hcm hct hmi hB)
            | (clear hgo hret hnn
               go_wp2_with (at_make; refine wpList_make_own _ rfl _ (.tmp 104) 22 rfl W0.heap.size 5 i0 (.int .u8 0) 1 Try.underlying22 hi hz0 hz1 _ _ _ N rfl rfl (by omega) b2 b3 hkb.size ?_))
          all_goals
            clear hrk hrt
            intro wL0 hoL0 hgL0
            have hbL0 := hkb.grown hgL0 hkb.size (by simp)
            rw [show ([] : List Value) = cellsF (fun _ => 0) 0 from rfl] at hoL0
            go_wp2_with fail
            refine (append_abs wk.heap.size 0 N W0.heap.size (fun _ => 0) _ len0 cap0 za _ hoL0 (by omega) (by omega) (rda.below hbL0)).mono ?_
            rintro e wL1 ⟨rfl, f1, _, f1b, ho1, hb1⟩
            simp only [Nat.zero_add] at f1b
            rw [Nat.zero_add] at ho1 ⊢
            have hbW1 := hbL0.trans (hb1.mono hkb.size)
            have F1 : Hid (∀ i, i < len0 → f1 i = za i) := f1b
            clear f1b hb1 hoL0 hgL0 hbL0
            go_wp2_with (at_builtin; refine wpList_append_fits _ rfl (.tmp 109) (.tmp 110) 22 rfl W0.heap.size 5 i0 1 Try.underlying22 hi hz1 wk.heap.size len0 N _ rfl (ho1.alloc _) ⟨wL1.heap.size, 0, none⟩ 1 1 [.int .u8 44] rfl rfl (cell_one_new _ _ _) ?c1 ?c2 ?_)
            case c1 => intro u hu; simp at hu; subst hu; rfl
            case c2 => omega
            intro wL2 ho2 hg2
            obtain ⟨f2, f2a, f2b, e2⟩ := push1 f1 len0 44
            rw [e2] at ho2
            have hbW2 := below_app hbW1 hg2 hkb.size (owns_lt ho1).2
            have F2 : Hid ((∀ i, i < len0 → f2 i = za i) ∧ f2 len0 = 44) := ⟨fun i hi => (f2a i hi).trans (F1.out i hi), f2b⟩
            clear f2a f2b e2 F1 ho1 hg2 hbW1
            go_wp2_with fail
            refine (append_abs wk.heap.size (len0 + 1) N W0.heap.size f2 _ len1 cap1 zc _ ho2 (by omega) (by omega) (rdc.below hbW2)).mono ?_
            rintro e wL3 ⟨rfl, f3, f3a, f3b, ho3, hb3⟩
            have hbW3 := hbW2.trans (hb3.mono hkb.size)
            have F3 : Hid ((∀ i, i < len0 → f3 i = za i) ∧ f3 len0 = 44 ∧ ∀ i, i < len1 → f3 (len0 + 1 + i) = zc i) :=
              ⟨fun i hi => (f3a i (by omega)).trans (F2.out.1 i hi), (f3a _ (by omega)).trans F2.out.2, f3b⟩
            clear f3a f3b F2 ho2 hb3 hbW2
            go_wp2_with (at_builtin; refine wpList_append_fits _ rfl (.tmp 115) (.tmp 117) 22 rfl W0.heap.size 5 i0 1 Try.underlying22 hi hz1 wk.heap.size (len0 + 1 + len1) N _ rfl (ho3.alloc _) ⟨wL3.heap.size, 0, none⟩ 1 1 [.int .u8 125] rfl rfl (cell_one_new _ _ _) ?c3 ?c4 ?_)
            case c3 => intro u hu; simp at hu; subst hu; rfl
            case c4 => omega
            intro wL4 ho4 hg4
            obtain ⟨f4, f4a, f4b, e4⟩ := push1 f3 (len0 + 1 + len1) 125
            rw [e4] at ho4
            have hbW4 := below_app hbW3 hg4 hkb.size (owns_lt ho3).2
            have F4 : Hid ((∀ i, i < len0 → f4 i = za i) ∧ f4 len0 = 44 ∧ (∀ i, i < len1 → f4 (len0 + 1 + i) = zc i) ∧ f4 (len0 + 1 + len1) = 125) :=
              ⟨fun i hi => (f4a i (by omega)).trans (F3.out.1 i hi), (f4a _ (by omega)).trans F3.out.2.1, fun i hi => (f4a _ (by omega)).trans (F3.out.2.2 i hi), f4b⟩
            clear f4a f4b e4 F3 ho3 hg4 hbW3
            go_wp2_with fail
            refine (append_abs wk.heap.size (len0 + 1 + len1 + 1) N W0.heap.size f4 _ len3 cap3 zb _ ho4 (by omega) (by omega) (rdb.below hbW4)).mono ?_
            rintro e wL5 ⟨rfl, L, f5a, f5b, ho5, hb5⟩
            have eL : len0 + 1 + len1 + 1 + len3 = N := by omega
            rw [eL] at ho5 ⊢
            have hbW5 := hbW4.trans (hb5.mono hkb.size)
            have FL : Hid ((∀ i, i < len0 → L i = za i) ∧ L len0 = 44 ∧ (∀ i, i < len1 → L (len0 + 1 + i) = zc i) ∧ L (len0 + 1 + len1) = 125 ∧ ∀ i, i < len3 → L (len0 + 1 + len1 + 1 + i) = zb i) :=
              ⟨fun i hi => (f5a i (by omega)).trans (F4.out.1 i hi), (f5a _ (by omega)).trans F4.out.2.1, fun i hi => (f5a _ (by omega)).trans (F4.out.2.2.1 i hi), (f5a _ (by omega)).trans F4.out.2.2.2, f5b⟩
            clear f5a f5b F4 ho4 hb5 hbW4 eL
            have hgL := owns_lt ho5
            go_wp2_with (at_make; refine wpList_make_own _ rfl _ (.tmp 122) 22 rfl W0.heap.size 5 i0 (.int .u8 0) 1 Try.underlying22 hi hz0 hz1 _ _ _ N rfl rfl (by omega) b2 b3 hbW5.size ?_)
            intro wR0 hoR0 hgR0
            rw [show ([] : List Value) = cellsF (fun _ => 0) 0 from rfl] at hoR0
            have hbR0 := (Below.refl wL5.heap.size wL5).grown hgR0 (Nat.le_refl _) (by simp)
            clear hgR0 b2 b3 hz0 hz2
            go_wp2_with fail
            refine (append_abs wL5.heap.size 0 N W0.heap.size (fun _ => 0) _ len0 cap0 za _ hoR0 (by omega) (by omega) (rda.below (hbW5.trans (hbR0.mono hbW5.size)))).mono ?_
            rintro e wR1 ⟨rfl, r1, _, r1b, oR1, hb1⟩
            simp only [Nat.zero_add] at r1b
            rw [Nat.zero_add] at oR1 ⊢
            have hbR1 := hbR0.trans hb1
            have G1 : Hid (∀ i, i < len0 → r1 i = za i) := r1b
            clear r1b hb1 hoR0 hbR0
            go_wp2_with (at_builtin; refine wpList_append_fits _ rfl (.tmp 127) (.tmp 128) 22 rfl W0.heap.size 5 i0 1 Try.underlying22 hi hz1 wL5.heap.size len0 N _ rfl (oR1.alloc _) ⟨wR1.heap.size, 0, none⟩ 1 1 [.int .u8 32] rfl rfl (cell_one_new _ _ _) ?c5 ?c6 ?_)
            case c5 => intro u hu; simp at hu; subst hu; rfl
            case c6 => omega
            intro wR2 oR2 hg2
            obtain ⟨r2, r2a, r2b, e2⟩ := push1 r1 len0 32
            rw [e2] at oR2
            have hbR2 := below_app hbR1 hg2 (Nat.le_refl _) (owns_lt oR1).2
            have G2 : Hid ((∀ i, i < len0 → r2 i = za i) ∧ r2 len0 = 32) := ⟨fun i hi => (r2a i hi).trans (G1.out i hi), r2b⟩
            clear r2a r2b e2 G1 oR1 hg2 hbR1
            go_wp2_with fail
            refine (append_abs wL5.heap.size (len0 + 1) N W0.heap.size r2 _ len1 cap1 zc _ oR2 (by omega) (by omega) (rdc.below (hbW5.trans (hbR2.mono hbW5.size)))).mono ?_
            rintro e wR3 ⟨rfl, r3, r3a, r3b, oR3, hb3⟩
            have hbR3 := hbR2.trans hb3
            have G3 : Hid ((∀ i, i < len0 → r3 i = za i) ∧ r3 len0 = 32 ∧ ∀ i, i < len1 → r3 (len0 + 1 + i) = zc i) :=
              ⟨fun i hi => (r3a i (by omega)).trans (G2.out.1 i hi), (r3a _ (by omega)).trans G2.out.2, r3b⟩
            clear r3a r3b G2 oR2 hb3 hbR2
            go_wp2_with (at_builtin; refine wpList_append_fits _ rfl (.tmp 133) (.tmp 135) 22 rfl W0.heap.size 5 i0 1 Try.underlying22 hi hz1 wL5.heap.size (len0 + 1 + len1) N _ rfl (oR3.alloc _) ⟨wR3.heap.size, 0, none⟩ 1 1 [.int .u8 125] rfl rfl (cell_one_new _ _ _) ?c7 ?c8 ?_)
            case c7 => intro u hu; simp at hu; subst hu; rfl
            case c8 => omega
            intro wR4 oR4 hg4
            obtain ⟨r4, r4a, r4b, e4⟩ := push1 r3 (len0 + 1 + len1) 125
            rw [e4] at oR4
            have hbR4 := below_app hbR3 hg4 (Nat.le_refl _) (owns_lt oR3).2
            have G4 : Hid ((∀ i, i < len0 → r4 i = za i) ∧ r4 len0 = 32 ∧ (∀ i, i < len1 → r4 (len0 + 1 + i) = zc i) ∧ r4 (len0 + 1 + len1) = 125) :=
              ⟨fun i hi => (r4a i (by omega)).trans (G3.out.1 i hi), (r4a _ (by omega)).trans G3.out.2.1, fun i hi => (r4a _ (by omega)).trans (G3.out.2.2 i hi), r4b⟩
            clear r4a r4b e4 G3 oR3 hg4 hbR3
            go_wp2_with fail
            refine (append_abs wL5.heap.size (len0 + 1 + len1 + 1) N W0.heap.size r4 _ len3 cap3 zb _ oR4 (by omega) (by omega) (rdb.below (hbW5.trans (hbR4.mono hbW5.size)))).mono ?_
            rintro e wE ⟨rfl, R, fRa, fRb, oE, hbE⟩
            have eR : len0 + 1 + len1 + 1 + len3 = N := by omega
            rw [eR] at oE ⊢
            have hbRE := hbR4.trans hbE
            have GR : Hid ((∀ i, i < len0 → R i = za i) ∧ R len0 = 32 ∧ (∀ i, i < len1 → R (len0 + 1 + i) = zc i) ∧ R (len0 + 1 + len1) = 125 ∧ ∀ i, i < len3 → R (len0 + 1 + len1 + 1 + i) = zb i) :=
              ⟨fun i hi => (fRa i (by omega)).trans (G4.out.1 i hi), (fRa _ (by omega)).trans G4.out.2.1, fun i hi => (fRa _ (by omega)).trans (G4.out.2.2.1 i hi), (fRa _ (by omega)).trans G4.out.2.2.2, fRb⟩
            clear fRa fRb G4 oR4 hbE hbR4 eR
            have hzz : ∀ (X : Nat → Int) (x : Int), 0 ≤ x ∧ x < 256 → ((∀ i, i < len0 → X i = za i) ∧ X len0 = x ∧ (∀ i, i < len1 → X (len0 + 1 + i) = zc i) ∧ X (len0 + 1 + len1) = 125 ∧ ∀ i, i < len3 → X (len0 + 1 + len1 + 1 + i) = zb i) → ∀ i, i < N → 0 ≤ X i ∧ X i < 256 := by
              intro X x hx ⟨q1, q2, q3, q4, q5⟩ i hi
              rcases Nat.lt_or_ge i len0 with h | h
              · rw [q1 i h]; exact bya i h
              rcases Nat.lt_or_ge i (len0 + 1) with h2 | h2
              · rw [show i = len0 by omega, q2]; exact hx
              rcases Nat.lt_or_ge i (len0 + 1 + len1) with h3 | h3
              · obtain ⟨d, rfl⟩ : ∃ d, i = len0 + 1 + d := ⟨i - (len0 + 1), by omega⟩
                rw [q3 d (by omega)]; exact byc d (by omega)
              rcases Nat.lt_or_ge i (len0 + 1 + len1 + 1) with h4 | h4
              · rw [show i = len0 + 1 + len1 by omega, q4]; decide
              · obtain ⟨d, rfl⟩ : ∃ d, i = len0 + 1 + len1 + 1 + d := ⟨i - (len0 + 1 + len1 + 1), by omega⟩
                rw [q5 d (by omega)]; exact byb d (by omega)
            have hzL := hzz L 44 (by decide) FL.out
            have hzR := hzz R 32 (by decide) GR.out
            have hlaw : ∀ (yL yR : Nat → Int), Blanked L N yL → Blanked R N yR → ∀ p, p < N → yL p = yR p := by
              intro yL yR h1 h2
              obtain ⟨q1, q2, q3, q4, q5⟩ := FL.out
              obtain ⟨p1, p2, p3, p4, p5⟩ := GR.out
              refine law_comma (lb := len3) (cl := 125) (by omega) HS.out HP.out (by decide) HL.out q1 q2 q3 q4 p1 p2 ?_ h1 h2
              intro k hk1 hk2
              rcases Nat.lt_or_ge k (len0 + 1 + len1) with h | h
              · obtain ⟨d, rfl⟩ : ∃ d, k = len0 + 1 + d := ⟨k - (len0 + 1), by omega⟩
                rw [q3 d (by omega), p3 d (by omega)]
              rcases Nat.lt_or_ge k (len0 + 1 + len1 + 1) with h' | h'
              · rw [show k = len0 + 1 + len1 by omega, q4, p4]
              · obtain ⟨d, rfl⟩ : ∃ d, k = len0 + 1 + len1 + 1 + d := ⟨k - (len0 + 1 + len1 + 1), by omega⟩
                rw [q5 d (by omega), p5 d (by omega)]
            have HZ : Hid ((∀ i, i < N → 0 ≤ L i ∧ L i < 256) ∧ (∀ i, i < N → 0 ≤ R i ∧ R i < 256) ∧ (∀ (yL yR : Nat → Int), Blanked L N yL → Blanked R N yR → ∀ p, p < N → yL p = yR p)) := ⟨hzL, hzR, hlaw⟩
            clear hzz hzL hzR hlaw FL GR HS HP HL bya byc byb rda rdb rdc
            have oL := owns_below ho5 hbRE hgL.2
            have hbZ := hbW5.trans (hbRE.mono hbW5.size)
            clear ho5 hbRE hbW5 hi hz1
            go_wp2_with fail
            refine (zzblank_some _ N N L _ (by omega) HZ.out.1 (owns_rd oL)).mono ?_
            rintro e wB1 ⟨gl, capl, yl, rfl, hol, hyl, hbB1⟩
            have rdR := ((owns_rd oE).below hbB1).mono hbB1.size
            have hbY := hbZ.trans (hbB1.mono hbZ.size)
            clear oL oE hbZ hbB1
            go_wp2_with fail
            refine (zzblank_some _ N N R _ (by omega) HZ.out.2.1 rdR).mono ?_
            rintro e wB2 ⟨gr, capr, yr, rfl, hor, hyr, hbB2⟩
            have rdl := ((owns_rd hol).below hbB2).mono hbB2.size
            have rdr := owns_rd hor
            have hbX := hbY.trans (hbB2.mono hbY.size)
            have hsame := HZ.out.2.2 yl yr hyl hyr
            clear hol hor hyl hyr hbY hbB2 HZ rdR
            go_wp2_with (go_at_call 10; refine (same_any _ _ N capl capr _ yl yr _ (by omega) rdl rdr hsame).mono ?_; rintro e wS ⟨rfl, kS, rfl⟩)
            go_ret
            exact ⟨rfl, below_drewN hbX _⟩
      · have t1 : (st za len0 len0 == 0) = false := by simpa using hst
        have t2 : (st za len0 len0 != 0) = true := by simpa using hst
        clear hst
        go_wp2_with fail
        go_ret
        exact ⟨rfl, hkb⟩


/-! ### STEP 1: THE WALK: the Go text returns true, AND WRITES NOTHING THAT WAS THERE. -/
theorem walk (a0 : Option Addr) (len0 cap0 : Nat) (z0 : List Int) (a1 : Option Addr) (len1 cap1 : Nat) (z1 : List Int) (a2 : Bool) (a3 : Option Addr) (len3 cap3 : Nat) (z3 : List Int) (w : World) (w0 : IsRow .u8 w a0 len0 cap0 z0) (w1 : IsRow .u8 w a1 len1 cap1 z1) (w3 : IsRow .u8 w a3 len3 cap3 z3) :
    Calls Try.prog 5 #[.slice a0 len0 cap0, .slice a1 len1 cap1, .bool a2, .slice a3 len3 cap3] w fun e w' => e = .returned (.bool true) ∧ Below w.heap.size w w' := by
  cases a2
  · exact walk_false a0 len0 cap0 z0 a1 len1 cap1 z1 a3 len3 cap3 z3 w w0 w1 w3
  · exact walk_true a0 len0 cap0 z0 a1 len1 cap1 z1 a3 len3 cap3 z3 w w0 w1 w3

/-! ### THE ROW's STEP: WRITTEN OUT: LEAVE IT -/
set_option maxRecDepth 100000 in
theorem lifted (os : Os) (started : os.Started) (H : Type) (enc : TypeId × Value → H) :
    ReturnsInHanded {} Try.checked os 5 .any (Rows.fnBlankTrailingCommaActsAsSpaceSpec.pre6 enc Try.prog Try.f5 Rows.fnBlankTrailingCommaActsAsSpaceRow.domain false) (Rows.fnBlankTrailingCommaActsAsSpaceSpec.post enc Try.prog Try.f5 false true false false) := by
  refine returnsInHanded_of_change (C := Try.checked) own started (by kernel_rfl) Try.func5
    (ChangeSpec.witness6 (enc := enc) (C := Try.checked) false ⟨#[], #[.slice none 0 0, .slice none 0 0, .bool false, .slice none 0 0], []⟩ 8 (by kernel_rfl) (by kernel_rfl) (by kernel_rfl) (by kernel_rfl)) ?_
  intro W base args ds gs before hval0 hW hcnd _
  have hval : ∀ (j : Nat) t v, Try.f5.params[j]? = some t → args[j]? = some v → Value.okWide Try.prog W .any base t v := hval0
  have hW' := hW
  obtain ⟨p, q, hA0, hV, rfl, hfz, hnd⟩ := hW
  have hA : DataW.TrodAll enc Try.prog W 0 (fun _ => true) true Try.f5.params.toList args.toList ds p := hA0
  rw [Try.params5] at hA hval
  obtain ⟨v0, vs0, d0, ds0, p0, q0, hargs, rfl, rfl, h0, r0⟩ := trodAll_cons hA
  obtain ⟨v1, vs1, d1, ds1, p1, q1, rfl, rfl, rfl, h1, r1⟩ := trodAll_cons r0
  obtain ⟨v2, vs2, d2, ds2, p2, q2, rfl, rfl, rfl, h2, r2⟩ := trodAll_cons r1
  obtain ⟨v3, vs3, d3, ds3, p3, q3, rfl, rfl, rfl, h3, r3⟩ := trodAll_cons r2
  obtain ⟨rfl, rfl, rfl⟩ := trodAll_nil r3
  obtain rfl : args = #[v0, v1, v2, v3] := by cases args; simp_all
  obtain ⟨rfl, rfl⟩ := trodVars_none hV
  obtain ⟨a0, len0, cap0, rfl⟩ := okWide_slice Try.underlying22 (hval 0 22 v0 rfl rfl)
  have k0 := h0
  have lt0 : ∀ x ∈ p0, x.block < W.heap.size := by obtain ⟨m, hm⟩ := k0; exact DataW.trod_lt m _ _ _ hm
  obtain ⟨z0, w0⟩ : ∃ zs, IsRow .u8 W a0 len0 cap0 zs := by
    obtain ⟨fuel, hf⟩ := h0
    rcases open_ints Try.underlying22 Try.underlying5 (by kernel_rfl) hf with ⟨hcs, _⟩ | ⟨x, l, c, zs, hcs, _, hl, hm, hz, _, hcell, hwz⟩
    · simp [Value.cells] at hcs
      obtain ⟨rfl, rfl, rfl⟩ := hcs
      exact ⟨[], .inl ⟨rfl, rfl, rfl, rfl⟩⟩
    · simp [Value.cells] at hcs
      obtain ⟨rfl, rfl, rfl⟩ := hcs
      exact ⟨zs, .inr ⟨_, rfl, hl, hm, by simpa using hz, hcell, hwz⟩⟩
  obtain ⟨a1, len1, cap1, rfl⟩ := okWide_slice Try.underlying22 (hval 1 22 v1 rfl rfl)
  have k1 := h1
  have lt1 : ∀ x ∈ p1, x.block < W.heap.size := by obtain ⟨m, hm⟩ := k1; exact DataW.trod_lt m _ _ _ hm
  obtain ⟨z1, w1⟩ : ∃ zs, IsRow .u8 W a1 len1 cap1 zs := by
    obtain ⟨fuel, hf⟩ := h1
    rcases open_ints Try.underlying22 Try.underlying5 (by kernel_rfl) hf with ⟨hcs, _⟩ | ⟨x, l, c, zs, hcs, _, hl, hm, hz, _, hcell, hwz⟩
    · simp [Value.cells] at hcs
      obtain ⟨rfl, rfl, rfl⟩ := hcs
      exact ⟨[], .inl ⟨rfl, rfl, rfl, rfl⟩⟩
    · simp [Value.cells] at hcs
      obtain ⟨rfl, rfl, rfl⟩ := hcs
      exact ⟨zs, .inr ⟨_, rfl, hl, hm, by simpa using hz, hcell, hwz⟩⟩
  obtain ⟨a2, rfl, rfl, rfl⟩ := open_bool Try.underlying4 (hval 2 4 v2 rfl rfl) h2
  obtain ⟨a3, len3, cap3, rfl⟩ := okWide_slice Try.underlying22 (hval 3 22 v3 rfl rfl)
  have k3 := h3
  have lt3 : ∀ x ∈ p3, x.block < W.heap.size := by obtain ⟨m, hm⟩ := k3; exact DataW.trod_lt m _ _ _ hm
  obtain ⟨z3, w3⟩ : ∃ zs, IsRow .u8 W a3 len3 cap3 zs := by
    obtain ⟨fuel, hf⟩ := h3
    rcases open_ints Try.underlying22 Try.underlying5 (by kernel_rfl) hf with ⟨hcs, _⟩ | ⟨x, l, c, zs, hcs, _, hl, hm, hz, _, hcell, hwz⟩
    · simp [Value.cells] at hcs
      obtain ⟨rfl, rfl, rfl⟩ := hcs
      exact ⟨[], .inl ⟨rfl, rfl, rfl, rfl⟩⟩
    · simp [Value.cells] at hcs
      obtain ⟨rfl, rfl, rfl⟩ := hcs
      exact ⟨zs, .inr ⟨_, rfl, hl, hm, by simpa using hz, hcell, hwz⟩⟩
  clear hA0 hval0
  refine (walk a0 len0 cap0 z0 a1 len1 cap1 z1 a2 a3 len3 cap3 z3 W w0 w1 w3).mono fun e W' ⟨he, bel⟩ => ?_
  subst he
  exact ⟨_, rfl, _, _, _, [], _, [], hW', trodAll_mk1 (shut_bool Try.underlying4 _), (trodAll_cons_mk (Below.trod laidOut (by kernel_rfl) (of_decide_eq_true (by kernel_rfl)) k0 bel lt0) (trodAll_cons_mk (Below.trod laidOut (by kernel_rfl) (of_decide_eq_true (by kernel_rfl)) k1 bel lt1) (trodAll_cons_mk (shut_bool Try.underlying4 _) (trodAll_cons_mk (Below.trod laidOut (by kernel_rfl) (of_decide_eq_true (by kernel_rfl)) k3 bel lt3) trodAll_mk0)))), rfl, bel.frame _, fun h => by cases h⟩

theorem over : Rows.fnBlankTrailingCommaActsAsSpaceRow.holds Try.pinned (OpenSpec.ofChange Rows.fnBlankTrailingCommaActsAsSpaceSpec) :=
  OpenClaim.holds_of_wide 5 Try.f5 rfl rfl rfl rfl rfl rfl rfl ⟨rfl, rfl, rfl, rfl, rfl⟩ rfl rfl rfl rfl rfl (by kernel_rfl) Try.func5 (by kernel_rfl)
    (of_decide_eq_true (by kernel_rfl)) (by unfold Func.isWrapper; first | (rw [if_pos (by decide +kernel)]; kernel_rfl) | (rw [if_neg (by decide +kernel)]; exact ⟨rfl, rfl⟩))
    (fun os started H enc _ => lifted os started H enc)

/-- ████ THE STATEMENT ████ -/
theorem proved : Rows.FnBlankTrailingCommaActsAsSpaceSaid := over
end Go.Proofs.Qxb6617893a.fnBlankTrailingCommaActsAsSpace

namespace Go.Proofs.Qxb6617893a
theorem fnBlankTrailingCommaActsAsSpace_proved : Rows.FnBlankTrailingCommaActsAsSpaceSaid := fnBlankTrailingCommaActsAsSpace.proved
end Go.Proofs.Qxb6617893a
