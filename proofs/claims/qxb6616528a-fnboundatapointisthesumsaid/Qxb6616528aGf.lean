/-
  SEAT b6616528a: the walk of the law FnBoundAtAPointIsTheSum.
-/
import Derived.Test.Qxb6616528aGe
set_option linter.unusedSimpArgs false
set_option exponentiation.threshold 5000
set_option maxRecDepth 8000
namespace Go.Proofs.Qxb6616528a
open Go.ChangeShapes Go.WideShapes Go.ChangeAt Go.RowKit
open Fl

def epsC : Nat := 4517329193108106637
theorem eps_ge : 2 ^ 1054 ≤ V epsC := by decide
theorem eq_of_bne {x y : Nat} (h : (FloatKind.f64.format.order x y != some .eq) = false) : Ieee.double.order x y = some .eq := by
  have h1 : FloatKind.f64.format.order x y = some .eq := by simpa using h
  exact h1
theorem near_zero {x : Nat} (hx : fin x) (h : (FloatKind.f64.format.order x 0 != some .eq) = false) : rg x = 0 := by
  have h1 : FloatKind.f64.format.order x 0 = some .eq := by simpa using h
  have h2 := (fin_W_of_eq hx h1).2
  rw [W_zero (x := 0) rfl] at h2
  exact rg_zero_of_W h2
theorem far_of {x r : Nat} (hr : fin r) (hw : W r = (V (rg x) : Int)) (h : (FloatKind.f64.format.order r 4517329193108106637 == some .lt) = false) : 2 ^ 1054 ≤ V (rg x) := by
  have f2 : fin epsC := by unfold fin; decide
  have h1 : FloatKind.f64.format.order r 4517329193108106637 = some (compare (W r) (W epsC)) := order_fin hr f2
  have e2 : W epsC = (V epsC : Int) := by unfold W; rw [show sg epsC = false by decide, show rg epsC = epsC by decide]; rfl
  rw [h1] at h
  have h3 : V epsC ≤ V (rg x) := by
    rcases Int.lt_trichotomy (W r) (W epsC) with h4 | h4 | h4
    · rw [Int.compare_eq_lt.2 h4] at h; simp at h
    · omega
    · omega
  exact Nat.le_trans eps_ge h3
theorem row_of {lx ly hx hy k : Nat} {X Y D Wt : Nat → Nat} (h0 : inR (X k) = true) (h1 : inR (Y k) = true) (h2 : inR (D k) = true) (h3 : inR (Wt k) = true)
    (hf : (rg (subw (X k) lx) = 0 ∧ rg (subw (Y k) ly) = 0) ∨ 2 ^ 1054 ≤ V (rg (subw (X k) lx)) ∨ 2 ^ 1054 ≤ V (rg (subw (Y k) ly))) : (Data.mk lx ly hx hy X Y D Wt).Row k := by
  rw [rg_subw, rg_subw, Ar_flip (X k), Ar_flip (Y k)] at hf
  exact ⟨inR_le h0, inR_le h1, inR_le h2, inR_le h3, hf⟩
def L1 (P : Nat → Prop) (n : Nat) (w : World) (gk : Nat) (i : Value) (wr : World) : Prop :=
  ∃ k : Nat, k ≤ n ∧ n - k ≤ gk ∧ i = .int .i64 k ∧ (∀ j, j < k → P j) ∧ wr = w

def L2 (d : Data) (n : Nat) (w : World) (gk : Nat) (s i : Value) (wr : World) : Prop :=
  ∃ k : Nat, k ≤ n ∧ n - k ≤ gk ∧ i = .int .i64 k ∧ s = .float .f64 (d.SS k) ∧ Below w.heap.size w wr
theorem below_mid {W1 wd wq wx : World} (h : Below wd.heap.size wd wq) (h1 : Below W1.heap.size W1 wd) (h2 : Below wq.heap.size wq wx) : Below W1.heap.size W1 wx :=
  (h1.trans (h.mono h1.size)).trans (h2.mono (Nat.le_trans h1.size h.size))

set_option maxHeartbeats 2000000 in
theorem law_walk (xa ya da wa : Option Addr) (n0 c0 n1 c1 n7 c7 n8 c8 fr lx ly hx hy bar : Nat) (X Y D Wt : Nat → Nat) (w : World)
    (l0 : n0 ≤ maxLen) (l1 : n1 ≤ maxLen) (l7 : n7 ≤ maxLen) (l8 : n8 ≤ maxLen)
    (z0 : xa = none → n0 = 0) (z1 : ya = none → n1 = 0) (z7 : da = none → n7 = 0) (z8 : wa = none → n8 = 0)
    (rX : RdF w xa n0 X) (rY : RdF w ya n1 Y) (rD : RdF w da n7 D) (rW : RdF w wa n8 Wt) :
    Calls Try.prog 5 #[.slice xa n0 c0, .slice ya n1 c1, .float .f64 fr, .float .f64 lx, .float .f64 ly, .float .f64 hx, .float .f64 hy, .slice da n7 c7, .slice wa n8 c8, .float .f64 bar] w fun e w' =>
      e = .returned (.bool true) ∧ Below w.heap.size w w' := by
  have q35 : ∀ (w : World) (a : Option Addr) (n c n' c' : Nat), (binOp .neq 35 (.slice a n c) (.slice none n' c')).run Try.prog w = .ok (.bool (!a.isNone)) w := fun w a n c n' c' => run_neq_slice_nil_any w _ _ a n c n' c' Try.underlying35
  obtain ⟨i36, hi36, hq36⟩ : ∃ i, Try.prog.info? 36 = some i ∧ (i.zero, i.size, i.bytes) = (some (.float .f64 0), 1, 8) := by
    have := info36
    cases h : Try.prog.info? 36 with
    | none => rw [h] at this; simp at this
    | some i => rw [h] at this; exact ⟨i, rfl, by simpa using this⟩
  simp only [Prod.mk.injEq] at hq36
  obtain ⟨zz, ss, yy⟩ := hq36
  have HI : Hid (Try.prog.info? 36 = some i36) := hi36
  have HZ : Hid (i36.zero = some (.float .f64 0)) := zz
  have HSZ : Hid (i36.size = 1) := ss
  have HYY : Hid (i36.bytes = 8) := yy
  have HX : Hid (RdF w xa n0 X) := rX
  have HY : Hid (RdF w ya n1 Y) := rY
  have HD : Hid (RdF w da n7 D) := rD
  have HW : Hid (RdF w wa n8 Wt) := rW
  have Z0 : Hid (xa = none → n0 = 0) := z0
  have Z1 : Hid (ya = none → n1 = 0) := z1
  have Z7 : Hid (da = none → n7 = 0) := z7
  have Z8 : Hid (wa = none → n8 = 0) := z8
  clear hi36 zz ss yy rX rY rD rW z0 z1 z7 z8
  go_enter Try.func5, Try.ntmps5
  go_wp2_with fail
  refine (bytes13_any xa ya da wa n0 c0 n1 c1 n7 c7 n8 c8 fr lx ly hx hy bar w l0 l1 l7 l8).mono ?_
  rintro e w' ⟨⟨r, rfl⟩, rfl⟩
  unfold maxLen at l0 l1 l7 l8
  cases r
  · go_wp2_with fail
    go_ret
    exact ⟨rfl, Below.refl _ _⟩
  by_cases s0 : 32768 < n0
  · go_wp2_with fail
    go_ret
    exact ⟨rfl, Below.refl _ _⟩
  by_cases s1 : 32768 < n1
  · go_wp2_with fail
    go_ret
    exact ⟨rfl, Below.refl _ _⟩
  by_cases s7 : 32768 < n7
  · go_wp2_with fail
    go_ret
    exact ⟨rfl, Below.refl _ _⟩
  by_cases s8 : 32768 < n8
  · go_wp2_with fail
    go_ret
    exact ⟨rfl, Below.refl _ _⟩
  clear l0 l1 l7 l8
  by_cases t0 : n0 ≠ n1
  · have b0 : ((n0 : Int) != (n1 : Int)) = true := by simp; omega
    go_wp2_with fail
    go_ret
    exact ⟨rfl, Below.refl _ _⟩
  obtain rfl : n0 = n1 := by omega
  clear t0 s1
  by_cases t1 : n7 ≠ n8
  · have b0 : ((n7 : Int) != (n8 : Int)) = true := by simp; omega
    go_wp2_with fail
    go_ret
    exact ⟨rfl, Below.refl _ _⟩
  obtain rfl : n7 = n8 := by omega
  clear t1 s8
  by_cases t2 : n7 < n0
  · go_wp2_with fail
    go_ret
    exact ⟨rfl, Below.refl _ _⟩
  cases u0 : (FloatKind.f64.format.order lx hx != some .eq)
  rotate_left
  · go_wp2_with fail
    go_ret
    exact ⟨rfl, Below.refl _ _⟩
  cases u1' : (FloatKind.f64.format.order ly hy != some .eq)
  rotate_left
  · go_wp2_with fail
    go_ret
    exact ⟨rfl, Below.refl _ _⟩
  have ci := fun v w => inRange_any v w
  cases v0 : inR lx
  · go_wp2_with fail
    refine (ci _ _).mono ?_
    rintro e w2 ⟨rfl, rfl⟩
    rw [v0]
    go_wp2_with fail
    go_ret
    exact ⟨rfl, Below.refl _ _⟩
  cases v1 : inR ly
  · go_wp2_with fail
    refine (ci _ _).mono ?_
    rintro e w2 ⟨rfl, rfl⟩
    rw [v0]
    go_wp2_with fail
    refine (ci _ _).mono ?_
    rintro e w2 ⟨rfl, rfl⟩
    rw [v1]
    go_wp2_with fail
    go_ret
    exact ⟨rfl, Below.refl _ _⟩
  go_wp2_with fail
  refine (ci _ _).mono ?_
  rintro e w2 ⟨rfl, rfl⟩
  rw [v0]
  go_wp2_with fail
  refine (ci _ _).mono ?_
  rintro e w2 ⟨rfl, rfl⟩
  rw [v1]
  go_upto_if 101 with fail
  go_cut [0, 21] from 102 to 108 (fun sq sz wx => ∃ a c, sq = .slice a n0 c ∧ RdF wx a n0 X ∧ Below w2.heap.size w2 wx)
  case first =>
    cases xa with
    | none =>
      go_wp2_with fail
      go_meet
      exact ⟨none, c0, rfl, HX.out, Below.refl _ _⟩
    | some x =>
      have b2 : i36.bytes * n0 ≤ 281474976710656 := by rw [HYY.out]; omega
      have b3 : n0 ≤ maxLen := by unfold maxLen; omega
      go_wp2_with (at_make; refine wpList_make_full _ rfl (.tmp 103) (.tmp 103) 35 rfl w2.heap.size 36 i36 (.float .f64 0) 1 Try.underlying35 HI.out HZ.out HSZ.out .i64 .i64 _ _ n0 rfl rfl rfl rfl b2 b3 (Nat.le_refl _) ?_)
      intro w3 ho hg
      have hb1 := (Below.refl w2.heap.size w2).grown hg (Nat.le_refl _) (by simp)
      obtain ⟨w4, hrun, rd, hb4⟩ := copy_fullF w2 w3 w2.heap.size w2.heap.size n0 c0 x _ X ho hb1 (HX.out.below hb1)
      clear ho hg hb1 b2 b3
      go_wp2_with fail
      go_meet
      exact ⟨_, _, rfl, rd, hb4⟩
  case rest =>
  obtain ⟨xa', xc', rfl, rdX, hbX⟩ := hcut
  obtain ⟨wA, rfl⟩ : ∃ q, q = wc := ⟨_, rfl⟩
  have HX' : Hid (RdF wA xa' n0 X) := rdX
  have HY' : Hid (RdF wA ya n0 Y) := HY.out.below hbX
  have HD' : Hid (RdF wA da n7 D) := HD.out.below hbX
  have HW' : Hid (RdF wA wa n7 Wt) := HW.out.below hbX
  have BA : Hid (Below w2.heap.size w2 wA) := hbX
  clear HX HY HD HW rdX hbX
  go_upto_if 110 with fail
  go_cut [1, 22] from 111 to 117 (fun sq sz wx => ∃ a c, sq = .slice a n0 c ∧ RdF wx a n0 Y ∧ Below wA.heap.size wA wx)
  case first =>
    cases ya with
    | none =>
      go_wp2_with fail
      go_meet
      exact ⟨none, c1, rfl, HY'.out, Below.refl _ _⟩
    | some x =>
      have b2 : i36.bytes * n0 ≤ 281474976710656 := by rw [HYY.out]; omega
      have b3 : n0 ≤ maxLen := by unfold maxLen; omega
      go_wp2_with (at_make; refine wpList_make_full _ rfl (.tmp 112) (.tmp 112) 35 rfl wA.heap.size 36 i36 (.float .f64 0) 1 Try.underlying35 HI.out HZ.out HSZ.out .i64 .i64 _ _ n0 rfl rfl rfl rfl b2 b3 (Nat.le_refl _) ?_)
      intro w3 ho hg
      have hb1 := (Below.refl wA.heap.size wA).grown hg (Nat.le_refl _) (by simp)
      obtain ⟨w4, hrun, rd, hb4⟩ := copy_fullF wA w3 wA.heap.size wA.heap.size n0 c1 x _ Y ho hb1 (HY'.out.below hb1)
      clear ho hg hb1 b2 b3
      go_wp2_with fail
      go_meet
      exact ⟨_, _, rfl, rd, hb4⟩
  case rest =>
  obtain ⟨ya', yc', rfl, rdY, hbY⟩ := hcut
  obtain ⟨wB, rfl⟩ : ∃ q, q = wc := ⟨_, rfl⟩
  have HX2 : Hid (RdF wB xa' n0 X) := HX'.out.below hbY
  have HY2 : Hid (RdF wB ya' n0 Y) := rdY
  have HD2 : Hid (RdF wB da n7 D) := HD'.out.below hbY
  have HW2 : Hid (RdF wB wa n7 Wt) := HW'.out.below hbY
  have BB : Hid (Below w2.heap.size w2 wB) := BA.out.trans (hbY.mono BA.out.size)
  clear HX' HY' HD' HW' rdY hbY BA
  go_upto_if 119 with fail
  go_cut [7, 23] from 120 to 126 (fun sq sz wx => ∃ a c, sq = .slice a n7 c ∧ RdF wx a n7 D ∧ Below wB.heap.size wB wx)
  case first =>
    cases da with
    | none =>
      go_wp2_with fail
      go_meet
      exact ⟨none, c7, rfl, HD2.out, Below.refl _ _⟩
    | some x =>
      have b2 : i36.bytes * n7 ≤ 281474976710656 := by rw [HYY.out]; omega
      have b3 : n7 ≤ maxLen := by unfold maxLen; omega
      go_wp2_with (at_make; refine wpList_make_full _ rfl (.tmp 121) (.tmp 121) 35 rfl wB.heap.size 36 i36 (.float .f64 0) 1 Try.underlying35 HI.out HZ.out HSZ.out .i64 .i64 _ _ n7 rfl rfl rfl rfl b2 b3 (Nat.le_refl _) ?_)
      intro w3 ho hg
      have hb1 := (Below.refl wB.heap.size wB).grown hg (Nat.le_refl _) (by simp)
      obtain ⟨w4, hrun, rd, hb4⟩ := copy_fullF wB w3 wB.heap.size wB.heap.size n7 c7 x _ D ho hb1 (HD2.out.below hb1)
      clear ho hg hb1 b2 b3
      go_wp2_with fail
      go_meet
      exact ⟨_, _, rfl, rd, hb4⟩
  case rest =>
  obtain ⟨da', dc', rfl, rdD, hbD⟩ := hcut
  obtain ⟨wC, rfl⟩ : ∃ q, q = wc := ⟨_, rfl⟩
  have HX3 : Hid (RdF wC xa' n0 X) := HX2.out.below hbD
  have HY3 : Hid (RdF wC ya' n0 Y) := HY2.out.below hbD
  have HD3 : Hid (RdF wC da' n7 D) := rdD
  have HW3 : Hid (RdF wC wa n7 Wt) := HW2.out.below hbD
  have BC : Hid (Below w2.heap.size w2 wC) := BB.out.trans (hbD.mono BB.out.size)
  clear HX2 HY2 HD2 HW2 rdD hbD BB
  go_upto_if 128 with fail
  go_cut [8, 24] from 129 to 135 (fun sq sz wx => ∃ a c, sq = .slice a n7 c ∧ RdF wx a n7 Wt ∧ Below wC.heap.size wC wx)
  case first =>
    cases wa with
    | none =>
      go_wp2_with fail
      go_meet
      exact ⟨none, c8, rfl, HW3.out, Below.refl _ _⟩
    | some x =>
      have b2 : i36.bytes * n7 ≤ 281474976710656 := by rw [HYY.out]; omega
      have b3 : n7 ≤ maxLen := by unfold maxLen; omega
      go_wp2_with (at_make; refine wpList_make_full _ rfl (.tmp 130) (.tmp 130) 35 rfl wC.heap.size 36 i36 (.float .f64 0) 1 Try.underlying35 HI.out HZ.out HSZ.out .i64 .i64 _ _ n7 rfl rfl rfl rfl b2 b3 (Nat.le_refl _) ?_)
      intro w3 ho hg
      have hb1 := (Below.refl wC.heap.size wC).grown hg (Nat.le_refl _) (by simp)
      obtain ⟨w4, hrun, rd, hb4⟩ := copy_fullF wC w3 wC.heap.size wC.heap.size n7 c8 x _ Wt ho hb1 (HW3.out.below hb1)
      clear ho hg hb1 b2 b3
      go_wp2_with fail
      go_meet
      exact ⟨_, _, rfl, rd, hb4⟩
  case rest =>
  obtain ⟨wa', wc', rfl, rdWt, hbWt⟩ := hcut
  obtain ⟨wD, rfl⟩ : ∃ q, q = wc := ⟨_, rfl⟩
  have HX4 : Hid (RdF wD xa' n0 X) := HX3.out.below hbWt
  have HY4 : Hid (RdF wD ya' n0 Y) := HY3.out.below hbWt
  have HD4 : Hid (RdF wD da' n7 D) := HD3.out.below hbWt
  have HW4 : Hid (RdF wD wa' n7 Wt) := rdWt
  have BD : Hid (Below w2.heap.size w2 wD) := BC.out.trans (hbWt.mono BC.out.size)
  clear HX3 HY3 HD3 HW3 rdWt hbWt BC HI HZ HSZ HYY Z0 Z1 Z7 Z8 q35
  have llx := inR_le v0
  have lly := inR_le v1
  have lhx : fin hx ∧ W lx = W hx := fin_W_of_eq llx.1 (eq_of_bne u0)
  have lhy : fin hy ∧ W ly = W hy := fin_W_of_eq lly.1 (eq_of_bne u1')
  have HBOX : Hid ((Data.mk lx ly hx hy X Y D Wt).Box) := by
    refine ⟨llx, lly, ⟨lhx.1, ?_⟩, ⟨lhy.1, ?_⟩, lhx.2, lhy.2⟩
    · rw [← (same_of_W lhx.2).1]; exact llx.2
    · rw [← (same_of_W lhy.2).1]; exact lly.2
  have HLX : Hid (Le lx 1094) := llx
  have HLY : Hid (Le ly 1094) := lly
  clear u0 u1' v0 v1 llx lly lhx lhy
  go_wp2_with fail
  go_loopg [25] n0 (L1 (fun j => (Data.mk lx ly hx hy X Y D Wt).Row j) n0 wD)
  case atStart => exact ⟨0, by omega, by omega, rfl, fun j hj => by omega, rfl⟩
  case round =>
    unfold L1 at hrel
    obtain ⟨k, hk, hgk, rfl, hgood, hwr⟩ := hrel
    obtain ⟨W0, hW0⟩ : ∃ W0, W0 = wr := ⟨_, rfl⟩
    rw [← hW0] at hwr ⊢
    clear hW0
    have HWR : Hid (W0 = wD) := hwr
    have HG : Hid (∀ j, j < k → (Data.mk lx ly hx hy X Y D Wt).Row j) := hgood
    clear hgood
    by_cases hlt : k < n0
    · have KX : RdF W0 xa' n0 X := by rw [hwr]; exact HX4.out
      have KY : RdF W0 ya' n0 Y := by rw [hwr]; exact HY4.out
      have KD : RdF W0 da' n7 D := by rw [hwr]; exact HD4.out
      have KW : RdF W0 wa' n7 Wt := by rw [hwr]; exact HW4.out
      have KB : Below w2.heap.size w2 W0 := by rw [hwr]; exact BD.out
      have HB : Hid (Below w2.heap.size w2 W0) := KB
      obtain ⟨bx, ox, rfl, qx⟩ := KX k hlt
      obtain ⟨by', oy, rfl, qy⟩ := KY k hlt
      obtain ⟨bd, od, rfl, qd⟩ := KD k (by omega)
      obtain ⟨bw, ow, rfl, qw⟩ := KW k (by omega)
      have e1 : (k : Int) < (n0 : Int) := by omega
      have e7 : (k : Int) < (n7 : Int) := by omega
      clear KX KY KD KW KB hwr
      go_wp2_with fail
      refine (ci _ _).mono ?_
      rintro e w5 ⟨rfl, h5⟩
      subst h5
      cases g0 : inR (X k)
      · go_wp2_with fail
        go_ret
        exact ⟨rfl, HB.out⟩
      go_wp2_with fail
      refine (ci _ _).mono ?_
      rintro e w5 ⟨rfl, h5⟩
      subst h5
      cases g1 : inR (Y k)
      · go_wp2_with fail
        go_ret
        exact ⟨rfl, HB.out⟩
      go_wp2_with fail
      refine (ci _ _).mono ?_
      rintro e w5 ⟨rfl, h5⟩
      subst h5
      cases g2 : inR (D k)
      · go_wp2_with fail
        go_ret
        exact ⟨rfl, HB.out⟩
      go_wp2_with fail
      refine (ci _ _).mono ?_
      rintro e w5 ⟨rfl, h5⟩
      subst h5
      cases g3 : inR (Wt k)
      · go_wp2_with fail
        go_ret
        exact ⟨rfl, HB.out⟩
      have lX := inR_le g0
      have lY := inR_le g1
      have sdx := run_sub (sub_w lX.1 HLX.out.1)
      have sdy := run_sub (sub_w lY.1 HLY.out.1)
      have fdx := (lX.sub HLX.out (by omega)).1
      have fdy := (lY.sub HLY.out (by omega)).1
      have HFIN : (rg (subw (X k) lx) = 0 ∧ rg (subw (Y k) ly) = 0) ∨ 2 ^ 1054 ≤ V (rg (subw (X k) lx)) ∨ 2 ^ 1054 ≤ V (rg (subw (Y k) ly)) → Hid (L1 (fun j => (Data.mk lx ly hx hy X Y D Wt).Row j) n0 wD (n0 - (k + 1)) (.int .i64 ((k : Int) + 1)) w5) := fun hf =>
        ⟨k + 1, by omega, Nat.le_refl _, by go_num, fun j hj => by
          rcases Nat.lt_or_ge j k with h | h
          · exact HG.out j h
          · obtain rfl : j = k := by omega
            exact row_of g0 g1 g2 g3 hf, HWR.out⟩
      have nz1 : (FloatKind.f64.format.order (subw (X k) lx) 0 != some .eq) = false → rg (subw (X k) lx) = 0 := near_zero fdx
      have nz2 : (FloatKind.f64.format.order (subw (Y k) ly) 0 != some .eq) = false → rg (subw (Y k) ly) = 0 := near_zero fdy
      have hax := fun w => absZ_any (subw (X k) lx) w fdx
      have hay := fun w => absZ_any (subw (Y k) ly) w fdy
      have HNZ1 : Hid ((FloatKind.f64.format.order (subw (X k) lx) 0 != some .eq) = false → rg (subw (X k) lx) = 0) := nz1
      have HNZ2 : Hid ((FloatKind.f64.format.order (subw (Y k) ly) 0 != some .eq) = false → rg (subw (Y k) ly) = 0) := nz2
      have HFN : Hid _ := HFIN
      clear HFIN nz1 nz2 lX lY fdx fdy g0 g1 g2 g3 ci
      generalize subw (X k) lx = dX at *
      generalize subw (Y k) ly = dY at *
      cases p1 : (FloatKind.f64.format.order dX 0 != some .eq)
      · cases p2 : (FloatKind.f64.format.order dY 0 != some .eq)
        · have HFIN := HFN.out (.inl ⟨HNZ1.out p1, HNZ2.out p2⟩)
          clear hax hay
          go_wp2_with fail
          go_roundg (n0 - (k + 1))
          case measure => go_light; omega
          case rel => exact HFIN.out
        · go_wp2_with fail
          refine (hax _).mono ?_
          rintro e w6 ⟨⟨rx, rfl, frx, wrx⟩, h6⟩
          subst h6
          cases q1 : (FloatKind.f64.format.order rx 4517329193108106637 == some .lt)
          · have HFIN := HFN.out (.inr (.inl (far_of frx wrx q1)))
            clear hax hay
            go_wp2_with fail
            go_roundg (n0 - (k + 1))
            case measure => go_light; omega
            case rel => exact HFIN.out
          · go_wp2_with fail
            refine (hay _).mono ?_
            rintro e w6 ⟨⟨ry, rfl, fry, wry⟩, h6⟩
            subst h6
            cases q2 : (FloatKind.f64.format.order ry 4517329193108106637 == some .lt)
            · have HFIN := HFN.out (.inr (.inr (far_of fry wry q2)))
              clear hax hay
              go_wp2_with fail
              go_roundg (n0 - (k + 1))
              case measure => go_light; omega
              case rel => exact HFIN.out
            · go_wp2_with fail
              go_ret
              exact ⟨rfl, HB.out⟩
      · go_wp2_with fail
        refine (hax _).mono ?_
        rintro e w6 ⟨⟨rx, rfl, frx, wrx⟩, h6⟩
        subst h6
        cases q1 : (FloatKind.f64.format.order rx 4517329193108106637 == some .lt)
        · have HFIN := HFN.out (.inr (.inl (far_of frx wrx q1)))
          clear hax hay
          go_wp2_with fail
          go_roundg (n0 - (k + 1))
          case measure => go_light; omega
          case rel => exact HFIN.out
        · go_wp2_with fail
          refine (hay _).mono ?_
          rintro e w6 ⟨⟨ry, rfl, fry, wry⟩, h6⟩
          subst h6
          cases q2 : (FloatKind.f64.format.order ry 4517329193108106637 == some .lt)
          · have HFIN := HFN.out (.inr (.inr (far_of fry wry q2)))
            clear hax hay
            go_wp2_with fail
            go_roundg (n0 - (k + 1))
            case measure => go_light; omega
            case rel => exact HFIN.out
          · go_wp2_with fail
            go_ret
            exact ⟨rfl, HB.out⟩
    · obtain rfl : k = n0 := by omega
      have HX5 : Hid (RdF W0 xa' k X) := by rw [hwr]; exact HX4.out
      have HY5 : Hid (RdF W0 ya' k Y) := by rw [hwr]; exact HY4.out
      have HD5 : Hid (RdF W0 da' n7 D) := by rw [hwr]; exact HD4.out
      have HW5 : Hid (RdF W0 wa' n7 Wt) := by rw [hwr]; exact HW4.out
      have HB5 : Hid (Below w2.heap.size w2 W0) := by rw [hwr]; exact BD.out
      clear HX4 HY4 HD4 HW4 BD hwr HWR ci
      go_wp2_with fail
      obtain ⟨d, hd⟩ : ∃ d, d = Data.mk lx ly hx hy X Y D Wt := ⟨_, rfl⟩
      rw [← hd] at HBOX HG
      have Hd : Hid (d = Data.mk lx ly hx hy X Y D Wt) := hd
      clear hd
      go_loopg [28, 29] k (L2 d k W0)
      case atStart => exact ⟨0, by omega, by omega, rfl, rfl, Below.refl _ _⟩
      case round =>
        unfold L2 at hrel
        obtain ⟨j, hj, hgj, rfl, rfl, hbw⟩ := hrel
        obtain ⟨W1, hW1⟩ : ∃ W1, W1 = wr := ⟨_, rfl⟩
        rw [← hW1] at hbw ⊢
        clear hW1
        have HBW : Hid (Below W0.heap.size W0 W1) := hbw
        have HBF : Hid (Below w2.heap.size w2 W1) := HB5.out.trans (hbw.mono HB5.out.size)
        by_cases hlt : j < k
        · obtain ⟨bx, ox, rfl, qx⟩ := (HX5.out.below hbw) j hlt
          obtain ⟨by', oy, rfl, qy⟩ := (HY5.out.below hbw) j hlt
          obtain ⟨bd, od, rfl, qd⟩ := (HD5.out.below hbw) j (by omega)
          obtain ⟨bw, ow, rfl, qw⟩ := (HW5.out.below hbw) j (by omega)
          have hrow := HG.out j hlt
          have st := steps HBOX.out (k := j) (fun i hi => HG.out i (by omega)) (by omega)
          have sE : ∀ w, (binOp .sub 36 (.float .f64 (d.r j)) (.float .f64 (D j))).run Try.prog w = .ok (.float .f64 (d.E j)) w := by have := st.sE; rw [Hd.out] at this ⊢; exact this
          have u1 : ∀ w, (binOp .mul 36 (.float .f64 (Wt j)) (.float .f64 (d.E j))).run Try.prog w = .ok (.float .f64 (mulw (Wt j) (d.E j))) w := by have := st.u1; rw [Hd.out] at this ⊢; exact this
          have u2 : ∀ w, (binOp .mul 36 (.float .f64 (mulw (Wt j) (d.E j))) (.float .f64 (d.E j))).run Try.prog w = .ok (.float .f64 (d.T j)) w := by have := st.u2; rw [Hd.out] at this ⊢; exact this
          have ad := st.ad
          have hdi : ∀ w, Calls Try.prog 16 #[.float .f64 lx, .float .f64 ly, .float .f64 (X j), .float .f64 (Y j)] w fun e w' => e = .returned (.float .f64 (d.r j)) ∧ Below w.heap.size w w' := by
            have := fun w => dist_any' d.lx d.ly (d.X j) (d.Y j) w 1094 (by omega) HBOX.out.lx HBOX.out.ly hrow.X hrow.Y
            rw [Hd.out] at this ⊢
            exact this
          have HFIN : ∀ wx, Below W0.heap.size W0 wx → Hid (L2 d k W0 (k - (j + 1)) (.float .f64 (d.SS (j + 1))) (.int .i64 ((j : Int) + 1)) wx) := fun wx hb =>
            ⟨j + 1, by omega, Nat.le_refl _, by go_num, rfl, hb⟩
          have HFN : Hid _ := HFIN
          have HQD : Hid _ := qd
          have e1 : (j : Int) < (k : Int) := by omega
          have e7 : (j : Int) < (n7 : Int) := by omega
          clear HFIN hrow st hbw
          generalize mulw (Wt j) (d.E j) = wE at u1 u2
          go_upto_region 38 with fail
          go_cut [30] from 200 to 231 (fun s30 wx => s30 = .float .f64 (d.E j) ∧ Below W1.heap.size W1 wx)
          case first =>
            go_region_with (go_at_call 16; refine (hdi _).mono ?_; rintro e wq ⟨rfl, hbq⟩; have cdq := below_cell hbq (p := ⟨bd, od + j, none⟩) HQD.out)
            all_goals
              go_wp2_with fail
              go_meet
              exact ⟨rfl, below_mid hbq ⟨rfl, rfl, rfl, Nat.le_refl _, fun _ _ => rfl⟩ ⟨rfl, rfl, rfl, Nat.le_refl _, fun _ _ => rfl⟩⟩
          case rest =>
          obtain ⟨rfl, hbx⟩ := hcut
          have qw' := below_cell hbx qw
          have HBX : Hid (Below W0.heap.size W0 wc) := HBW.out.trans (hbx.mono HBW.out.size)
          clear hdi qx qy qd qw HQD hbx
          go_wp2_with fail
          go_roundg (k - (j + 1))
          case measure => go_light; omega
          case rel => exact (HFN.out _ HBX.out).out
        · obtain rfl : j = k := by omega
          have HX6 := HX5.out.below hbw
          have HY6 := HY5.out.below hbw
          have HD6 := HD5.out.below hbw
          have HW6 := HW5.out.below hbw
          have lS := (Data.SS_le HBOX.out j HG.out (by omega)).1
          have hself : (FloatKind.f64.format.order (d.SS j) (d.SS j) == some .eq) = true := by
            have : FloatKind.f64.format.order (d.SS j) (d.SS j) = some .eq := eq_of_W lS lS rfl
            rw [this]; rfl
          cases hq : leq bar (d.SS j)
          · have hq' : (FloatKind.f64.format.order bar (d.SS j) == some .lt || FloatKind.f64.format.order bar (d.SS j) == some .eq) = false := hq
            clear hq HX6 HY6 HD6 HW6 lS hbw hself
            go_wp2_with fail
            go_ret
            exact ⟨rfl, HBF.out⟩
          · have hq' : (FloatKind.f64.format.order bar (d.SS j) == some .lt || FloatKind.f64.format.order bar (d.SS j) == some .eq) = true := hq
            have HC : Hid (Calls Try.prog 17 #[.slice xa' j xc', .slice ya' j yc', .float .f64 fr, .float .f64 lx, .float .f64 ly, .float .f64 hx, .float .f64 hy, .slice da' n7 dc', .slice wa' n7 wc', .float .f64 bar] W1 fun e w' =>
                (∃ low, e = .returned (.tuple #[.float .f64 low, .float .f64 (d.SS j)]) ∧ fin low ∧ W low = W (d.SS j)) ∧ Below W1.heap.size W1 w') := by
              have hbx := HBOX.out
              have hgg := HG.out
              rw [Hd.out] at hbx hgg hq ⊢
              exact zzbound_any (Data.mk lx ly hx hy X Y D Wt) j n7 fr bar xc' yc' dc' wc' xa' ya' da' wa' W1 (by omega) (by omega) (by omega) hbx hgg HX6 HY6 HD6 HW6 hq
            have HLS : Hid (fin (d.SS j)) := lS
            clear hq HX6 HY6 HD6 HW6 lS hbw
            go_wp2_with fail
            refine (HC.out).mono ?_
            rintro e w7 ⟨⟨low, rfl, fl1, wl⟩, hb7⟩
            have hlow : (FloatKind.f64.format.order low (d.SS j) == some .eq) = true := by
              have : FloatKind.f64.format.order low (d.SS j) = some .eq := eq_of_W fl1 HLS.out wl
              rw [this]; rfl
            clear HC fl1 wl
            go_wp2_with fail
            go_ret
            exact ⟨rfl, HBF.out.trans (hb7.mono HBF.out.size)⟩
end Go.Proofs.Qxb6616528a
