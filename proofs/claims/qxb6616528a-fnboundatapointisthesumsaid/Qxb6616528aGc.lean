/-
  SEAT b6616528a: the walk of bound.
-/
import Derived.Test.Qxb6616528aGb
set_option linter.unusedSimpArgs false
set_option exponentiation.threshold 5000
set_option maxRecDepth 8000
namespace Go.Proofs.Qxb6616528a
open Go.ChangeShapes Go.WideShapes Go.ChangeAt Go.RowKit
open Fl

abbrev fl (x : Nat) : Value := .float .f64 x
structure Mem (d : Data) (b5 b10 b13 b14 cur sx sy : Nat) (w : World) : Prop where
  h5 : w.heap[b5]? = some (.cells #[fl d.lx, fl d.ly, fl d.hx, fl d.hy] 56 (0, 0))
  h10 : w.heap[b10]? = some (.cells #[fl d.cx, fl d.cy] 45 (0, 0))
  h13 : w.heap[b13]? = some (.cells #[fl cur] 36 (0, 0))
  h14 : w.heap[b14]? = some (.cells #[fl sx, fl sy] 45 (0, 0))
theorem heap_lt {w : World} {b : Nat} {o : Obj} (h : w.heap[b]? = some o) : b < w.heap.size := (Array.getElem?_eq_some_iff.1 h).1
theorem below_heap {w w' : World} {b : Nat} {o : Obj} (h : Below w.heap.size w w') (hb : w.heap[b]? = some o) : w'.heap[b]? = some o := by
  rw [h.block b (heap_lt hb)]; exact hb
theorem heap_new (w : World) (o : Obj) : (w.alloc o).heap[w.heap.size]? = some o := by
  show (w.heap.push o)[w.heap.size]? = some o
  exact Array.getElem?_push_size
theorem heap_old {w : World} {b : Nat} {x : Obj} (h : w.heap[b]? = some x) (o : Obj) : (w.alloc o).heap[b]? = some x := below_heap ((Below.refl _ _).alloc (Nat.le_refl _) o) h
theorem row_frozen {w : World} {b : Nat} {cs : Array Value} {t : TypeId} (h : w.heap[b]? = some (.cells cs t (0, 0))) (i : Nat) : w.frozen? ⟨b, i, none⟩ = false := by
  unfold World.frozen?
  rw [h]
  simp
theorem row_cell {w : World} {b i : Nat} {cs : Array Value} {t : TypeId} {v : Value} (h : w.heap[b]? = some (.cells cs t (0, 0))) (hv : cs[i]? = some v) : w.cell? ⟨b, i, none⟩ = some v := by
  rw [cell_of_row _ _ _ _ _ _ h]; exact hv
theorem below_cell {w w' : World} (h : Below w.heap.size w w') {p : Addr} {v : Value} (hc : w.cell? p = some v) : w'.cell? p = some v := by
  rw [h.cell (World.block_lt_of_cell? _ _ hc)]; exact hc
theorem alloc_cell {w : World} {p : Addr} {v : Value} (hc : w.cell? p = some v) (o : Obj) : (w.alloc o).cell? p = some v := below_cell ((Below.refl _ _).alloc (Nat.le_refl _) o) hc
section
variable {d : Data} {b5 b10 b13 b14 cur sx sy : Nat} {w : World}
theorem Mem.below {w' : World} (m : Mem d b5 b10 b13 b14 cur sx sy w) (h : Below w.heap.size w w') : Mem d b5 b10 b13 b14 cur sx sy w' :=
  ⟨below_heap h m.h5, below_heap h m.h10, below_heap h m.h13, below_heap h m.h14⟩
theorem Mem.a0 (m : Mem d b5 b10 b13 b14 cur sx sy w) : w.cell? ⟨b5, 0, none⟩ = some (fl d.lx) := row_cell m.h5 rfl
theorem Mem.a1 (m : Mem d b5 b10 b13 b14 cur sx sy w) : w.cell? ⟨b5, 1, none⟩ = some (fl d.ly) := row_cell m.h5 rfl
theorem Mem.a2 (m : Mem d b5 b10 b13 b14 cur sx sy w) : w.cell? ⟨b5, 2, none⟩ = some (fl d.hx) := row_cell m.h5 rfl
theorem Mem.a3 (m : Mem d b5 b10 b13 b14 cur sx sy w) : w.cell? ⟨b5, 3, none⟩ = some (fl d.hy) := row_cell m.h5 rfl
theorem Mem.c0 (m : Mem d b5 b10 b13 b14 cur sx sy w) : w.cell? ⟨b10, 0, none⟩ = some (fl d.cx) := row_cell m.h10 rfl
theorem Mem.c1 (m : Mem d b5 b10 b13 b14 cur sx sy w) : w.cell? ⟨b10, 1, none⟩ = some (fl d.cy) := row_cell m.h10 rfl
theorem Mem.q (m : Mem d b5 b10 b13 b14 cur sx sy w) : w.cell? ⟨b13, 0, none⟩ = some (fl cur) := row_cell m.h13 rfl
theorem Mem.s0 (m : Mem d b5 b10 b13 b14 cur sx sy w) : w.cell? ⟨b14, 0, none⟩ = some (fl sx) := row_cell m.h14 rfl
theorem Mem.s1 (m : Mem d b5 b10 b13 b14 cur sx sy w) : w.cell? ⟨b14, 1, none⟩ = some (fl sy) := row_cell m.h14 rfl
theorem heap_set {w : World} {b i : Nat} {cs : Array Value} {t : TypeId} (h : w.heap[b]? = some (.cells cs t (0, 0))) (v : Value) : (w.setCell ⟨b, i, none⟩ v).heap[b]? = some (.cells (cs.setIfInBounds i v) t (0, 0)) := by
  unfold World.setCell
  simp only [Array.getElem?_modify, if_true, h, Option.map_some, Option.isSome_none, Bool.false_eq_true, if_false]
theorem heap_far {w : World} {b b' i : Nat} (v : Value) (hne : b ≠ b') : (w.setCell ⟨b', i, none⟩ v).heap[b]? = w.heap[b]? := Below.heap_setCell _ _ _ _ hne
theorem Mem.set13 (m : Mem d b5 b10 b13 b14 cur sx sy w) (x : Nat) (h1 : b5 ≠ b13) (h2 : b10 ≠ b13) (h3 : b14 ≠ b13) : Mem d b5 b10 b13 b14 x sx sy (w.setCell ⟨b13, 0, none⟩ (fl x)) :=
  ⟨(heap_far _ h1).trans m.h5, (heap_far _ h2).trans m.h10, heap_set m.h13 _, (heap_far _ h3).trans m.h14⟩
theorem Mem.set14x (m : Mem d b5 b10 b13 b14 cur sx sy w) (x : Nat) (h1 : b5 ≠ b14) (h2 : b10 ≠ b14) (h3 : b13 ≠ b14) : Mem d b5 b10 b13 b14 cur x sy (w.setCell ⟨b14, 0, none⟩ (fl x)) :=
  ⟨(heap_far _ h1).trans m.h5, (heap_far _ h2).trans m.h10, (heap_far _ h3).trans m.h13, heap_set m.h14 _⟩
theorem Mem.set14y (m : Mem d b5 b10 b13 b14 cur sx sy w) (x : Nat) (h1 : b5 ≠ b14) (h2 : b10 ≠ b14) (h3 : b13 ≠ b14) : Mem d b5 b10 b13 b14 cur sx x (w.setCell ⟨b14, 1, none⟩ (fl x)) :=
  ⟨(heap_far _ h1).trans m.h5, (heap_far _ h2).trans m.h10, (heap_far _ h3).trans m.h13, heap_set m.h14 _⟩
theorem mem_start {w2 : World} (h : Below (w.alloc (.cells #[fl d.lx, fl d.ly, fl d.hx, fl d.hy] 56)).heap.size (w.alloc (.cells #[fl d.lx, fl d.ly, fl d.hx, fl d.hy] 56)) w2) :
    Mem d w.heap.size w2.heap.size (w2.heap.size + 1) (w2.heap.size + 1 + 1) 0 0 0 (((w2.alloc (.cells #[fl (cen d.lx d.hx), fl (cen d.ly d.hy)] 45)).alloc (.cells #[fl 0] 36)).alloc (.cells #[fl 0, fl 0] 45)) := by
  refine ⟨heap_old (heap_old (heap_old (below_heap h (heap_new _ _)) _) _) _, heap_old (heap_old (heap_new _ _) _) _, ?_, ?_⟩
  · refine heap_old ?_ _
    have := heap_new (w2.alloc (.cells #[fl (cen d.lx d.hx), fl (cen d.ly d.hy)] 45)) (.cells #[fl 0] 36)
    simpa using this
  · have := heap_new ((w2.alloc (.cells #[fl (cen d.lx d.hx), fl (cen d.ly d.hy)] 45)).alloc (.cells #[fl 0] 36)) (.cells #[fl 0, fl 0] 45)
    simpa using this
end
/-- Rows of two floats an element. -/
def Rd2 (w : World) (b n : Nat) (X Y : Nat → Nat) : Prop := ∀ i, i < n → w.cell? ⟨b, i * 2, none⟩ = some (.float .f64 (X i)) ∧ w.cell? ⟨b, i * 2 + 1, none⟩ = some (.float .f64 (Y i))

theorem LeK_zero (c : Nat) : LeK 0 0 c := ⟨fin_zero rfl, by show V 0 ≤ _; rw [V_zero]; exact Nat.zero_le _⟩
theorem LeK_step {x k c : Nat} (h : LeK x k c) : LeK x (k + 1) c := ⟨h.1, Nat.le_trans h.2 (Nat.mul_le_mul_right _ (by omega))⟩
/-- What a round reckons, in the walk's form. -/
structure Steps (d : Data) (k : Nat) : Prop where
  sE : ∀ w, (binOp .sub 36 (.float .f64 (d.r k)) (.float .f64 (d.D k))).run Try.prog w = .ok (.float .f64 (d.E k)) w
  sE' : ∀ w, (binOp .sub 36 (.float .f64 (d.D k)) (.float .f64 (d.r k))).run Try.prog w = .ok (.float .f64 (subw (d.D k) (d.r k))) w
  mx : ∀ w, (Builtin.max_ #[36, 36, 36] 36 #[.float .f64 (d.E k), .float .f64 (subw (d.D k) (d.r k)), .float .f64 0]).run Try.prog w = .ok (.float .f64 (d.miss k)) w
  m1 : ∀ w, (binOp .mul 36 (.float .f64 (d.Wt k)) (.float .f64 (d.miss k))).run Try.prog w = .ok (.float .f64 (mulw (d.Wt k) (d.miss k))) w
  m2 : ∀ w, (binOp .mul 36 (.float .f64 (mulw (d.Wt k) (d.miss k))) (.float .f64 (d.miss k))).run Try.prog w = .ok (.float .f64 (d.T k)) w
  u1 : ∀ w, (binOp .mul 36 (.float .f64 (d.Wt k)) (.float .f64 (d.E k))).run Try.prog w = .ok (.float .f64 (mulw (d.Wt k) (d.E k))) w
  u2 : ∀ w, (binOp .mul 36 (.float .f64 (mulw (d.Wt k) (d.E k))) (.float .f64 (d.E k))).run Try.prog w = .ok (.float .f64 (d.T k)) w
  ad : ∀ w, (binOp .add 36 (.float .f64 (d.SS k)) (.float .f64 (d.T k))).run Try.prog w = .ok (.float .f64 (d.SS (k + 1))) w
theorem steps {d : Data} (hb : d.Box) {k : Nat} (hr : ∀ i, i < k + 1 → d.Row i) (hk : k + 1 ≤ 32768) : Steps d k := by
  have hi := hr k (by omega)
  have lr := Data.r_le hb hi
  have lE := Data.E_le hb hi
  have lD := hi.D.mono (c' := 1096) (by omega)
  have lm := Data.miss_le hb hi
  have lS := Data.SS_le hb k (fun i hi => hr i (by omega)) (by omega)
  refine ⟨run_sub (sub_w lr.1 lD.1), run_sub (sub_w lD.1 lr.1), run_max_3 lE.1 (lD.sub lr (by omega)).1 (fin_zero rfl) _ _, run_mul (mul_w hi.Wt.1 lm.1), ?_, run_mul (mul_w hi.Wt.1 lE.1), run_mul (mul_w (Data.wE_le hb hi).1 lE.1), run_add (add_w lS.1 (Data.T_le hb hi).1)⟩
  have h := run_mul (mul_w (Data.wm_le hb hi).1 lm.1)
  rw [Data.T_miss] at h
  exact h
def tx (d : Data) (k p : Nat) : Nat := mulw (mulw (mulw twoW (d.Wt k)) p) (subw d.cx (d.X k))
def ty (d : Data) (k p : Nat) : Nat := mulw (mulw (mulw twoW (d.Wt k)) p) (subw d.cy (d.Y k))
structure Slopes (d : Data) (k p sx sy : Nat) : Prop where
  w2 : ∀ w, (binOp .mul 36 (.float .f64 4611686018427387904) (.float .f64 (d.Wt k))).run Try.prog w = .ok (.float .f64 (mulw twoW (d.Wt k))) w
  wp : ∀ w, (binOp .mul 36 (.float .f64 (mulw twoW (d.Wt k))) (.float .f64 p)).run Try.prog w = .ok (.float .f64 (mulw (mulw twoW (d.Wt k)) p)) w
  dx : ∀ w, (binOp .sub 36 (.float .f64 d.cx) (.float .f64 (d.X k))).run Try.prog w = .ok (.float .f64 (subw d.cx (d.X k))) w
  dy : ∀ w, (binOp .sub 36 (.float .f64 d.cy) (.float .f64 (d.Y k))).run Try.prog w = .ok (.float .f64 (subw d.cy (d.Y k))) w
  tx : ∀ w, (binOp .mul 36 (.float .f64 (mulw (mulw twoW (d.Wt k)) p)) (.float .f64 (subw d.cx (d.X k)))).run Try.prog w = .ok (.float .f64 (tx d k p)) w
  ty : ∀ w, (binOp .mul 36 (.float .f64 (mulw (mulw twoW (d.Wt k)) p)) (.float .f64 (subw d.cy (d.Y k)))).run Try.prog w = .ok (.float .f64 (ty d k p)) w
  ax : ∀ w, (binOp .add 36 (.float .f64 sx) (.float .f64 (Proofs.Qxb6616528a.tx d k p))).run Try.prog w = .ok (.float .f64 (addw sx (Proofs.Qxb6616528a.tx d k p))) w
  ay : ∀ w, (binOp .add 36 (.float .f64 sy) (.float .f64 (Proofs.Qxb6616528a.ty d k p))).run Try.prog w = .ok (.float .f64 (addw sy (Proofs.Qxb6616528a.ty d k p))) w
  lx : LeK (addw sx (Proofs.Qxb6616528a.tx d k p)) (k + 1) 1157
  ly : LeK (addw sy (Proofs.Qxb6616528a.ty d k p)) (k + 1) 1157
theorem slopes {d : Data} (hb : d.Box) {k p sx sy : Nat} (hi : d.Row k) (hk : k + 1 ≤ 32768) (hp : Le p 1115) (hx : LeK sx k 1157) (hy : LeK sy k 1157) : Slopes d k p sx sy := by
  have l1 := Data.sx_le hb hi hp
  have l2 := Data.sy_le hb hi hp
  have lw := Data.w2_le hi
  have lp := Data.w2p_le hi hp
  have dx := hb.cx.1.sub hi.X (by omega)
  have dy := hb.cy.1.sub hi.Y (by omega)
  exact ⟨run_mul (mul_w fin_twoW hi.Wt.1), run_mul (mul_w lw.1 hp.1), run_sub (sub_w hb.cx.1.1 hi.X.1), run_sub (sub_w hb.cy.1.1 hi.Y.1), run_mul (mul_w lp.1 dx.1), run_mul (mul_w lp.1 dy.1), run_add (add_w hx.1 l1.1), run_add (add_w hy.1 l2.1), hx.add l1 (by omega) (by omega), hy.add l2 (by omega) (by omega)⟩
structure Curves (d : Data) (k cur : Nat) : Prop where
  dv : ∀ w, (binOp .quo 36 (.float .f64 (d.D k)) (.float .f64 (d.r k))).run Try.prog w = .ok (.float .f64 (divw (d.D k) (d.r k))) w
  sb : ∀ w, (binOp .sub 36 (.float .f64 4607182418800017408) (.float .f64 (divw (d.D k) (d.r k)))).run Try.prog w = .ok (.float .f64 (subw Data.one (divw (d.D k) (d.r k)))) w
  mw : ∀ w, (binOp .mul 36 (.float .f64 (d.Wt k)) (.float .f64 (subw Data.one (divw (d.D k) (d.r k))))).run Try.prog w = .ok (.float .f64 (mulw (d.Wt k) (subw Data.one (divw (d.D k) (d.r k))))) w
  ac : ∀ w, (binOp .add 36 (.float .f64 cur) (.float .f64 (mulw (d.Wt k) (subw Data.one (divw (d.D k) (d.r k)))))).run Try.prog w = .ok (.float .f64 (addw cur (mulw (d.Wt k) (subw Data.one (divw (d.D k) (d.r k)))))) w
  lc : LeK (addw cur (mulw (d.Wt k) (subw Data.one (divw (d.D k) (d.r k))))) (k + 1) 1135
theorem curves {d : Data} (hb : d.Box) {k cur : Nat} (hi : d.Row k) (hk : k + 1 ≤ 32768) (h0 : rg (d.r k) ≠ 0) (hc : LeK cur k 1135) : Curves d k cur := by
  have lq := Data.q_le hb hi h0
  have lp := Data.pull_le hb hi h0
  have lw := Data.wp_le hb hi h0
  exact ⟨run_div (div_w hi.D.1 (Data.r_le hb hi).1 h0), run_sub (sub_w Data.one_le.1 lq.1), run_mul (mul_w hi.Wt.1 lp.1), run_add (add_w hc.1 lw.1), hc.add lw (by omega) (by omega)⟩
theorem curve_flat {d : Data} {k cur : Nat} (hi : d.Row k) (hk : k + 1 ≤ 32768) (hc : LeK cur k 1135) :
    (∀ w, (binOp .add 36 (.float .f64 cur) (.float .f64 (d.Wt k))).run Try.prog w = .ok (.float .f64 (addw cur (d.Wt k))) w) ∧ LeK (addw cur (d.Wt k)) (k + 1) 1135 :=
  ⟨run_add (add_w hc.1 hi.Wt.1), hc.add (hi.Wt.mono (by omega)) (by omega) (by omega)⟩
theorem r_ne {d : Data} {k : Nat} (h : (FloatKind.f64.format.order (d.r k) 0 == some .eq) = false) (hf : fin (d.r k)) : rg (d.r k) ≠ 0 := by
  intro h0
  have : FloatKind.f64.format.order (d.r k) 0 = some .eq := eq_of_W hf (fin_zero (x := 0) rfl) (by rw [W_zero h0, W_zero (x := 0) rfl])
  rw [this] at h
  simp at h
def BR (d : Data) (n B0 b5 b10 b13 b14 : Nat) (w0 : World) (gk : Nat) (r11 r12 r9 i : Value) (wr : World) : Prop :=
  ∃ k cur sx sy : Nat, k ≤ n ∧ n - k ≤ gk ∧ i = .int .i64 k ∧ r11 = .float .f64 (d.SS k) ∧ r12 = .float .f64 (d.SS k) ∧ r9 = .float .f64 (d.SS k) ∧
    Mem d b5 b10 b13 b14 cur sx sy wr ∧ LeK cur k 1135 ∧ LeK sx k 1157 ∧ LeK sy k 1157 ∧ sx < 2 * S ∧ sy < 2 * S ∧ Below B0 w0 wr

set_option maxHeartbeats 1000000 in
theorem bound_any (d : Data) (n m bm om bL bF bar : Nat) (w : World) (hn : n ≤ 32768) (hm : n ≤ m) (hmm : m ≤ 32768)
    (hb : d.Box) (hr : ∀ i, i < n → d.Row i)
    (hmap : w.cell? ⟨bm, om, none⟩ = some (.slice (some ⟨bL, 0, none⟩) n n))
    (hL : Rd2 w bL n d.X d.Y) (hF : Rd2 w bF m d.D d.Wt) (hbar : leq bar (d.SS n) = true) :
    Calls Try.prog 21 #[.pointer (some ⟨bm, om, none⟩), boxV d.lx d.ly d.hx d.hy, .slice (some ⟨bF, 0, none⟩) m m, .float .f64 bar] w fun e w' =>
      (∃ low, e = .returned (.tuple #[.float .f64 low, .float .f64 (d.SS n)]) ∧ fin low ∧ W low = W (d.SS n)) ∧ Below w.heap.size w w' := by
  have HB : Hid (Below w.heap.size w w) := (Below.refl _ _)
  have hcen := fun w => centre_any d.lx d.ly d.hx d.hy w hb.lx hb.ly hb.hx hb.hy
  unfold boxV at hcen ⊢
  go_enter Try.func21, Try.ntmps21
  go_wp2_with fail
  refine (hcen _).mono ?_
  rintro e w2 ⟨rfl, hb2⟩
  clear hcen
  have hmapB : bm < w.heap.size := World.block_lt_of_cell? _ _ hmap
  have HB2 : Hid (Below w.heap.size w w2) := ((Below.refl _ _).alloc (Nat.le_refl _) _).trans (hb2.mono (by simp))
  have hmap2 : w2.cell? ⟨bm, om, none⟩ = some (.slice (some ⟨bL, 0, none⟩) n n) := by rw [HB2.out.cell (p := ⟨bm, om, none⟩) hmapB]; exact hmap
  have hmap3 := fun o1 o2 o3 => alloc_cell (alloc_cell (alloc_cell hmap2 o1) o2) o3
  have HMEM : Hid _ := mem_start (d := d) hb2
  have HSS0 : Hid (d.SS 0 = 0) := rfl
  go_wp2_with fail
  generalize hWs : (((w2.alloc (.cells #[fl (cen d.lx d.hx), fl (cen d.ly d.hy)] 45)).alloc (.cells #[fl 0] 36)).alloc (.cells #[fl 0, fl 0] 45)) = ws at HMEM ⊢
  have HBs : Hid (Below w.heap.size w ws) := by
    rw [← hWs]
    exact ((HB2.out.alloc HB2.out.size _).alloc (by have := HB2.out.size; simp; omega) _).alloc (by have := HB2.out.size; simp; omega) _
  clear hWs HB hmap3 hmap2 hmapB hmap
  have HBK : Hid (w.heap.size < w2.heap.size) := by have := hb2.size; simp at this; exact this
  generalize w2.heap.size = h2 at HMEM HBK ⊢
  clear HB2 hb2
  clear w2
  go_loopg [11, 12, 9, 32] n (BR d n w.heap.size w.heap.size h2 (h2 + 1) (h2 + 1 + 1) w)
  case atStart =>
    exact ⟨0, 0, 0, 0, by omega, by omega, rfl, rfl, rfl, rfl, HMEM.out, LeK_zero _, LeK_zero _, LeK_zero _, by decide, by decide, HBs.out⟩
  case round =>
    unfold BR at hrel
    obtain ⟨k, cur, sx, sy, hk, hgk, rfl, rfl, rfl, rfl, hM, hcu, hsx, hsy, hsxS, hsyS, hbw⟩ := hrel
    obtain ⟨W0, rfl⟩ : ∃ W0, W0 = wr := ⟨_, rfl⟩
    by_cases hlt : k < n
    · have hi := hr k hlt
      have HST : Hid (Steps d k) := steps hb (fun i hi => hr i (by omega)) (by omega)
      obtain ⟨sE, sE', mx, m1, m2, u1, u2, ad⟩ := HST.out
      have hdis := fun w => distances_any d.lx d.ly d.hx d.hy (d.X k) (d.Y k) w hb.lx hb.ly hb.hx hb.hy hi.X hi.Y hb.ex hb.ey
      have hdi2 := fun w => dist_any d.cx d.cy (d.X k) (d.Y k) w 1094 (by omega) hb.cx.1 hb.cy.1 hi.X hi.Y
      rw [hb.r_centre] at hdi2
      unfold boxV at hdis
      have hr0 : dist d.lx d.ly (d.X k) (d.Y k) = d.r k := rfl
      rw [hr0] at hdis
      obtain ⟨l0, l1⟩ := hL k hlt
      obtain ⟨q0, q1⟩ := hF k (by omega)
      have l0' := (hbw.cell (p := ⟨bL, k * 2, none⟩) (World.block_lt_of_cell? _ _ l0)).trans l0
      have l1' := (hbw.cell (p := ⟨bL, k * 2 + 1, none⟩) (World.block_lt_of_cell? _ _ l1)).trans l1
      have q0' := fun o => alloc_cell ((hbw.cell (p := ⟨bF, k * 2, none⟩) (World.block_lt_of_cell? _ _ q0)).trans q0) o
      have q1' := fun o => alloc_cell ((hbw.cell (p := ⟨bF, k * 2 + 1, none⟩) (World.block_lt_of_cell? _ _ q1)).trans q1) o
      have a0 := fun o => alloc_cell hM.a0 o
      have a1 := fun o => alloc_cell hM.a1 o
      have a2 := fun o => alloc_cell hM.a2 o
      have a3 := fun o => alloc_cell hM.a3 o
      have HM : Hid (Mem d w.heap.size h2 (h2 + 1) (h2 + 1 + 1) cur sx sy W0) := hM
      have HW : Hid (Below w.heap.size w W0) := hbw
      have HL : Hid (LeK cur k 1135 ∧ LeK sx k 1157 ∧ LeK sy k 1157 ∧ sx < 2 * S ∧ sy < 2 * S) := ⟨hcu, hsx, hsy, hsxS, hsyS⟩
      have HR : Hid (d.Row k) := hi
      have HBX : Hid (d.Box) := hb
      have HB1 : Hid (leq bar (d.SS n) = true) := hbar
      have HAL : Hid (∀ i, i < n → d.Row i) := hr
      have HLL : Hid (Rd2 w bL n d.X d.Y) := hL
      have HFF : Hid (Rd2 w bF m d.D d.Wt) := hF
      clear hM hbw hcu hsx hsy hsxS hsyS hi hb hbar hr hL hF l0 l1 q0 q1 HST hr0
      have f1 : (k : Int) < (n : Int) := by omega
      have f2 : (k : Int) < (m : Int) := by omega
      go_wp2_with fail
      go_quiet (fail)
      clear q0' q1' l0' l1'
      have HN : Hid (Below W0.heap.size W0 ((W0.alloc (.cells #[fl (d.X k), fl (d.Y k)] 45)).drewN nq) ∧ ((W0.alloc (.cells #[fl (d.X k), fl (d.Y k)] 45)).drewN nq).heap[W0.heap.size]? = some (.cells #[fl (d.X k), fl (d.Y k)] 45 (0, 0))) :=
        ⟨below_drewN ((Below.refl _ _).alloc (Nat.le_refl _) _) _, heap_new _ _⟩
      go_wp2_with fail
      refine (hdis _).mono ?_
      rintro e w3 ⟨rfl, hb3⟩
      have HM3 : Hid (Mem d w.heap.size h2 (h2 + 1) (h2 + 1 + 1) cur sx sy w3) := (HM.out.below HN.out.1).below hb3
      have H16 : Hid (w3.heap[W0.heap.size]? = some (.cells #[fl (d.X k), fl (d.Y k)] 45 (0, 0))) := below_heap hb3 HN.out.2
      have HW3 : Hid (Below w.heap.size w w3) := (HW.out.trans (HN.out.1.mono HW.out.size)).trans (hb3.mono (Nat.le_trans HW.out.size HN.out.1.size))
      have HNE : Hid (h2 + 1 + 1 < W0.heap.size) := heap_lt HM.out.h14
      generalize W0.heap.size = b16 at H16 HNE ⊢
      clear HM HN HW hb3 hdis a0 a1 a2 a3
      clear nq
      clear W0
      have c0 := HM3.out.c0
      have c1 := HM3.out.c1
      have x0 : w3.cell? ⟨b16, 0, none⟩ = some (.float .f64 (d.X k)) := row_cell H16.out rfl
      have x1 : w3.cell? ⟨b16, 1, none⟩ = some (.float .f64 (d.Y k)) := row_cell H16.out rfl
      go_wp2_with fail
      refine (hdi2 _).mono ?_
      rintro e w4 ⟨rfl, hb4⟩
      have HM4 : Hid (Mem d w.heap.size h2 (h2 + 1) (h2 + 1 + 1) cur sx sy w4) := HM3.out.below hb4
      have H164 : Hid (w4.heap[b16]? = some (.cells #[fl (d.X k), fl (d.Y k)] 45 (0, 0))) := below_heap hb4 H16.out
      have HW4 : Hid (Below w.heap.size w w4) := HW3.out.trans (hb4.mono HW3.out.size)
      clear HM3 H16 HW3 hb4 hdi2 c0 c1 x0 x1
      clear w3
      have finish : ∀ cur' sx' sy' (wx : World), Mem d w.heap.size h2 (h2 + 1) (h2 + 1 + 1) cur' sx' sy' wx → LeK cur' (k + 1) 1135 → LeK sx' (k + 1) 1157 → LeK sy' (k + 1) 1157 → sx' < 2 * S → sy' < 2 * S → Below w.heap.size w wx →
          Hid (BR d n w.heap.size w.heap.size h2 (h2 + 1) (h2 + 1 + 1) w (n - (k + 1)) (.float .f64 (d.SS (k + 1))) (.float .f64 (d.SS (k + 1))) (.float .f64 (d.SS (k + 1))) (.int .i64 ((k : Int) + 1)) wx) :=
        fun cur' sx' sy' wx p1 p2 p3 p4 p5 p6 p7 => ⟨k + 1, cur', sx', sy', by omega, Nat.le_refl _, by go_num, rfl, rfl, rfl, p1, p2, p3, p4, p5, p6, p7⟩
      obtain ⟨hcu, hsx, hsy, hsxS, hsyS⟩ := HL.out
      cases hD : (FloatKind.f64.format.order (d.D k) 0 == some .gt)
      · obtain ⟨ac, lc⟩ := curve_flat HR.out (by omega) hcu
        obtain ⟨w2, wp, dx, dy, tx', ty', ax, ay, lx, ly⟩ := slopes (p := Data.one) HBX.out HR.out (by omega) (Data.one_le.mono (by omega)) hsx hsy
        rw [show (Value.float .f64 Data.one) = Value.float .f64 4607182418800017408 from rfl] at wp
        have n1 : w.heap.size ≠ h2 + 1 := by have := HBK.out; omega
        have n2 : w.heap.size ≠ h2 + 1 + 1 := by have := HBK.out; omega
        have M5 := HM4.out.set13 (addw cur (d.Wt k)) n1 (by omega) (by omega)
        have M6 := M5.set14x (addw sx (tx d k Data.one)) n2 (by omega) (by omega)
        have M7 := M6.set14y (addw sy (ty d k Data.one)) n2 (by omega) (by omega)
        have HX5 := (heap_far (w := w4) (i := 0) (fl (addw cur (d.Wt k))) (b := b16) (b' := h2 + 1) (by have := HNE.out; omega)).trans H164.out
        have HX6 := (heap_far (w := w4.setCell ⟨h2 + 1, 0, none⟩ (fl (addw cur (d.Wt k)))) (i := 0) (fl (addw sx (tx d k Data.one))) (b := b16) (b' := h2 + 1 + 1) (by have := HNE.out; omega)).trans HX5
        have HWB := ((HW4.out.setCell (p := ⟨h2 + 1, 0, none⟩) (by have := HBK.out; show _ ≤ h2 + 1; omega) (fl (addw cur (d.Wt k)))).setCell (p := ⟨h2 + 1 + 1, 0, none⟩) (by have := HBK.out; show _ ≤ h2 + 1 + 1; omega) (fl (addw sx (tx d k Data.one)))).setCell (p := ⟨h2 + 1 + 1, 1, none⟩) (by have := HBK.out; show _ ≤ h2 + 1 + 1; omega) (fl (addw sy (ty d k Data.one)))
        have HFIN := finish _ _ _ _ M7 lc lx ly (addw_lt _ _) (addw_lt _ _) HWB
        have g0 := HM4.out.q
        have g1 := row_frozen HM4.out.h13 0
        have g2 := M5.s0
        have g3 := row_frozen M5.h14 0
        have g4 := M5.c0
        have g5 : (w4.setCell ⟨h2 + 1, 0, none⟩ (fl (addw cur (d.Wt k)))).cell? ⟨b16, 0, none⟩ = some (fl (d.X k)) := row_cell HX5 rfl
        have g6 := M6.s1
        have g7 := row_frozen M6.h14 1
        have g8 := M6.c1
        have g9 : ((w4.setCell ⟨h2 + 1, 0, none⟩ (fl (addw cur (d.Wt k)))).setCell ⟨h2 + 1 + 1, 0, none⟩ (fl (addw sx (tx d k Data.one)))).cell? ⟨b16, 1, none⟩ = some (fl (d.Y k)) := row_cell HX6 rfl
        clear finish hcu hsx hsy hsxS hsyS HL M5 M6 M7 HX5 HX6 HWB lc lx ly n1 n2 HM4 H164 HW4
        go_wp2_with fail
        go_roundg (n - (k + 1))
        case measure => go_light; omega
        case rel => exact HFIN.out
      cases hN : (FloatKind.f64.format.order (d.r k) 0 == some .eq)
      · have hne0 := r_ne hN (Data.r_le HBX.out HR.out).1
        obtain ⟨dv, sb, mw, ac, lc⟩ := curves HBX.out HR.out (by omega) hne0 hcu
        obtain ⟨w2, wp, dx, dy, tx', ty', ax, ay, lx, ly⟩ := slopes (p := subw Data.one (divw (d.D k) (d.r k))) HBX.out HR.out (by omega) (Data.pull_le HBX.out HR.out hne0) hsx hsy
        have n1 : w.heap.size ≠ h2 + 1 := by have := HBK.out; omega
        have n2 : w.heap.size ≠ h2 + 1 + 1 := by have := HBK.out; omega
        have M5 := HM4.out.set13 (addw cur (mulw (d.Wt k) (subw Data.one (divw (d.D k) (d.r k))))) n1 (by omega) (by omega)
        have M6 := M5.set14x (addw sx (tx d k (subw Data.one (divw (d.D k) (d.r k))))) n2 (by omega) (by omega)
        have M7 := M6.set14y (addw sy (ty d k (subw Data.one (divw (d.D k) (d.r k))))) n2 (by omega) (by omega)
        have HX5 := (heap_far (w := w4) (i := 0) (fl (addw cur (mulw (d.Wt k) (subw Data.one (divw (d.D k) (d.r k)))))) (b := b16) (b' := h2 + 1) (by have := HNE.out; omega)).trans H164.out
        have HX6 := (heap_far (w := w4.setCell ⟨h2 + 1, 0, none⟩ (fl (addw cur (mulw (d.Wt k) (subw Data.one (divw (d.D k) (d.r k))))))) (i := 0) (fl (addw sx (tx d k (subw Data.one (divw (d.D k) (d.r k)))))) (b := b16) (b' := h2 + 1 + 1) (by have := HNE.out; omega)).trans HX5
        have HWB := ((HW4.out.setCell (p := ⟨h2 + 1, 0, none⟩) (by have := HBK.out; show _ ≤ h2 + 1; omega) (fl (addw cur (mulw (d.Wt k) (subw Data.one (divw (d.D k) (d.r k))))))).setCell (p := ⟨h2 + 1 + 1, 0, none⟩) (by have := HBK.out; show _ ≤ h2 + 1 + 1; omega) (fl (addw sx (tx d k (subw Data.one (divw (d.D k) (d.r k))))))).setCell (p := ⟨h2 + 1 + 1, 1, none⟩) (by have := HBK.out; show _ ≤ h2 + 1 + 1; omega) (fl (addw sy (ty d k (subw Data.one (divw (d.D k) (d.r k))))))
        have HFIN := finish _ _ _ _ M7 lc lx ly (addw_lt _ _) (addw_lt _ _) HWB
        have g0 := HM4.out.q
        have g1 := row_frozen HM4.out.h13 0
        have g2 := M5.s0
        have g3 := row_frozen M5.h14 0
        have g4 := M5.c0
        have g5 : (w4.setCell ⟨h2 + 1, 0, none⟩ (fl (addw cur (mulw (d.Wt k) (subw Data.one (divw (d.D k) (d.r k))))))).cell? ⟨b16, 0, none⟩ = some (fl (d.X k)) := row_cell HX5 rfl
        have g6 := M6.s1
        have g7 := row_frozen M6.h14 1
        have g8 := M6.c1
        have g9 : ((w4.setCell ⟨h2 + 1, 0, none⟩ (fl (addw cur (mulw (d.Wt k) (subw Data.one (divw (d.D k) (d.r k))))))).setCell ⟨h2 + 1 + 1, 0, none⟩ (fl (addw sx (tx d k (subw Data.one (divw (d.D k) (d.r k))))))).cell? ⟨b16, 1, none⟩ = some (fl (d.Y k)) := row_cell HX6 rfl
        clear hne0 finish hcu hsx hsy hsxS hsyS HL M5 M6 M7 HX5 HX6 HWB lc lx ly n1 n2 HM4 H164 HW4
        go_wp2_with fail
        go_roundg (n - (k + 1))
        case measure => go_light; omega
        case rel => exact HFIN.out
      · have HFIN := finish cur sx sy w4 HM4.out (LeK_step hcu) (LeK_step hsx) (LeK_step hsy) hsxS hsyS HW4.out
        clear finish hcu hsx hsy hsxS hsyS HL
        go_wp2_with fail
        go_roundg (n - (k + 1))
        case measure => go_light; omega
        case rel => exact HFIN.out
    · obtain rfl : k = n := by omega
      have hmf : ∀ (fn : Fn) (first cap : Array Value) (w : World), (Instr.makeFunc fn first cap).run Try.prog w = .ok (.func fn first cap) w := fun _ _ _ _ => rfl
      have hr2 : rg twoW ≠ 0 := by rw [rg_twoW]; decide
      have sx0 := run_sub (sub_w hb.hx.1 hb.lx.1)
      have sy0 := run_sub (sub_w hb.hy.1 hb.ly.1)
      have dx0 := run_div (div_w (hb.hx.sub hb.lx (by omega)).1 fin_twoW hr2)
      have dy0 := run_div (div_w (hb.hy.sub hb.ly (by omega)).1 fin_twoW hr2)
      rw [show (Value.float .f64 twoW) = Value.float .f64 4611686018427387904 from rfl] at dx0 dy0
      have zx : rg (divw (subw d.hx d.lx) twoW) = 0 := rg_halfgap hb.ex
      have zy : rg (divw (subw d.hy d.ly) twoW) = 0 := rg_halfgap hb.ey
      have lcur : Le cur 1200 := (hcu.le (by omega)).mono (by omega)
      have cx := fun n => Calls.quiet_of (w := W0) (n := n) (least_any cur sx (divw (subw d.hx d.lx) twoW) (h2 + 1) (W0.drewN n) hM.q lcur hsx.1 hsxS zx)
      have cy := fun n => Calls.quiet_of (w := W0) (n := n) (least_any cur sy (divw (subw d.hy d.ly) twoW) (h2 + 1) (W0.drewN n) hM.q lcur hsy.1 hsyS zy)
      have zlx : rg (leastW cur sx (divw (subw d.hx d.lx) twoW)) = 0 := leastW_zero zx
      have zly : rg (leastW cur sy (divw (subw d.hy d.ly) twoW)) = 0 := leastW_zero zy
      generalize leastW cur sx (divw (subw d.hx d.lx) twoW) = px at cx zlx
      generalize leastW cur sy (divw (subw d.hy d.ly) twoW) = py at cy zly
      have lS := Data.SS_le hb k hr (by omega)
      have az : rg (addw px py) = 0 := rg_add_zeros zlx zly
      have ad1 := run_add (add_w (fin_zero zlx) (fin_zero zly))
      have ad2 := run_add (add_w lS.1 (fin_zero az))
      have fq := fin_add_zero lS.1 az
      have wq := W_add_zero lS.1 az
      generalize addw (d.SS k) (addw px py) = Q at ad2 fq wq
      generalize addw px py = pz at ad1 ad2
      have mx := run_max_2 lS.1 fq #[36, 36] 36
      have fm := fin_fmax lS.1 fq
      have wm : W (fmax (d.SS k) Q) = W (d.SS k) := by rw [W_fmax, wq]; omega
      generalize fmax (d.SS k) Q = low at mx fm wm
      have hge : (FloatKind.f64.format.order low bar == some .gt || FloatKind.f64.format.order low bar == some .eq) = true := geq_of_leq lS.1 fm wm hbar
      have a0 := hM.a0
      have a1 := hM.a1
      have a2 := hM.a2
      have a3 := hM.a3
      have s0 := hM.s0
      have s1 := hM.s1
      have HOUT : Hid (fin low ∧ W low = W (d.SS k)) := ⟨fm, wm⟩
      have HW : Hid (Below w.heap.size w W0) := hbw
      clear hM hbw hcu hsx hsy hsxS hsyS hb hbar hr hL hF zx zy zlx zly az fq wq fm wm lS lcur hr2
      generalize divw (subw d.hx d.lx) twoW = gx at dx0 cx
      generalize divw (subw d.hy d.ly) twoW = gy at dy0 cy
      generalize subw d.hx d.lx = ex at sx0 dx0
      generalize subw d.hy d.ly = ey at sy0 dy0
      have HCX : Hid _ := cx
      have HCY : Hid _ := cy
      clear cx cy
      go_wp2_with fail
      go_quiet (first | (go_at_call 25; with_reducible exact HCX.out _) | (go_at_call 25; with_reducible exact HCY.out _))
      go_wp2_with fail
      go_ret2
      exact ⟨⟨low, rfl, HOUT.out⟩, below_drewN HW.out _⟩
end Go.Proofs.Qxb6616528a
