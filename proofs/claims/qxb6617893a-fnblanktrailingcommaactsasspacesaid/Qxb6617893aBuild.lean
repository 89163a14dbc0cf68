/-
  SEAT b6617893a: how the laws' two texts are built: zzAppend and append, told by the bytes that come out.
-/
import Derived.Test.Qxb6617893aKinds
set_option linter.unusedSimpArgs false
namespace Go.Proofs.Qxb6617893a
open Go.ChangeShapes Go.WideShapes Go.ChangeAt Go.RowKit
open Plain

theorem append_abs (g k cap B : Nat) (f : Nat → Int) (a : Option Addr) (m c : Nat) (x : Nat → Int) (w : World) (hown : w.ownsRow B 5 1 (.slice (some ⟨g, 0, none⟩) k cap) k (cellsF f k)) (hm : k + m ≤ cap) (hcap : cap ≤ 4194304) (h : Rd w B a m x) :
    Calls Try.prog 13 #[.slice (some ⟨g, 0, none⟩) k cap, .slice a m c] w fun e w' => e = .returned (.slice (some ⟨g, 0, none⟩) (k + m) cap) ∧ ∃ f' : Nat → Int, (∀ i, i < k → f' i = f i) ∧ (∀ i, i < m → f' (k + i) = x i) ∧ w'.ownsRow B 5 1 (.slice (some ⟨g, 0, none⟩) (k + m) cap) (k + m) (cellsF f' (k + m)) ∧ Below g w w' := by
  refine (append_any g k cap B f a m c x w hown hm hcap (h.mono (owns_lt hown).1)).mono ?_
  rintro e w' ⟨rfl, ho, hb⟩
  refine ⟨rfl, cat f k x, fun i hi => by rw [cat, if_pos hi], fun i _ => ?_, ho, hb⟩
  rw [cat, if_neg (by omega), show k + i - k = i by omega]

theorem push1 (f : Nat → Int) (k : Nat) (p : Int) : ∃ f' : Nat → Int, (∀ i, i < k → f' i = f i) ∧ f' k = p ∧ cellsF f k ++ [.int .u8 p] = cellsF f' (k + 1) :=
  ⟨upd f k p, fun i hi => upd_ne _ _ (by omega), upd_same _ _ _, cellsF_snoc _ _ _⟩
theorem push2 (f : Nat → Int) (k : Nat) (p q : Int) : ∃ f' : Nat → Int, (∀ i, i < k → f' i = f i) ∧ f' k = p ∧ f' (k + 1) = q ∧ cellsF f k ++ [.int .u8 p, .int .u8 q] = cellsF f' (k + 2) := by
  refine ⟨upd (upd f k p) (k + 1) q, fun i hi => by rw [upd_ne _ _ (by omega), upd_ne _ _ (by omega)], by rw [upd_ne _ _ (by omega), upd_same], upd_same _ _ _, ?_⟩
  rw [← cellsF_snoc, ← cellsF_snoc]
  simp

theorem two_new (w : World) (x y : Value) (t : TypeId) : ∀ j u, [x, y][j]? = some u → (w.alloc (.cells #[x, y] t)).cell? ((⟨w.heap.size, 0, none⟩ : Addr).add j) = some u := by
  intro j u hj
  rw [add_plain]
  match j, hj with
  | 0, hj => simp at hj; subst hj; rw [World.cell?_alloc_at _ _ _ _ rfl]; rfl
  | 1, hj => simp at hj; subst hj; rw [World.cell?_alloc_at _ _ _ _ rfl]; rfl

/-- Behind an append into row g: all below g stays. -/
theorem below_app {B g : Nat} {w0 w w1 : World} {o : Obj} (hb : Below B w0 w) (hg : (w.alloc o).grownBy w1 (some g)) (hB : B ≤ g) (hl : g < w.heap.size) : Below B w0 w1 :=
  (hb.alloc (by omega) o).grown hg (by simp; omega) (by intro k hk; simp at hk; omega)
end Go.Proofs.Qxb6617893a
