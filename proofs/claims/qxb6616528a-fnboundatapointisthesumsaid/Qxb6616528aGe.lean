/-
  SEAT b6616528a: the law's copies of float slices; its guard.
-/
import Derived.Test.Qxb6616528aGd
import Derived.Deep.Cut
import Derived.Deep.CutRange
import Derived.Laws.CopyOwn
set_option linter.unusedSimpArgs false
set_option exponentiation.threshold 5000
set_option maxRecDepth 8000
namespace Go.Proofs.Qxb6616528a
open Go.ChangeShapes Go.WideShapes Go.ChangeAt Go.RowKit
open Fl

theorem info36 : (Try.prog.info? 36).map (fun i => (i.zero, i.size, i.bytes)) = some (some (.float .f64 0), 1, 8) := by kernel_rfl

def cellsF (z : Nat → Nat) (n : Nat) : List Value := (List.range n).map fun i => .float .f64 (z i)
theorem cellsF_length (z : Nat → Nat) (n : Nat) : (cellsF z n).length = n := by simp [cellsF]
theorem cellsF_get (z : Nat → Nat) (n i : Nat) (h : i < n) : (cellsF z n)[i]? = some (.float .f64 (z i)) := by simp [cellsF, h]
theorem cellsF_oneCell (z : Nat → Nat) (n : Nat) : ∀ u ∈ cellsF z n, u.oneCell' = true := by
  intro u hu
  unfold cellsF at hu
  obtain ⟨_, _, rfl⟩ := List.mem_map.1 hu
  rfl
theorem copy_fullF (w0 w : World) (B g n c : Nat) (x : Addr) (ys : List Value) (z : Nat → Nat) (hown : w.ownsRow B 36 1 (.slice (some ⟨g, 0, none⟩) n n) n ys) (hb : Below B w0 w) (h : RdF w (some x) n z) :
    ∃ w', (Builtin.copy_ #[35, 35] 3 #[.slice (some ⟨g, 0, none⟩) n n, .slice (some x) n c]).run Try.prog w = .ok (.int .i64 n) w' ∧ RdF w' (some ⟨g, 0, none⟩) n z ∧ Below B w0 w' := by
  by_cases h0 : n = 0
  · subst h0
    refine ⟨w, ?_, fun i hi => by omega, hb⟩
    exact run_copy_none (P := Try.prog) w 35 35 3 36 _ _ 0 0 0 c Try.underlying35 (by kernel_rfl) rfl
  · have hsrc : ∀ j v, (cellsF z n)[j]? = some v → w.cell? (x.add j) = some v := by
      intro j v hj
      have hjn : j < n := by
        have := (List.getElem?_eq_some_iff.1 hj).1
        rwa [cellsF_length] at this
      obtain ⟨b, off, e, hc⟩ := h j hjn
      obtain rfl := Option.some.inj e
      rw [cellsF_get _ _ _ hjn] at hj
      obtain rfl := Option.some.inj hj
      rw [add_plain]
      exact hc
    rcases hown.2 with ⟨e, _⟩ | ⟨g', cap', cur, e, h1, h2, h3, h4, h5, h6⟩
    · simp at e
    · simp only [Value.slice.injEq, Option.some.injEq, Addr.mk.injEq, and_true, true_and] at e
      obtain ⟨rfl, rfl⟩ := e
      have hrun := run_copy_row (P := Try.prog) w 35 35 3 36 g 0 n n x n c cur 36 (cellsF z n) Try.underlying35 (by kernel_rfl) h2 (by rw [cellsF_length]; exact (Nat.min_self n).symm) hsrc (by rw [cellsF_length]; omega) (cellsF_oneCell _ _)
      rw [cellsF_length] at hrun
      have hcur : cur.toList.drop (0 + n) = [] := List.drop_eq_nil_of_le (by rw [Array.length_toList]; omega)
      rw [hcur] at hrun
      simp only [List.take_zero, List.nil_append, List.append_nil] at hrun
      have hh := setRow_heap w g cur (cellsF z n).toArray 36 (0, 0) h2
      refine ⟨_, hrun, fun i hi => ?_, below_setRow hb h1 _⟩
      refine ⟨g, 0, rfl, ?_⟩
      rw [Nat.zero_add, cell_of_row _ g i _ 36 (0, 0) hh]
      have := cellsF_get z n i hi
      simpa using this
theorem bytes13_any (a b c d : Option Addr) (n0 c0 n1 c1 n7 c7 n8 c8 f2 f3 f4 f5 f6 f9 : Nat) (w : World) (h0 : n0 ≤ maxLen) (h1 : n1 ≤ maxLen) (h7 : n7 ≤ maxLen) (h8 : n8 ≤ maxLen) :
    Calls Try.prog 13 #[.slice a n0 c0, .slice b n1 c1, .float .f64 f2, .float .f64 f3, .float .f64 f4, .float .f64 f5, .float .f64 f6, .slice c n7 c7, .slice d n8 c8, .float .f64 f9] w fun e w' => (∃ r, e = .returned (.bool r)) ∧ w' = w := by
  unfold maxLen at h0 h1 h7 h8
  go_enter Try.func13, Try.ntmps13
  go_wp2
  all_goals
    go_ret
    exact ⟨⟨_, rfl⟩, rfl⟩
end Go.Proofs.Qxb6616528a
