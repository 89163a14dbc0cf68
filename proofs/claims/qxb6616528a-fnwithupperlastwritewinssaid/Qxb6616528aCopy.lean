/-
  SEAT b6616528a: the laws' copy of the widths ('zzc := make([]int, len(widths)); copy(zzc, widths)').
-/
import Derived.Test.Qxb6616528aUpper
namespace Go.Proofs.Qxb6616528a
open Go.ChangeShapes Go.WideShapes Go.ChangeAt Go.RowKit
open Plain

def cellsG (z : Nat → Int) (n : Nat) : List Value := (List.range n).map fun i => .int .i64 (z i)
theorem cellsG_length (z : Nat → Int) (n : Nat) : (cellsG z n).length = n := by simp [cellsG]
theorem cellsG_get (z : Nat → Int) (n i : Nat) (h : i < n) : (cellsG z n)[i]? = some (.int .i64 (z i)) := by simp [cellsG, h]
theorem cellsG_oneCell (z : Nat → Int) (n : Nat) : ∀ u ∈ cellsG z n, u.oneCell' = true := by
  intro u hu
  unfold cellsG at hu
  obtain ⟨_, _, rfl⟩ := List.mem_map.1 hu
  rfl

theorem copy_full (w0 w : World) (B g n c : Nat) (x : Addr) (ys : List Value) (z : Nat → Int) (hown : w.ownsRow B 3 1 (.slice (some ⟨g, 0, none⟩) n n) n ys) (hb : Below B w0 w) (h : Rd w w.heap.size (some x) n z) :
    ∃ w', (Builtin.copy_ #[22, 22] 3 #[.slice (some ⟨g, 0, none⟩) n n, .slice (some x) n c]).run Try.prog w = .ok (.int .i64 n) w' ∧ Rd w' w'.heap.size (some ⟨g, 0, none⟩) n z ∧ Below B w0 w' := by
  by_cases h0 : n = 0
  · subst h0
    refine ⟨w, ?_, fun i hi => by omega, hb⟩
    exact run_copy_none (P := Try.prog) w 22 22 3 3 _ _ 0 0 0 c Try.underlying22 (by kernel_rfl) rfl
  · have hsrc : ∀ j v, (cellsG z n)[j]? = some v → w.cell? (x.add j) = some v := by
      intro j v hj
      have hjn : j < n := by
        have := (List.getElem?_eq_some_iff.1 hj).1
        rwa [cellsG_length] at this
      obtain ⟨b, off, e, _, hc⟩ := h j hjn
      obtain rfl := Option.some.inj e
      rw [cellsG_get _ _ _ hjn] at hj
      obtain rfl := Option.some.inj hj
      rw [add_plain]
      exact hc
    rcases hown.2 with ⟨e, _⟩ | ⟨g', cap', cur, e, h1, h2, h3, h4, h5, h6⟩
    · simp at e
    · simp only [Value.slice.injEq, Option.some.injEq, Addr.mk.injEq, and_true, true_and] at e
      obtain ⟨rfl, rfl⟩ := e
      have hrun := run_copy_row (P := Try.prog) w 22 22 3 3 g 0 n n x n c cur 3 (cellsG z n) Try.underlying22 (by kernel_rfl) h2 (by rw [cellsG_length]; exact (Nat.min_self n).symm) hsrc (by rw [cellsG_length]; omega) (cellsG_oneCell _ _)
      rw [cellsG_length] at hrun
      have hcur : cur.toList.drop (0 + n) = [] := List.drop_eq_nil_of_le (by rw [Array.length_toList]; omega)
      rw [hcur] at hrun
      simp only [List.take_zero, List.nil_append, List.append_nil] at hrun
      have hh := setRow_heap w g cur (cellsG z n).toArray 3 (0, 0) h2
      refine ⟨_, hrun, fun i hi => ?_, below_setRow hb h1 _⟩
      have hc : (w.setRow g (cellsG z n).toArray).cell? ⟨g, 0 + i, none⟩ = some (.int .i64 (z i)) := by
        rw [Nat.zero_add, cell_of_row _ g i _ 3 (0, 0) hh]
        have := cellsG_get z n i hi
        simpa using this
      exact ⟨g, 0, rfl, World.block_lt_of_cell? _ ⟨g, 0 + i, none⟩ hc, hc⟩
end Go.Proofs.Qxb6616528a
