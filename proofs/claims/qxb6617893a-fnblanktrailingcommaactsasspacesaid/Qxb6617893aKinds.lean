/-
  SEAT b6617893a: zzKinds: the one-pass lexer.
-/
import Derived.Test.Qxb6617893aSmall
import Derived.Deep.Light
import Derived.Deep.LoopGhost
set_option linter.unusedSimpArgs false
namespace Go.Proofs.Qxb6617893a
open Go.ChangeShapes Go.WideShapes Go.ChangeAt Go.RowKit
open Plain

def kindTo (z : Nat → Int) (n k : Nat) : Nat → Int := fun i => if i < k then kind z n i else 0
theorem kindTo_step {z : Nat → Int} {n k : Nat} {x : Int} (h : kind z n k = x) : cellsF (upd (kindTo z n k) k x) n = cellsF (kindTo z n (k + 1)) n := by
  refine cellsF_ext fun i hi => ?_
  by_cases e : i = k
  · subst e
    rw [upd_same, kindTo, if_pos (by omega), h]
  · rw [upd_ne _ _ e, kindTo, kindTo]
    by_cases h2 : i < k
    · rw [if_pos h2, if_pos (by omega)]
    · rw [if_neg h2, if_neg (by omega)]

theorem kinds_step {w wr : World} {g B n k : Nat} {z : Nat → Int} {S X : Int} (ho : wr.ownsRow B 5 1 (.slice (some ⟨g, 0, none⟩) n n) n (cellsF (kindTo z n k) n)) (hb : Below B w wr) (hk : k < n) (h : st z n (k + 1) = S ∧ kind z n k = X) :
    ∃ k' : Nat, k' ≤ n ∧ n - k' ≤ n - (k + 1) ∧ Value.int .i64 ((k : Int) + 1) = .int .i64 k' ∧ Value.int .i64 S = .int .i64 (st z n k') ∧ (wr.setCell ⟨g, k, none⟩ (.int .u8 X)).ownsRow B 5 1 (.slice (some ⟨g, 0, none⟩) n n) n (cellsF (kindTo z n k') n) ∧ Below B w (wr.setCell ⟨g, k, none⟩ (.int .u8 X)) := by
  refine ⟨k + 1, hk, Nat.le_refl _, by rw [Int.natCast_add]; rfl, by rw [h.1], ?_, hb.setCell (owns_lt ho).1 _⟩
  have := owns_store ho k X
  rwa [kindTo_step h.2] at this

set_option maxRecDepth 8000 in
set_option maxHeartbeats 1000000 in
theorem kinds_any (a : Option Addr) (n c : Nat) (z : Nat → Int) (w : World) (hn : n ≤ 4194304) (h : Rd w w.heap.size a n z) :
    Calls Try.prog 12 #[.slice a n c] w fun e w' => e = .returned (.tuple #[.slice (some ⟨w.heap.size, 0, none⟩) n n, .int .i64 (st z n n)]) ∧ w'.ownsRow w.heap.size 5 1 (.slice (some ⟨w.heap.size, 0, none⟩) n n) n (cellsF (kind z n) n) ∧ Below w.heap.size w w' := by
  obtain ⟨i0, hi, hz0, hz1, hz2⟩ := info_parts info5
  have b2 : i0.bytes * n ≤ 281474976710656 := by rw [hz2]; omega
  have b3 : n ≤ maxLen := by unfold maxLen; omega
  go_enter Try.func12, Try.ntmps12
  go_wp2_with (at_make; refine wpList_make_full _ rfl (.tmp 12) (.tmp 12) 22 rfl w.heap.size 5 i0 (.int .u8 0) 1 Try.underlying22 hi hz0 hz1 .i64 .i64 _ _ n rfl rfl rfl rfl b2 b3 (Nat.le_refl _) ?_)
  intro w1 hown hg
  rw [toList_madeCells_one, cellsF_replicate] at hown
  have hb1 := (Below.refl w.heap.size w).grown hg (Nat.le_refl _) (by simp)
  have h1 := h.below hb1
  go_wp2_with fail
  refine (hasBom_any a n c _ z _ hn h1).mono ?_
  rintro e w' ⟨rfl, rfl⟩
  clear b2 b3 hi hz0 hz1 hz2 h1 hg
  generalize hbb : bom z n = bb
  have HB : Hid (bom z n = bb) := hbb
  clear hbb
  cases bb
  all_goals
    go_wp2_with fail
    go_loopg [7, 8] n (fun gk s i wr => ∃ k : Nat, k ≤ n ∧ n - k ≤ gk ∧ i = .int .i64 k ∧ s = .int .i64 (st z n k) ∧ wr.ownsRow w.heap.size 5 1 (.slice (some ⟨w.heap.size, 0, none⟩) n n) n (cellsF (kindTo z n k) n) ∧ Below w.heap.size w wr)
    case atStart => exact ⟨0, by omega, by omega, rfl, rfl, hown, hb1⟩
    case round =>
      obtain ⟨k, hk, hgk, rfl, rfl, ho, hb⟩ := hrel
      clear hown hb1
      by_cases hlt : k < n
      · obtain ⟨b, off, rfl, hB, hc0⟩ := h k hlt
        have hc : wr.cell? ⟨b, off + k, none⟩ = some (.int .u8 (z k)) := by rw [hb.cell (p := ⟨b, off + k, none⟩) hB]; exact hc0
        have hc1 : (k : Int) + 1 < (n : Int) → wr.cell? ⟨b, off + (k + 1), none⟩ = some (.int .u8 (z (k + 1))) := fun hh => by rw [hb.cell (p := ⟨b, off + (k + 1), none⟩) hB]; exact (h.at (k + 1) (by omega)).2
        clear hc0
        have hold := owns_cell ho hlt
        have hfro := ho.frozenAt k
        go_wp2_with (go_at_call 15; refine (isSpace_any _ _).mono ?_; rintro e w' ⟨rfl, rfl⟩)
        all_goals
          go_roundg (n - (k + 1))
          case measure => go_light; omega
          case rel =>
            clear hold hfro hc hc1
            refine kinds_step ho hb hlt ?_
            clear ho hb h
            go_light
            have hbb := HB.out
            clear HB
            rw [st_succ, kind, next, kd]
            have n1 : ((k : Int) + 1 < (n : Int)) ↔ k + 1 < n := by omega
            have n2 : ((n : Int) ≤ (k : Int) + 1) ↔ ¬ k + 1 < n := by omega
            have n3 : ((k : Int) < 3) ↔ k < 3 := by omega
            have n4 : ((3 : Int) ≤ (k : Int)) ↔ ¬ k < 3 := by omega
            simp only [n1, n2, n3, n4] at *
            clear n1 n2 n3 n4
            first
              | (simp_all [inBom, cm]; done)
              | (have m1 : ¬ k + 1 < n := by omega
                 have m2 : ¬ k < 3 := by omega
                 simp_all only [inBom, cm, decide_false, Bool.and_false, Bool.false_and, if_false, if_true, Bool.false_eq_true, beq_iff_eq, beq_eq_false_iff_ne]
                 simp_all; done)
              | (have m1 : ¬ k + 1 < n := by omega
                 simp_all only [inBom, cm, decide_false, Bool.and_false, Bool.false_and, if_false, if_true, Bool.false_eq_true, beq_iff_eq, beq_eq_false_iff_ne]
                 simp_all; done)
      · have e : k = n := by omega
        subst e
        have e2 : cellsF (kindTo z k k) k = cellsF (kind z k) k := cellsF_ext fun i hi => by rw [kindTo, if_pos hi]
        rw [e2] at ho
        clear e2
        go_wp2
        go_ret2
        exact ⟨rfl, ho, hb⟩
end Go.Proofs.Qxb6617893a
