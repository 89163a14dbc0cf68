/-
  SEAT b6617893a: contracts: zzHasBom, zzSame, zzClone, zzAppend.
-/
import Derived.Test.Qxb6617893aBase
namespace Go.Proofs.Qxb6617893a
open Go.ChangeShapes Go.WideShapes Go.ChangeAt Go.RowKit
open Plain

theorem hasBom_any (a : Option Addr) (n c B : Nat) (z : Nat → Int) (w : World) (hn : n ≤ 4194304) (h : Rd w B a n z) :
    Calls Try.prog 17 #[.slice a n c] w fun e w' => e = .returned (.bool (bom z n)) ∧ w' = w := by
  by_cases h3 : 3 ≤ n
  · obtain ⟨b, off, rfl, _, _⟩ := h 0 (by omega)
    have c0 := (h.at 0 (by omega)).2
    have c1 := (h.at 1 (by omega)).2
    have c2 := (h.at 2 (by omega)).2
    rw [Nat.add_zero] at c0
    have l0 : (0 : Int) < (n : Int) := by omega
    have l1 : (1 : Int) < (n : Int) := by omega
    have l2 : (2 : Int) < (n : Int) := by omega
    have E : Hid (bom z n = (z 0 == 239 && (z 1 == 187 && z 2 == 191))) := by show _ = _; simp [bom, h3]
    by_cases e0 : (z 0 == 239) = true
    · by_cases e1 : (z 1 == 187) = true
      · go_enter Try.func17, Try.ntmps17
        go_wp2
        go_ret
        exact ⟨by rw [E.out, e0, e1]; rfl, rfl⟩
      · have e1' : (z 1 == 187) = false := by simpa using e1
        go_enter Try.func17, Try.ntmps17
        go_wp2
        go_ret
        exact ⟨by rw [E.out, e0, e1']; rfl, rfl⟩
    · have e0' : (z 0 == 239) = false := by simpa using e0
      go_enter Try.func17, Try.ntmps17
      go_wp2
      go_ret
      exact ⟨by rw [E.out, e0']; rfl, rfl⟩
  · have E : Hid (bom z n = false) := by show _ = _; simp [bom]; omega
    have hd : decide ((3 : Int) ≤ (n : Int)) = false := decide_eq_false (by omega)
    go_enter Try.func17, Try.ntmps17
    go_wp2
    go_ret
    exact ⟨by rw [E.out]; rfl, rfl⟩

set_option maxHeartbeats 400000 in
theorem same_any (a1 a2 : Option Addr) (n c1 c2 B : Nat) (x y : Nat → Int) (w : World) (hn : n ≤ 4194304) (h1 : Rd w B a1 n x) (h2 : Rd w B a2 n y) (he : ∀ i, i < n → x i = y i) :
    Calls Try.prog 10 #[.slice a1 n c1, .slice a2 n c2] w fun e w' => e = .returned (.bool true) ∧ ∃ k, w' = w.drewN k := by
  go_enter Try.func10, Try.ntmps10
  go_wp2
  go_loopw [5] (fun i wr => ∃ k : Nat, k ≤ n ∧ i = .int .i64 k ∧ ∃ m, wr = w.drewN m) (fun i _ => n - (intOf i).toNat)
  case atStart => exact ⟨0, by omega, rfl, 0, rfl⟩
  case round =>
    obtain ⟨k, hk, rfl, m, rfl⟩ := hrel
    by_cases hlt : k < n
    · obtain ⟨b1, o1, rfl, _, k1⟩ := h1 k hlt
      obtain ⟨b2, o2, rfl, _, k2⟩ := h2 k hlt
      have e := he k hlt
      rw [← e] at k2
      clear e
      have li : (k : Int) < (n : Int) := by omega
      go_wp2
      go_quiet (fail)
      go_wp2
      go_roundw
      case rel => exact ⟨k + 1, by omega, by go_num, _, rfl⟩
      case measure => simp [intOf]; omega
    · go_wp2
      go_ret
      exact ⟨rfl, m, rfl⟩

theorem clone_nil (n c : Nat) (w : World) :
    Calls Try.prog 7 #[.slice none n c] w fun e w' => e = .returned (.slice none 0 0) ∧ w' = w := by
  have q22 : ∀ (w : World) (a : Option Addr) (n c n' c' : Nat), (binOp .eql 22 (.slice a n c) (.slice none n' c')).run Try.prog w = .ok (.bool a.isNone) w := fun w a n c n' c' => Lib.run_eql_slice_nil w _ _ a n c n' c' Try.underlying22
  go_enter Try.func7, Try.ntmps7
  go_wp2
  go_ret
  exact ⟨rfl, rfl⟩

/-- 'copy' of n bytes into a row of n that the call owns. -/
theorem copy_full (w0 w : World) (B g n c : Nat) (x : Addr) (y z : Nat → Int) (hown : w.ownsRow B 5 1 (.slice (some ⟨g, 0, none⟩) n n) n (cellsF y n)) (hb : Below B w0 w) (h : Rd w w.heap.size (some x) n z) :
    ∃ w', (Builtin.copy_ #[22, 22] 3 #[.slice (some ⟨g, 0, none⟩) n n, .slice (some x) n c]).run Try.prog w = .ok (.int .i64 n) w' ∧ w'.ownsRow B 5 1 (.slice (some ⟨g, 0, none⟩) n n) n (cellsF z n) ∧ Below B w0 w' := by
  by_cases h0 : n = 0
  · subst h0
    refine ⟨w, ?_, hown, hb⟩
    exact run_copy_none (P := Try.prog) w 22 22 3 5 _ _ 0 0 0 c Try.underlying22 (by kernel_rfl) rfl
  · have hsrc : ∀ j v, (cellsF z n)[j]? = some v → w.cell? (x.add j) = some v := by
      intro j v hj
      have hjn : j < n := by
        have := (List.getElem?_eq_some_iff.1 hj).1
        rwa [cellsF_length] at this
      obtain ⟨b, off, e, _, hc⟩ := h j hjn
      obtain rfl := Option.some.inj e
      rw [cellsF_get _ _ _ hjn] at hj
      obtain rfl := Option.some.inj hj
      rw [add_plain]
      exact hc
    rcases hown.2 with ⟨e, _⟩ | ⟨g', cap', cur, e, h1, h2, h3, h4, h5, h6⟩
    · simp at e
    · simp only [Value.slice.injEq, Option.some.injEq, Addr.mk.injEq, and_true, true_and] at e
      obtain ⟨rfl, rfl⟩ := e
      have hrun := run_copy_row (P := Try.prog) w 22 22 3 5 g 0 n n x n c cur 5 (cellsF z n) Try.underlying22 (by kernel_rfl) h2 (by rw [cellsF_length]; exact (Nat.min_self n).symm) hsrc (by rw [cellsF_length]; omega) (cellsF_oneCell _ _)
      rw [cellsF_length] at hrun
      have hcur : cur.toList.drop (0 + n) = [] := List.drop_eq_nil_of_le (by rw [Array.length_toList]; omega)
      rw [hcur] at hrun
      simp only [List.take_zero, List.nil_append, List.append_nil] at hrun
      refine ⟨_, hrun, ⟨by rw [cellsF_length]; omega, .inr ⟨g, n, (cellsF z n).toArray, rfl, h1, ?_, Nat.le_refl _, h4, by simp [cellsF_length], ?_⟩⟩, below_setRow hb h1 _⟩
      · exact setRow_heap w g _ _ 5 _ h2
      · exact List.take_of_length_le (by simp [cellsF_length])

set_option maxHeartbeats 400000 in
theorem clone_any (x : Addr) (n c : Nat) (z : Nat → Int) (w : World) (hn : n ≤ 4194304) (h : Rd w w.heap.size (some x) n z) :
    Calls Try.prog 7 #[.slice (some x) n c] w fun e w' => e = .returned (.slice (some ⟨w.heap.size, 0, none⟩) n n) ∧ w'.ownsRow w.heap.size 5 1 (.slice (some ⟨w.heap.size, 0, none⟩) n n) n (cellsF z n) ∧ Below w.heap.size w w' := by
  have q22 : ∀ (w : World) (a : Option Addr) (n c n' c' : Nat), (binOp .eql 22 (.slice a n c) (.slice none n' c')).run Try.prog w = .ok (.bool a.isNone) w := fun w a n c n' c' => Lib.run_eql_slice_nil w _ _ a n c n' c' Try.underlying22
  obtain ⟨i0, hi, hz0, hz1, hz2⟩ := info_parts info5
  have b2 : i0.bytes * n ≤ 281474976710656 := by rw [hz2]; omega
  have b3 : n ≤ maxLen := by unfold maxLen; omega
  go_enter Try.func7, Try.ntmps7
  go_wp2_with (at_make; refine wpList_make_full _ rfl (.tmp 7) (.tmp 7) 22 rfl w.heap.size 5 i0 (.int .u8 0) 1 Try.underlying22 hi hz0 hz1 .i64 .i64 _ _ n rfl rfl rfl rfl b2 b3 (Nat.le_refl _) ?_)
  intro w1 hown hg
  rw [toList_madeCells_one, cellsF_replicate] at hown
  have hb1 := (Below.refl w.heap.size w).grown hg (Nat.le_refl _) (by simp)
  obtain ⟨w2, hrun, hown2, hb2⟩ := copy_full w w1 w.heap.size w.heap.size n c x _ z hown hb1 ((h.below hb1).mono hb1.size)
  go_wp2_with fail
  go_ret
  exact ⟨rfl, hown2, hb2⟩

/-- x behind the first k of y. -/
def cat (y : Nat → Int) (k : Nat) (x : Nat → Int) : Nat → Int := fun i => if i < k then y i else x (i - k)
theorem cat_step (y x : Nat → Int) (k j : Nat) : cellsF (cat y k x) (k + j) ++ [.int .u8 (x j)] = cellsF (cat y k x) (k + j + 1) := by
  rw [cellsF_snoc]
  refine cellsF_ext fun i hi => ?_
  by_cases h : i = k + j
  · subst h
    rw [upd_same, cat, if_neg (by omega)]
    congr 1
    omega
  · rw [upd_ne _ _ h]

set_option maxHeartbeats 400000 in
theorem append_any (g k cap B : Nat) (y : Nat → Int) (a : Option Addr) (m c : Nat) (x : Nat → Int) (w : World) (hown : w.ownsRow B 5 1 (.slice (some ⟨g, 0, none⟩) k cap) k (cellsF y k)) (hm : k + m ≤ cap) (hcap : cap ≤ 4194304) (h : Rd w g a m x) :
    Calls Try.prog 13 #[.slice (some ⟨g, 0, none⟩) k cap, .slice a m c] w fun e w' => e = .returned (.slice (some ⟨g, 0, none⟩) (k + m) cap) ∧ w'.ownsRow B 5 1 (.slice (some ⟨g, 0, none⟩) (k + m) cap) (k + m) (cellsF (cat y k x) (k + m)) ∧ Below g w w' := by
  obtain ⟨i0, hi, hz0, hz1, hz2⟩ := info_parts info5
  have hown0 : w.ownsRow B 5 1 (.slice (some ⟨g, 0, none⟩) (k + 0) cap) (k + 0) (cellsF (cat y k x) (k + 0)) := by
    rw [Nat.add_zero, cellsF_ext (y := y) (fun i hi => by rw [cat, if_pos hi])]
    exact hown
  clear hown
  go_enter Try.func13, Try.ntmps13
  go_wp2
  go_loopw [0, 5] (fun v i wr => ∃ j : Nat, j ≤ m ∧ i = .int .i64 j ∧ v = .slice (some ⟨g, 0, none⟩) (k + j) cap ∧ wr.ownsRow B 5 1 (.slice (some ⟨g, 0, none⟩) (k + j) cap) (k + j) (cellsF (cat y k x) (k + j)) ∧ Below g w wr) (fun _ i _ => m - (intOf i).toNat)
  case atStart => exact ⟨0, by omega, rfl, rfl, hown0, Below.refl _ _⟩
  case round =>
    obtain ⟨j, hj, rfl, rfl, ho, hb⟩ := hrel
    clear hown0
    by_cases hlt : j < m
    · obtain ⟨b, off, rfl, hB, hc0⟩ := h j hlt
      have hc : wr.cell? ⟨b, off + j, none⟩ = some (.int .u8 (x j)) := by rw [hb.cell (p := ⟨b, off + j, none⟩) hB]; exact hc0
      clear hc0
      have hgl := owns_lt ho
      go_wp2_with (at_builtin; refine wpList_append_fits _ rfl (.tmp 12) (.tmp 17) 22 rfl B 5 i0 1 Try.underlying22 hi hz1 g (k + j) cap _ rfl (ho.alloc _) ⟨wr.heap.size, 0, none⟩ 1 1 [.int .u8 (x j)] rfl rfl (cell_one_new _ _ _) ?c1 ?c2 ?_)
      case c1 => intro u hu; simp at hu; subst hu; rfl
      case c2 => omega
      intro w1 ho1 hg1
      have hb1 : Below g w w1 := (hb.alloc (by omega) _).grown hg1 (by simp; omega) (by simp)
      rw [cat_step] at ho1
      clear ho hc hg1
      go_wp2
      go_roundw
      case rel => exact ⟨j + 1, by omega, by go_num, rfl, ho1, hb1⟩
      case measure => simp [intOf]; omega
    · have e : j = m := by omega
      subst e
      go_wp2
      go_ret
      exact ⟨rfl, ho, hb⟩
end Go.Proofs.Qxb6617893a
