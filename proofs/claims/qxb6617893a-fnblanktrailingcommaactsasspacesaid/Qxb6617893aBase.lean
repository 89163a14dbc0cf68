/-
  SEAT b6617893a: how the walks speak of bytes in memory; the small functions' contracts.
-/
import Derived.Test.Qxb6617893aRows
import Derived.Test.Qxb6617893aShelf
import Derived.Test.Qxb6617893aPlain
import Derived.WalkKit
import Derived.ProofKit
import Derived.OpenShut
import Derived.WalkSpells
import Derived.Laws.CopyOwn
import Derived.Deep.QuietTactic
import Derived.BigQuiet
import Derived.Outline
namespace Go.Proofs.Qxb6617893a
open Go.ChangeShapes Go.WideShapes Go.ChangeAt Go.RowKit
open Plain

theorem info5 : (Try.prog.info? 5).map (fun i => (i.zero, i.size, i.bytes)) = some (some (.int .u8 0), 1, 1) := by kernel_rfl

/-- The cells of n bytes. -/
def cellsF (z : Nat → Int) (n : Nat) : List Value := (List.range n).map fun i => .int .u8 (z i)
theorem cellsF_length (z : Nat → Int) (n : Nat) : (cellsF z n).length = n := by simp [cellsF]
theorem cellsF_get (z : Nat → Int) (n i : Nat) (h : i < n) : (cellsF z n)[i]? = some (.int .u8 (z i)) := by simp [cellsF, h]
theorem cellsF_ext {x y : Nat → Int} {n : Nat} (h : ∀ i, i < n → x i = y i) : cellsF x n = cellsF y n := by
  unfold cellsF
  exact List.map_congr_left fun i hi => by rw [h i (List.mem_range.1 hi)]
theorem cellsF_set (z : Nat → Int) (n j : Nat) (x : Int) : (cellsF z n).set j (.int .u8 x) = cellsF (upd z j x) n := by
  apply List.ext_getElem?
  intro i
  rw [List.getElem?_set]
  by_cases hi : i < n
  · rw [cellsF_get _ _ _ hi, cellsF_get _ _ _ hi, cellsF_length]
    by_cases h : j = i
    · subst h; simp [hi, upd_same]
    · rw [if_neg h, upd_ne _ _ (fun e => h e.symm)]
  · have e1 : (cellsF z n)[i]? = none := List.getElem?_eq_none (by rw [cellsF_length]; omega)
    have e2 : (cellsF (upd z j x) n)[i]? = none := List.getElem?_eq_none (by rw [cellsF_length]; omega)
    rw [e1, e2, cellsF_length]
    by_cases h : j = i
    · subst h; simp [hi]
    · rw [if_neg h]
theorem cellsF_replicate (n : Nat) : List.replicate n (Value.int .u8 0) = cellsF (fun _ => 0) n := by
  apply List.ext_getElem?
  intro i
  by_cases hi : i < n
  · rw [cellsF_get _ _ _ hi]; simp [hi]
  · rw [List.getElem?_eq_none (by simp; omega), List.getElem?_eq_none (by rw [cellsF_length]; omega)]
/-- x behind n bytes of z. -/
theorem cellsF_snoc (z : Nat → Int) (n : Nat) (x : Int) : cellsF z n ++ [.int .u8 x] = cellsF (upd z n x) (n + 1) := by
  have e : cellsF (upd z n x) n = cellsF z n := cellsF_ext fun i hi => upd_ne _ _ (by omega)
  unfold cellsF at e ⊢
  rw [List.range_succ, List.map_append, e]
  simp [upd_same]
theorem cellsF_oneCell (z : Nat → Int) (n : Nat) : ∀ u ∈ cellsF z n, u.oneCell' = true := by
  intro u hu
  unfold cellsF at hu
  obtain ⟨_, _, rfl⟩ := List.mem_map.1 hu
  rfl

/-- The slice of n bytes at 'a' reads as z; its memory lies below block B. -/
def Rd (w : World) (B : Nat) (a : Option Addr) (n : Nat) (z : Nat → Int) : Prop :=
  ∀ i, i < n → ∃ b off, a = some ⟨b, off, none⟩ ∧ b < B ∧ w.cell? ⟨b, off + i, none⟩ = some (.int .u8 (z i))

theorem Rd.below {w w' : World} {B : Nat} {a : Option Addr} {n : Nat} {z : Nat → Int} (h : Rd w B a n z) (hb : Below B w w') : Rd w' B a n z := by
  intro i hi
  obtain ⟨b, off, e, hB, hc⟩ := h i hi
  exact ⟨b, off, e, hB, by rw [hb.cell (p := ⟨b, off + i, none⟩) hB]; exact hc⟩
theorem Rd.mono {w : World} {B B' : Nat} {a : Option Addr} {n : Nat} {z : Nat → Int} (h : Rd w B a n z) (hb : B ≤ B') : Rd w B' a n z := by
  intro i hi
  obtain ⟨b, off, e, hB, hc⟩ := h i hi
  exact ⟨b, off, e, by omega, hc⟩
/-- The bytes at one address, all of them. -/
theorem Rd.at {w : World} {B b off n : Nat} {z : Nat → Int} (h : Rd w B (some ⟨b, off, none⟩) n z) : ∀ i, i < n → b < B ∧ w.cell? ⟨b, off + i, none⟩ = some (.int .u8 (z i)) := by
  intro i hi
  obtain ⟨b', off', e, hB, hc⟩ := h i hi
  simp only [Option.some.injEq, Addr.mk.injEq, and_true] at e
  obtain ⟨rfl, rfl⟩ := e
  exact ⟨hB, hc⟩

/-- The slice that the call owns reads so. -/
theorem owns_rd {w : World} {base g n cap : Nat} {z : Nat → Int} (h : w.ownsRow base 5 1 (.slice (some ⟨g, 0, none⟩) n cap) n (cellsF z n)) : Rd w w.heap.size (some ⟨g, 0, none⟩) n z := by
  intro i hi
  have hc : w.cell? ⟨g, i, none⟩ = some (.int .u8 (z i)) := by rw [h.cellAt i (by omega), cellsF_get _ _ _ hi]
  exact ⟨g, 0, rfl, World.block_lt_of_cell? w ⟨g, i, none⟩ hc, by rw [Nat.zero_add]; exact hc⟩

/-- What is owned stays owned while all at and below its block stays. -/
theorem owns_below {w w' : World} {base g n cap B : Nat} {z : Nat → Int} (h : w.ownsRow base 5 1 (.slice (some ⟨g, 0, none⟩) n cap) n (cellsF z n)) (hb : Below B w w') (hg : g < B) : w'.ownsRow base 5 1 (.slice (some ⟨g, 0, none⟩) n cap) n (cellsF z n) := by
  refine ⟨h.1, ?_⟩
  rcases h.2 with ⟨e, _⟩ | ⟨g', cap', cur, e, h1, h2, h3⟩
  · simp at e
  · simp only [Value.slice.injEq, Option.some.injEq, Addr.mk.injEq, and_true, true_and] at e
    obtain ⟨rfl, rfl⟩ := e
    exact .inr ⟨g, cap, cur, rfl, h1, by rw [hb.block g hg]; exact h2, h3⟩
theorem owns_base {w : World} {base base' g n cap : Nat} {z : Nat → Int} (h : w.ownsRow base 5 1 (.slice (some ⟨g, 0, none⟩) n cap) n (cellsF z n)) (hb : base' ≤ g) : w.ownsRow base' 5 1 (.slice (some ⟨g, 0, none⟩) n cap) n (cellsF z n) := by
  refine ⟨h.1, ?_⟩
  rcases h.2 with ⟨e, _⟩ | ⟨g', cap', cur, e, h1, h2, h3⟩
  · simp at e
  · simp only [Value.slice.injEq, Option.some.injEq, Addr.mk.injEq, and_true, true_and] at e
    obtain ⟨rfl, rfl⟩ := e
    exact .inr ⟨g, cap, cur, rfl, hb, h2, h3⟩
theorem owns_lt {w : World} {base g n cap : Nat} {xs : List Value} (h : w.ownsRow base 5 1 (.slice (some ⟨g, 0, none⟩) n cap) n xs) : base ≤ g ∧ g < w.heap.size := h.lt g rfl
theorem owns_cap {w : World} {base g n cap : Nat} {xs : List Value} (h : w.ownsRow base 5 1 (.slice (some ⟨g, 0, none⟩) n cap) n xs) : n ≤ cap ∧ cap ≤ maxLen := by
  rcases h.2 with ⟨e, _⟩ | ⟨g', cap', cur, e, h1, h2, h3, h4, _⟩
  · simp at e
  · simp only [Value.slice.injEq, Option.some.injEq, Addr.mk.injEq, and_true, true_and] at e
    obtain ⟨rfl, rfl⟩ := e
    exact ⟨h3, h4⟩
/-- A store into what is owned. -/
theorem owns_store {w : World} {base g n cap : Nat} {z : Nat → Int} (h : w.ownsRow base 5 1 (.slice (some ⟨g, 0, none⟩) n cap) n (cellsF z n)) (j : Nat) (x : Int) :
    (w.setCell ⟨g, j, none⟩ (.int .u8 x)).ownsRow base 5 1 (.slice (some ⟨g, 0, none⟩) n cap) n (cellsF (upd z j x) n) := by
  have := (h.stored j (.int .u8 x)).1
  rwa [cellsF_set] at this
/-- The address of a row that owns is the row's own. -/
theorem owns_cell {w : World} {base g n cap : Nat} {z : Nat → Int} (h : w.ownsRow base 5 1 (.slice (some ⟨g, 0, none⟩) n cap) n (cellsF z n)) {i : Nat} (hi : i < n) : w.cell? ⟨g, i, none⟩ = some (.int .u8 (z i)) := by
  rw [h.cellAt i (by omega), cellsF_get _ _ _ hi]

theorem bytes6_any (a : Option Addr) (n c : Nat) (w : World) (hn : n ≤ maxLen) :
    Calls Try.prog 6 #[.slice a n c] w fun e w' => (∃ r, e = .returned (.bool r) ∧ (r = true → n ≤ 1048576)) ∧ w' = w := by
  unfold maxLen at hn
  go_enter Try.func6, Try.ntmps6
  go_wp2
  all_goals
    go_ret
    exact ⟨⟨_, rfl, by first | (intro h; cases h; done) | (intro _; omega)⟩, rfl⟩

theorem bytes11_any (a1 a2 a3 : Option Addr) (n1 c1 n2 c2 n3 c3 : Nat) (w : World) (h1 : n1 ≤ maxLen) (h2 : n2 ≤ maxLen) (h3 : n3 ≤ maxLen) :
    Calls Try.prog 11 #[.slice a1 n1 c1, .slice a2 n2 c2, .slice a3 n3 c3] w fun e w' => (∃ r, e = .returned (.bool r) ∧ (r = true → n1 ≤ 1048576 ∧ n2 ≤ 1048576 ∧ n3 ≤ 1048576)) ∧ w' = w := by
  unfold maxLen at h1 h2 h3
  go_enter Try.func11, Try.ntmps11
  go_wp2
  all_goals
    go_ret
    exact ⟨⟨_, rfl, by first | (intro h; cases h; done) | (intro _; omega)⟩, rfl⟩

theorem bytes14_any (a1 a2 a3 : Option Addr) (n1 c1 n2 c2 n3 c3 : Nat) (br : Bool) (w : World) (h1 : n1 ≤ maxLen) (h2 : n2 ≤ maxLen) (h3 : n3 ≤ maxLen) :
    Calls Try.prog 14 #[.slice a1 n1 c1, .slice a2 n2 c2, .bool br, .slice a3 n3 c3] w fun e w' => (∃ r, e = .returned (.bool r) ∧ (r = true → n1 ≤ 1048576 ∧ n2 ≤ 1048576 ∧ n3 ≤ 1048576)) ∧ w' = w := by
  unfold maxLen at h1 h2 h3
  go_enter Try.func14, Try.ntmps14
  go_wp2
  all_goals
    go_ret
    exact ⟨⟨_, rfl, by first | (intro h; cases h; done) | (intro _; omega)⟩, rfl⟩

theorem isSpace_any (c : Int) (w : World) :
    Calls Try.prog 15 #[.int .u8 c] w fun e w' => e = .returned (.bool (isSp c)) ∧ w' = w := by
  by_cases h1 : (c == 32) = true
  · have h1' : c = 32 := by simpa using h1
    subst h1'
    go_enter Try.func15, Try.ntmps15
    go_wp2
    go_ret
    exact ⟨rfl, rfl⟩
  have h1' : (c == 32) = false := by simpa using h1
  by_cases h2 : (c == 9) = true
  · have h2' : c = 9 := by simpa using h2
    subst h2'
    go_enter Try.func15, Try.ntmps15
    go_wp2
    go_ret
    exact ⟨rfl, rfl⟩
  have h2' : (c == 9) = false := by simpa using h2
  by_cases h3 : (c == 13) = true
  · have h3' : c = 13 := by simpa using h3
    subst h3'
    go_enter Try.func15, Try.ntmps15
    go_wp2
    go_ret
    exact ⟨rfl, rfl⟩
  have h3' : (c == 13) = false := by simpa using h3
  have e : isSp c = (c == 10) := by simp [isSp, h1', h2', h3']
  rw [e]
  clear e
  go_enter Try.func15, Try.ntmps15
  go_wp2
  go_ret
  exact ⟨rfl, rfl⟩
end Go.Proofs.Qxb6617893a
