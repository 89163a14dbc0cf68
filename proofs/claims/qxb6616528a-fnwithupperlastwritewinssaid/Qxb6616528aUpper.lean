/-
  SEAT b6616528a: the walks under the two statements on WithUpper.
-/
import Derived.Test.Qxb6616528aRows
import Derived.Test.Qxb6616528aPlain
import Derived.WalkKit
import Derived.ProofKit
import Derived.OpenShut
import Derived.WalkSpells
import Derived.WalkSmall
import Derived.Laws.CopyOwn
import Derived.Laws.BitsAllLaws
import Derived.Laws.ShiftsVarLaws
import Derived.Deep.QuietTactic
import Derived.BigQuiet
import Derived.Deep.Light
import Derived.Deep.LoopGhost
import Derived.Outline
set_option linter.unusedSimpArgs false
namespace Go.Proofs.Qxb6616528a
open Go.ChangeShapes Go.WideShapes Go.ChangeAt Go.RowKit
open Plain

theorem info3 : (Try.prog.info? 3).map (fun i => (i.zero, i.size, i.bytes)) = some (some (.int .i64 0), 1, 8) := by kernel_rfl

/-- The slice of n ints at 'a' reads as z; its memory lies below block B. -/
def Rd (w : World) (B : Nat) (a : Option Addr) (n : Nat) (z : Nat → Int) : Prop :=
  ∀ i, i < n → ∃ b off, a = some ⟨b, off, none⟩ ∧ b < B ∧ w.cell? ⟨b, off + i, none⟩ = some (.int .i64 (z i))
theorem Rd.below {w w' : World} {B : Nat} {a : Option Addr} {n : Nat} {z : Nat → Int} (h : Rd w B a n z) (hb : Below B w w') : Rd w' B a n z := by
  intro i hi
  obtain ⟨b, off, e, hB, hc⟩ := h i hi
  exact ⟨b, off, e, hB, by rw [hb.cell (p := ⟨b, off + i, none⟩) hB]; exact hc⟩
theorem Rd.mono {w : World} {B B' : Nat} {a : Option Addr} {n : Nat} {z : Nat → Int} (h : Rd w B a n z) (hb : B ≤ B') : Rd w B' a n z := by
  intro i hi
  obtain ⟨b, off, e, hB, hc⟩ := h i hi
  exact ⟨b, off, e, by omega, hc⟩
theorem Rd.at {w : World} {B b off n : Nat} {z : Nat → Int} (h : Rd w B (some ⟨b, off, none⟩) n z) : ∀ i, i < n → b < B ∧ w.cell? ⟨b, off + i, none⟩ = some (.int .i64 (z i)) := by
  intro i hi
  obtain ⟨b', off', e, hB, hc⟩ := h i hi
  simp only [Option.some.injEq, Addr.mk.injEq, and_true] at e
  obtain ⟨rfl, rfl⟩ := e
  exact ⟨hB, hc⟩

/-- The sum of the first k. -/
def sumTo (z : Nat → Int) : Nat → Int
  | 0 => 0
  | k + 1 => sumTo z k + z k
/-- All widths are widths, and together they fit. -/
def Fits (z : Nat → Int) (n : Nat) : Prop := (∀ i, i < n → 0 ≤ z i ∧ z i ≤ 64) ∧ ∀ k, k ≤ n → sumTo z k ≤ 64
theorem sumTo_nonneg {z : Nat → Int} {n : Nat} (h : ∀ i, i < n → 0 ≤ z i ∧ z i ≤ 64) : ∀ k, k ≤ n → 0 ≤ sumTo z k
  | 0, _ => by simp [sumTo]
  | k + 1, hk => by
    have h1 := sumTo_nonneg h k (by omega)
    have h2 := (h k (by omega)).1
    show 0 ≤ sumTo z k + z k
    omega

theorem bytes6_any (a : Option Addr) (n c : Nat) (x y u : Int) (w : World) (hn : n ≤ maxLen) :
    Calls Try.prog 6 #[.slice a n c, .int .u64 x, .int .u64 y, .int .u64 u] w fun e w' => (∃ r, e = .returned (.bool r) ∧ (r = true → n ≤ 1048576)) ∧ w' = w := by
  unfold maxLen at hn
  go_enter Try.func6, Try.ntmps6
  go_wp2
  all_goals
    go_ret
    exact ⟨⟨_, rfl, by first | (intro h; cases h; done) | (intro _; omega)⟩, rfl⟩
theorem bytes11_any (a : Option Addr) (n c : Nat) (x y u : Int) (w : World) (hn : n ≤ maxLen) :
    Calls Try.prog 11 #[.slice a n c, .int .u64 x, .int .u64 y, .int .u64 u] w fun e w' => (∃ r, e = .returned (.bool r) ∧ (r = true → n ≤ 1048576)) ∧ w' = w := by
  unfold maxLen at hn
  go_enter Try.func11, Try.ntmps11
  go_wp2
  all_goals
    go_ret
    exact ⟨⟨_, rfl, by first | (intro h; cases h; done) | (intro _; omega)⟩, rfl⟩

set_option maxRecDepth 8000 in
set_option maxHeartbeats 400000 in
theorem upper_any (a : Option Addr) (n c B : Nat) (z : Nat → Int) (w : World) (hn : n ≤ 4194304) (h : Rd w B a n z) :
    Calls Try.prog 7 #[.slice a n c] w fun e w' => ((e = .returned (.tuple #[.int .i64 0, .bool false])) ∨ (e = .returned (.tuple #[.int .i64 (sumTo z n), .bool true]) ∧ Fits z n)) ∧ w' = w := by
  go_enter Try.func7, Try.ntmps7
  go_wp2
  go_loopg [4, 5] n (fun gk t i wr => ∃ k : Nat, k ≤ n ∧ n - k ≤ gk ∧ i = .int .i64 k ∧ t = .int .i64 (sumTo z k) ∧ ((∀ i, i < k → 0 ≤ z i ∧ z i ≤ 64) ∧ ∀ j, j ≤ k → sumTo z j ≤ 64) ∧ wr = w)
  case atStart => exact ⟨0, by omega, by omega, rfl, rfl, ⟨fun i hi => by omega, fun j hj => by rw [show j = 0 by omega]; simp [sumTo]⟩, rfl⟩
  case round =>
    obtain ⟨k, hk, hgk, rfl, rfl, hf, rfl⟩ := hrel
    have hs0 := sumTo_nonneg hf.1 k (Nat.le_refl _)
    have hs1 := hf.2 k (Nat.le_refl _)
    have HF : Hid ((∀ i, i < k → 0 ≤ z i ∧ z i ≤ 64) ∧ ∀ j, j ≤ k → sumTo z j ≤ 64) := hf
    clear hf
    by_cases hlt : k < n
    · obtain ⟨b, off, rfl, hB, hc⟩ := h k hlt
      by_cases h1 : z k < 0
      · go_wp2_with fail
        go_ret2
        exact ⟨.inl rfl, rfl⟩
      by_cases h2 : 64 < z k
      · have d1 : decide (z k < 0) = false := decide_eq_false h1
        go_wp2_with fail
        go_ret2
        exact ⟨.inl rfl, rfl⟩
      have d1 : decide (z k < 0) = false := decide_eq_false h1
      have d2 : decide (64 < z k) = false := decide_eq_false h2
      by_cases h3 : 64 < sumTo z k + z k
      · go_wp2_with fail
        go_ret2
        exact ⟨.inl rfl, rfl⟩
      · have HR : Hid (∃ k' : Nat, k' ≤ n ∧ n - k' ≤ n - (k + 1) ∧ Value.int .i64 ((k : Int) + 1) = .int .i64 k' ∧ Value.int .i64 (sumTo z k + z k) = .int .i64 (sumTo z k') ∧ ((∀ i, i < k' → 0 ≤ z i ∧ z i ≤ 64) ∧ ∀ j, j ≤ k' → sumTo z j ≤ 64)) := by
          refine ⟨k + 1, by omega, Nat.le_refl _, by go_num, rfl, fun i hi => ?_, fun j hj => ?_⟩
          · rcases Nat.lt_or_ge i k with hh | hh
            · exact HF.out.1 i hh
            · rw [show i = k by omega]; omega
          · rcases Nat.lt_or_ge k j with hh | hh
            · rw [show j = k + 1 by omega]
              show sumTo z k + z k ≤ 64
              omega
            · exact HF.out.2 j hh
        clear HF
        go_wp2_with fail
        go_roundg (n - (k + 1))
        case measure => go_light; omega
        case rel => obtain ⟨k', p1, p2, p3, p4, p5⟩ := HR.out; exact ⟨k', p1, p2, p3, p4, p5, rfl⟩
    · obtain rfl : k = n := by omega
      go_wp2_with fail
      go_ret2
      exact ⟨.inr ⟨rfl, HF.out⟩, rfl⟩

theorem pow_le64 {b : Nat} (hb : b ≤ 64) : 2 ^ b ≤ 18446744073709551616 := Nat.pow_le_pow_right (n := 2) (by decide) hb
theorem pow_cast (b : Nat) : (2 : Int) ^ b = ((2 ^ b : Nat) : Int) := by simp

theorem mask_form {b : Nat} (hb : b ≤ 64) : IntKind.u64.wrap (IntKind.u64.wrap (2 ^ b) - 1) = ((2 ^ b - 1 : Nat) : Int) := by
  have h1 := pow_le64 hb
  have h2 := Nat.two_pow_pos b
  rw [pow_cast, IntKind.wrap_u64, IntKind.wrap_u64]
  generalize 2 ^ b = P at h1 h2
  omega

theorem ret_int {k : IntKind} {a b : Int} (h : a = b) : Ending.returned (.int k a) = .returned (.int k b) := by rw [h]

theorem mask_any (b : Nat) (w : World) (hb : b ≤ 64) :
    Calls Try.prog 19 #[.int .i64 b] w fun e w' => e = .returned (.int .u64 ((2 ^ b - 1 : Nat) : Int)) ∧ w' = w := by
  go_enter Try.func19, Try.ntmps19
  go_wp2
  go_ret
  exact ⟨ret_int (mask_form hb), rfl⟩

theorem lowMask_any (b : Nat) (w : World) (hb : b ≤ 64) :
    Calls Try.prog 10 #[.int .i64 b] w fun e w' => e = .returned (.int .u64 ((2 ^ b - 1 : Nat) : Int)) ∧ w' = w := by
  by_cases h0 : b = 0
  · subst h0
    go_enter Try.func10, Try.ntmps10
    go_wp2
    go_ret
    exact ⟨rfl, rfl⟩
  by_cases h64 : b = 64
  · subst h64
    go_enter Try.func10, Try.ntmps10
    go_wp2
    go_ret
    exact ⟨rfl, rfl⟩
  have h1 : (0 : Int) < (b : Int) := by omega
  have h2 : (b : Int) < 64 := by omega
  go_enter Try.func10, Try.ntmps10
  go_wp2
  go_ret
  exact ⟨ret_int (mask_form hb), rfl⟩

theorem cmp_any (a b : Nat) (w : World) :
    Calls Try.prog 12 #[.int .u64 (a : Int), .int .u64 (b : Int)] w fun e w' => e = .returned (.int .i64 (cmp a b)) ∧ w' = w := by
  go_enter Try.func12, Try.ntmps12
  go_wp2
  all_goals
    go_ret
    refine ⟨ret_int ?_, rfl⟩
    unfold cmp
    first
      | (rw [if_pos (by omega)]; done)
      | (rw [if_neg (by omega), if_pos (by omega)]; done)
      | (rw [if_neg (by omega), if_neg (by omega)]; done)

theorem below_nil (w : World) :
    Calls Try.prog 18 #[.agg #[.slice none 0 0], .int .i64 0] w fun e w' => e = .returned (.int .i64 64) ∧ Below w.heap.size w w' := by
  go_enter Try.func18, Try.ntmps18
  go_wp2
  go_loopg [5, 18] 1 (fun gk t i wr => t = .int .i64 64 ∧ i = .int .i64 0 ∧ Below w.heap.size w wr)
  case atStart => exact ⟨rfl, rfl, (Below.refl _ _).alloc (Nat.le_refl _) _⟩
  case round =>
    obtain ⟨rfl, rfl, hb⟩ := hrel
    go_wp2
    go_ret
    exact ⟨rfl, hb⟩

set_option maxRecDepth 8000 in
theorem below_some (g n : Nat) (z : Nat → Int) (w : World) (hn : n ≤ 4194304) (h : Rd w w.heap.size (some ⟨g, 0, none⟩) n z) (hf : Fits z n) :
    Calls Try.prog 18 #[.agg #[.slice (some ⟨g, 0, none⟩) n n], .int .i64 n] w fun e w' => e = .returned (.int .i64 (64 - sumTo z n)) ∧ Below w.heap.size w w' := by
  have HF : Hid (Fits z n) := hf
  clear hf
  go_enter Try.func18, Try.ntmps18
  go_wp2
  go_loopg [5, 18] n (fun gk t i wr => ∃ k : Nat, k ≤ n ∧ n - k ≤ gk ∧ i = .int .i64 k ∧ t = .int .i64 (64 - sumTo z k) ∧ Below w.heap.size w wr)
  case atStart => exact ⟨0, by omega, by omega, rfl, rfl, (Below.refl _ _).alloc (Nat.le_refl _) _⟩
  case round =>
    obtain ⟨k, hk, hgk, rfl, rfl, hb⟩ := hrel
    have hs0 := sumTo_nonneg HF.out.1 k hk
    have hs1 := HF.out.2 k hk
    by_cases hlt : k < n
    · obtain ⟨hB, hc0⟩ := h.at k hlt
      have hc : wr.cell? ⟨g, k, none⟩ = some (.int .i64 (z k)) := by rw [hb.cell (p := ⟨g, k, none⟩) hB]; rwa [Nat.zero_add] at hc0
      obtain ⟨z0, z1⟩ := HF.out.1 k hlt
      clear hc0
      go_wp2_with fail
      go_roundg (n - (k + 1))
      case measure => go_light; omega
      case rel => exact ⟨k + 1, by omega, Nat.le_refl _, by go_num, by congr 1; show _ = 64 - (sumTo z k + z k); omega, hb⟩
    · obtain rfl : k = n := by omega
      go_wp2_with fail
      go_ret
      exact ⟨rfl, hb⟩

theorem wu_form {b base u : Nat} (hb : b ≤ 64) (hbase : base < 18446744073709551616) : bits .or .u64 (IntKind.u64.wrap ((u : Int) * 2 ^ b)) (bits .and .u64 (base : Int) ((2 ^ b - 1 : Nat) : Int)) = ((wu b base u : Nat) : Int) := by
  have h1 := pow_le64 hb
  have h2 := Nat.two_pow_pos b
  have e1 : IntKind.u64.wrap ((u : Int) * 2 ^ b) = ((u * 2 ^ b % 2 ^ 64 : Nat) : Int) := by
    rw [pow_cast, IntKind.wrap_u64]
    simp
  rw [e1, u64_and_nat _ _ hbase (by omega), Nat.and_two_pow_sub_one_eq_mod, u64_or_nat _ _ (Nat.mod_lt _ (by decide)) (by have := Nat.mod_le base (2 ^ b); omega), nat_join b _ _ ?_ (Nat.mod_lt _ h2)]
  · rw [shl_form hb]; rfl
  · rw [shl_form hb, Nat.mul_mod_left]

set_option maxHeartbeats 400000 in
theorem withUpper_some (g n b base u : Nat) (z : Nat → Int) (w : World) (hn : n ≤ 4194304) (h : Rd w w.heap.size (some ⟨g, 0, none⟩) n z) (hf : Fits z n) (hb : (b : Int) = 64 - sumTo z n) (hbase : base < 18446744073709551616) :
    Calls Try.prog 9 #[.agg #[.slice (some ⟨g, 0, none⟩) n n], .int .u64 (base : Int), .int .u64 (u : Int)] w fun e w' => e = .returned (.int .u64 ((wu b base u : Nat) : Int)) ∧ Below w.heap.size w w' := by
  have hs0 := sumTo_nonneg hf.1 n (Nat.le_refl _)
  have hb64 : b ≤ 64 := by omega
  have HB : Hid ((b : Int) = 64 - sumTo z n) := hb
  clear hb hs0
  have hba := fun o => (Below.refl w.heap.size w).alloc (Nat.le_refl _) o
  have hrd : ∀ o, Rd (w.alloc o) (w.alloc o).heap.size (some ⟨g, 0, none⟩) n z := fun o => (h.below (hba o)).mono (hba o).size
  go_enter Try.func9, Try.ntmps9
  go_wp2_with fail
  refine (below_some g n z _ hn (hrd _) hf).mono ?_
  rintro e w1 ⟨rfl, hb1⟩
  rw [← HB.out]
  have hbb := (hba _).trans (hb1.mono (hba _).size)
  clear hrd hba hb1 h hf HB
  go_wp2_with fail
  go_quiet ((go_at_call 19; exact Calls.quiet_of_same (mask_any _ _ hb64)))
  go_wp2_with fail
  go_ret
  exact ⟨ret_int (wu_form hb64 hbase), below_drewN hbb _⟩

set_option maxHeartbeats 400000 in
theorem withUpper_nil (b base u : Nat) (w : World) (hb64 : b ≤ 64) (hb0 : 64 ≤ b) (hbase : base < 18446744073709551616) :
    Calls Try.prog 9 #[.agg #[.slice none 0 0], .int .u64 (base : Int), .int .u64 (u : Int)] w fun e w' => e = .returned (.int .u64 ((wu b base u : Nat) : Int)) ∧ Below w.heap.size w w' := by
  have hba := fun o => (Below.refl w.heap.size w).alloc (Nat.le_refl _) o
  go_enter Try.func9, Try.ntmps9
  go_wp2_with fail
  refine (below_nil _).mono ?_
  rintro e w1 ⟨rfl, hb1⟩
  have hbb := (hba _).trans (hb1.mono (hba _).size)
  clear hba hb1
  rw [show (64 : Int) = (b : Int) by omega]
  clear hb0
  go_wp2_with fail
  go_quiet ((go_at_call 19; exact Calls.quiet_of_same (mask_any _ _ hb64)))
  go_wp2_with fail
  go_ret
  exact ⟨ret_int (wu_form hb64 hbase), below_drewN hbb _⟩

theorem newLayout_any (v : Option Addr) (n c : Nat) (w : World) :
    Calls Try.prog 8 #[.slice v n c] w fun e w' => e = .returned (.agg #[.slice v n c]) ∧ Below w.heap.size w w' := by
  go_enter Try.func8, Try.ntmps8
  go_wp2
  exact bodyPost_ret (v := .agg #[.slice v n c]) (by simp [results, Try.results8, go_sem]) rfl ⟨rfl, (Below.refl _ _).alloc (Nat.le_refl _) _⟩
end Go.Proofs.Qxb6616528a
