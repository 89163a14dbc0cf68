/-
  THE SHARED WALKS OF SEAT b6616978a: the message of a surrogateError; the bounds on lengths.
-/
import Derived.Test.Qxb6616978aRows
import Derived.WalkKit
import Derived.ProofKit
import Derived.OpenShut
import Derived.ShutString
namespace Go.Proofs.Qxb6616978a
open Go.ChangeShapes Go.WideShapes Go.ChangeAt Go.RowKit

theorem grown_trans {a b c : World} (h : Grown a b) (k : Grown b c) : Grown a c :=
  ⟨World.keptBut_trans h.1 k.1, fun x => (k.2.1 x).trans (h.2.1 x), Nat.le_trans h.2.2 k.2.2⟩

/-- The text ahead of the escape. -/
def preB : ByteArray := ⟨#[116, 104, 101, 32, 115, 116, 114, 105, 110, 103, 32, 104, 111, 108, 100, 115, 32, 116, 104, 101, 32, 101, 115, 99, 97, 112, 101, 32]⟩
/-- The text behind the escape. -/
def postB : ByteArray := ⟨#[44, 32, 97, 32, 108, 111, 110, 101, 32, 115, 117, 114, 114, 111, 103, 97, 116, 101, 44, 32, 119, 104, 105, 99, 104, 32, 110, 97, 109, 101, 115, 32, 110, 111, 32, 99, 104, 97, 114, 97, 99, 116, 101, 114]⟩
def msg (a : ByteArray) : ByteArray := preB ++ a ++ postB

theorem error_any (a : ByteArray) (b : Nat) (w : World) (ha : a.size ≤ 1048576) (hc : w.cell? ⟨b, 0, none⟩ = some (.string a)) :
    Calls Try.prog 17 #[.pointer (some ⟨b, 0, none⟩)] w fun e w' => e = .returned (.string (msg a)) ∧ w' = w := by
  go_enter Try.func17, Try.ntmps17
  go_wp2
  go_ret
  exact ⟨rfl, rfl⟩

theorem text_any (a : ByteArray) (x : Int) (w : World) (ha : a.size ≤ 1048576) :
    Calls Try.prog 13 #[.string a, .int .i64 x] w fun e w' => e = .returned (.string (msg a)) ∧ Grown w w' := by
  go_enter Try.func13, Try.ntmps13
  go_wp2_with (go_at_call 17; refine (error_any a _ _ ha (by simp)).mono ?_; rintro e w' ⟨rfl, rfl⟩)
  go_ret
  exact ⟨rfl, by repeat (first | exact Grown.refl _ | apply Grown.drew | apply Grown.alloc)⟩

theorem bytes12_any (a : ByteArray) (x : Int) (b : ByteArray) (y : Int) (w : World) (ha : a.size ≤ maxLen) (hb : b.size ≤ maxLen) :
    Calls Try.prog 12 #[.string a, .int .i64 x, .string b, .int .i64 y] w fun e w' => (∃ r, e = .returned (.bool r) ∧ (r = true → a.size ≤ 1048576 ∧ b.size ≤ 1048576)) ∧ w' = w := by
  unfold maxLen at ha hb
  go_enter Try.func12, Try.ntmps12
  go_wp2
  all_goals
    go_ret
    exact ⟨⟨_, rfl, by first | (intro h; cases h; done) | (intro _; omega)⟩, rfl⟩

theorem bytes14_any (a : ByteArray) (x y : Int) (w : World) (ha : a.size ≤ maxLen) :
    Calls Try.prog 14 #[.string a, .int .i64 x, .int .i64 y] w fun e w' => (∃ r, e = .returned (.bool r) ∧ (r = true → a.size ≤ 1048576)) ∧ w' = w := by
  unfold maxLen at ha
  go_enter Try.func14, Try.ntmps14
  go_wp2
  all_goals
    go_ret
    exact ⟨⟨_, rfl, by first | (intro h; cases h; done) | (intro _; omega)⟩, rfl⟩
end Go.Proofs.Qxb6616978a
