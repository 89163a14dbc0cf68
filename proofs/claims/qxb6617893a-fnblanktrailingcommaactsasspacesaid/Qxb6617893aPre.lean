/-
  SEAT b6617893a: what blank does ahead of its loop: the byte order mark.
-/
import Derived.Test.Qxb6617893aSmall
import Derived.Lib.SlBytesConst
namespace Go.Proofs.Qxb6617893a
open Go.ChangeShapes Go.WideShapes Go.ChangeAt Go.RowKit
open Plain

/-- The bytes as a list of numbers. -/
def numsF (z : Nat → Int) (n : Nat) : List Int := (List.range n).map z
theorem numsF_length (z : Nat → Int) (n : Nat) : (numsF z n).length = n := by simp [numsF]
theorem numsF_get (z : Nat → Int) (n i : Nat) (h : i < n) : (numsF z n).getD i 0 = z i := by simp [numsF, List.getD, h]
theorem numsF_cells (z : Nat → Int) (n : Nat) : (numsF z n).map (Value.int .u8) = cellsF z n := by simp [numsF, cellsF]

theorem rd_bytesIn {w : World} {B n : Nat} {a : Option Addr} {z : Nat → Int} (h : Rd w B a n z) : Lib.BytesIn w a n (numsF z n) := by
  intro h0
  obtain ⟨b, off, rfl, _, _⟩ := h 0 h0
  exact ⟨b, off, rfl, fun i hi => by rw [(h.at i hi).2, numsF_get _ _ _ hi]⟩

theorem u8_eq {x : Int} (h : 0 ≤ x ∧ x < 256) (c : Nat) (hc : c < 256) : (UInt8.ofNat x.toNat == UInt8.ofNat c) = (x == (c : Int)) := by
  rw [Bool.eq_iff_iff, beq_iff_eq, beq_iff_eq]
  constructor
  · intro e
    have := congrArg UInt8.toNat e
    simp at this
    omega
  · intro e
    rw [e]; simp

theorem hp_bom {z : Nat → Int} {n : Nat} (hz : ∀ i, i < n → 0 ≤ z i ∧ z i < 256) : Lib.hasPrefix (Lib.bytesOf (numsF z n)) (Lib.bytesOf [239, 187, 191]) = bom z n := by
  match n with
  | 0 => rfl
  | 1 => simp [Lib.hasPrefix, Lib.bytesOf, numsF, bom, List.range_succ_eq_map, List.isPrefixOf]
  | 2 => simp [Lib.hasPrefix, Lib.bytesOf, numsF, bom, List.range_succ_eq_map, List.isPrefixOf]
  | n + 3 =>
    have e0 := u8_eq (hz 0 (by omega)) 239 (by omega)
    have e1 := u8_eq (hz 1 (by omega)) 187 (by omega)
    have e2 := u8_eq (hz 2 (by omega)) 191 (by omega)
    have e : numsF z (n + 3) = z 0 :: z 1 :: z 2 :: (List.range n).map (fun i => z (i + 3)) := by
      simp [numsF, List.range_succ_eq_map, Function.comp_def]
    rw [e]
    have f : ∀ c : Nat, UInt8.ofNat ((c : Int)).toNat = UInt8.ofNat c := fun c => by simp
    show List.isPrefixOf [UInt8.ofNat ((239 : Nat) : Int).toNat, UInt8.ofNat ((187 : Nat) : Int).toNat, UInt8.ofNat ((191 : Nat) : Int).toNat] (UInt8.ofNat (z 0).toNat :: UInt8.ofNat (z 1).toNat :: UInt8.ofNat (z 2).toNat :: _) = _
    rw [f, f, f]
    have g : ∀ a b : UInt8, (a == b) = (b == a) := fun a b => by rw [Bool.eq_iff_iff, beq_iff_eq, beq_iff_eq]; exact eq_comm
    simp only [List.isPrefixOf, Bool.and_true]
    rw [g, e0, g (UInt8.ofNat 187), e1, g (UInt8.ofNat 191), e2]
    simp [bom]

def sp3 : List Value := [.int .u8 32, .int .u8 32, .int .u8 32]
/-- 'copy(out, three spaces)': the first three bytes of an owned row are blanked. -/
theorem copy_sp3 (w0 w : World) (B g n cap : Nat) (z : Nat → Int) (hown : w.ownsRow B 5 1 (.slice (some ⟨g, 0, none⟩) n cap) n (cellsF z n)) (hn : 3 ≤ n) (hb : Below B w0 w) :
    ∃ w', (Builtin.copy_ #[22, 9] 3 #[.slice (some ⟨g, 0, none⟩) n cap, .string ⟨#[32, 32, 32]⟩]).run Try.prog w = .ok (.int .i64 3) w' ∧ w'.ownsRow B 5 1 (.slice (some ⟨g, 0, none⟩) n cap) n (cellsF (fun i => if i < 3 then 32 else z i) n) ∧ Below B w0 w' := by
  rcases hown.2 with ⟨e, _⟩ | ⟨g', cap', cur, e, h1, h2, h3, h4, h5, h6⟩
  · simp at e
  · simp only [Value.slice.injEq, Option.some.injEq, Addr.mk.injEq, and_true, true_and] at e
    obtain ⟨rfl, rfl⟩ := e
    have hst := run_storeCells_at Try.prog g 0 5 sp3 0 cur w h2 (by simp [sp3]; omega) (by intro v hv; simp [sp3] at hv; subst hv; rfl)
    obtain ⟨i0, hi, hz0, hz1, hz2⟩ := info_parts info5
    have hm : Nat.min 3 n = 3 := Nat.min_eq_left hn
    have hrun : (Builtin.copy_ #[22, 9] 3 #[.slice (some ⟨g, 0, none⟩) n cap, .string ⟨#[32, 32, 32]⟩]).run Try.prog w = .ok (.int .i64 3) (w.setRow g (cur.toList.take (0 + 0) ++ sp3 ++ cur.toList.drop (0 + 0 + 3)).toArray) := by
      have hs : (ByteArray.mk #[32, 32, 32]).size = 3 := rfl
      have hst' : (storeCells ⟨g, 0, none⟩ sp3 0).run Try.prog w = .ok () (w.setRow g (cur.toList.take (0 + 0) ++ sp3 ++ cur.toList.drop (0 + 0 + 3)).toArray) := hst
      simp [Builtin.copy_, run_underlying Try.underlying22, Builtin.lenOf, Builtin.firstCells, sizeOf, typeInfo, hi, hs, hm, goInt]
      have e : (storeCells ⟨g, 0, none⟩ [Value.int IntKind.u8 32, Value.int IntKind.u8 32, Value.int IntKind.u8 32] 0).run Try.prog w = _ := hst'
      rw [e]
      simp
    have hl : cur.toList.length = cap := by rw [Array.length_toList]; omega
    have hcell : ∀ i, i < n → cur.toList[i]? = some (.int .u8 (z i)) := by
      intro i hi
      have := cellsF_get z n i hi
      rw [← h6, List.getElem?_take, if_pos (by omega)] at this
      exact this
    refine ⟨_, hrun, ⟨by rw [cellsF_length]; omega, .inr ⟨g, cap, _, rfl, h1, setRow_heap w g _ _ 5 _ h2, h3, h4, ?_, ?_⟩⟩, below_setRow hb h1 _⟩
    · simp [sp3]; omega
    · apply List.ext_getElem?
      intro i
      by_cases hi : i < n
      · rw [List.getElem?_take, if_pos (by omega), cellsF_get _ _ _ hi]
        by_cases h3' : i < 3
        · rw [if_pos h3']
          match i, h3' with
          | 0, _ => simp [sp3]
          | 1, _ => simp [sp3]
          | 2, _ => simp [sp3]
        · rw [if_neg h3']
          obtain ⟨j, rfl⟩ : ∃ j, i = j + 3 := ⟨i - 3, by omega⟩
          have := hcell (j + 3) hi
          simp [sp3, Nat.add_comm 3 j] at this ⊢
          exact this
      · rw [List.getElem?_eq_none (by simp [sp3]; omega), List.getElem?_eq_none (by rw [cellsF_length]; omega)]
end Go.Proofs.Qxb6617893a
