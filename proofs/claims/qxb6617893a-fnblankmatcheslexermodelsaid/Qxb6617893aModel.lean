/-
  SEAT b6617893a: zzModelBlank answers as 'Blanked' says.
-/
import Derived.Test.Qxb6617893aKinds
set_option linter.unusedSimpArgs false
namespace Go.Proofs.Qxb6617893a
open Go.ChangeShapes Go.WideShapes Go.ChangeAt Go.RowKit
open Plain

namespace Plain
theorem kind4 (z : Nat → Int) (n k : Nat) : kind z n k = 4 ↔ inBom z n k = true := by
  unfold kind kd
  by_cases h : inBom z n k = true
  · simp [h]
  · rw [if_neg h]
    constructor
    · intro e
      exfalso
      split at e
      · split at e <;> omega
      · split at e
        · omega
        · split at e
          · omega
          · split at e
            · omega
            · split at e <;> omega
    · intro e; exact absurd e h

def D (z : Nat → Int) (n p j : Nat) : Prop := (kind z n j = 2 ∨ kind z n j = 4) ∨ (j < p ∧ Done z n n j)
def MInv (z : Nat → Int) (n p : Nat) (out : Nat → Int) : Prop := ∀ j, j < n → (D z n p j → out j = 32) ∧ (¬ D z n p j → out j = z j)
/-- What the first loop lays. -/
def base (z : Nat → Int) (n k i : Nat) : Int := if i < k then (if kind z n i = 2 ∨ kind z n i = 4 then 32 else z i) else 0

theorem minv_start (z : Nat → Int) (n : Nat) : MInv z n 0 (base z n n) := by
  intro j hj
  unfold base
  rw [if_pos hj]
  constructor
  · rintro (h | ⟨h, _⟩)
    · rw [if_pos h]
    · omega
  · intro h
    rw [if_neg (fun e => h (.inl e))]

theorem minv_skip {z out : Nat → Int} {n p : Nat} (h : MInv z n p out) (hd : ¬ Done z n n p) : MInv z n (p + 1) out := by
  have key : ∀ j, D z n (p + 1) j ↔ D z n p j := by
    intro j
    constructor
    · rintro (e | ⟨e1, e2⟩)
      · exact .inl e
      · have : j ≠ p := by rintro rfl; exact hd e2
        exact .inr ⟨by omega, e2⟩
    · rintro (e | ⟨e1, e2⟩)
      · exact .inl e
      · exact .inr ⟨by omega, e2⟩
  intro j hj
  rw [key j]
  exact h j hj

theorem minv_set {z out : Nat → Int} {n p : Nat} (h : MInv z n p out) (hd : Done z n n p) : MInv z n (p + 1) (upd out p 32) := by
  intro j hj
  by_cases e : j = p
  · subst e
    rw [upd_same]
    exact ⟨fun _ => rfl, fun hn => absurd (.inr ⟨by omega, hd⟩) hn⟩
  · rw [upd_ne _ _ e]
    have key : D z n (p + 1) j ↔ D z n p j := by
      constructor
      · rintro (e | ⟨e1, e2⟩)
        · exact .inl e
        · exact .inr ⟨by omega, e2⟩
      · rintro (e | ⟨e1, e2⟩)
        · exact .inl e
        · exact .inr ⟨by omega, e2⟩
    rw [key]
    exact h j hj

theorem minv_end {z out : Nat → Int} {n : Nat} (h : MInv z n n out) : Blanked z n out := by
  intro j hj
  have key : C z n n j ↔ D z n n j := by
    constructor
    · rintro (⟨_, e⟩ | e | e)
      · exact .inl (.inl e)
      · exact .inl (.inr ((kind4 z n j).2 e))
      · exact .inr ⟨hj, e⟩
    · rintro ((e | e) | ⟨_, e⟩)
      · exact .inl ⟨hj, e⟩
      · exact .inr (.inl ((kind4 z n j).1 e))
      · exact .inr (.inr e)
  rw [key]
  exact h j hj

/-- No significant byte follows before the end. -/
theorem notDone_end {z : Nat → Int} {n p : Nat} (h : ∀ j, p < j → j < n → kind z n j ≠ 0) : ¬ Done z n n p := by
  rintro ⟨_, _, _, q, h1, h2, h3, _⟩
  exact h q h1 h2 h3

/-- The next significant byte closes nothing. -/
theorem notDone_next {z : Nat → Int} {n p q : Nat} (hpq : p < q) (hq : kind z n q = 0) (h : ∀ j, p < j → j < q → kind z n j ≠ 0) (h1 : z q ≠ 93) (h2 : z q ≠ 125) : ¬ Done z n n p := by
  rintro ⟨_, _, _, q', a, b, c, d, e⟩
  have : q' = q := by
    rcases Nat.lt_trichotomy q q' with hh | hh | hh
    · exact absurd hq (d q hpq hh)
    · exact hh.symm
    · exact absurd c (h q' a hh)
  subst this
  rcases e with e | e
  · exact h1 e
  · exact h2 e

/-- The significant byte before opens. -/
theorem notDone_open {z : Nat → Int} {n p r : Nat} (hr : r < p) (h0 : kind z n r = 0) (h : ∀ j, r + 1 ≤ j → j < p → kind z n j ≠ 0) (hz : z r = 91 ∨ z r = 123) : ¬ Done z n n p :=
  fun hd => hd.2.2.1 ⟨r, hr, h0, fun j h1 h2 => h j h1 h2, hz⟩

theorem notOpn_none {z : Nat → Int} {n p : Nat} (h : ∀ j, 0 ≤ j → j < p → kind z n j ≠ 0) : ¬ Opn z n p := by
  rintro ⟨r, a, b, _⟩
  exact h r (Nat.zero_le _) a b

theorem notOpn_other {z : Nat → Int} {n p r : Nat} (hr : r < p) (h0 : kind z n r = 0) (h : ∀ j, r + 1 ≤ j → j < p → kind z n j ≠ 0) (h1 : z r ≠ 91) (h2 : z r ≠ 123) : ¬ Opn z n p := by
  rintro ⟨r', a, b, c, d⟩
  have : r' = r := by
    rcases Nat.lt_trichotomy r r' with hh | hh | hh
    · exact absurd b (h r' hh a)
    · exact hh.symm
    · exact absurd h0 (c r hh hr)
  subst this
  rcases d with e | e
  · exact h1 e
  · exact h2 e

theorem done_mk {z : Nat → Int} {n p q : Nat} (h0 : kind z n p = 0) (hz : z p = 44) (hpq : p < q) (hqn : q < n) (hq : kind z n q = 0) (h : ∀ j, p < j → j < q → kind z n j ≠ 0) (hc : z q = 93 ∨ z q = 125) (ho : ¬ Opn z n p) : Done z n n p :=
  ⟨h0, hz, ho, q, hpq, hqn, hq, h, hc⟩
end Plain

/-- The second loop's head. -/
def MRel (w2 : World) (z : Nat → Int) (n gk : Nat) (i : Value) (wr : World) : Prop :=
  ∃ (p : Nat) (out : Nat → Int), p ≤ n ∧ n - p ≤ gk ∧ i = .int .i64 p ∧ MInv z n p out ∧ wr.ownsRow w2.heap.size 5 1 (.slice (some ⟨w2.heap.size, 0, none⟩) n n) n (cellsF out n) ∧ Below w2.heap.size w2 wr
theorem mrel_mk {w2 wr : World} {z out : Nat → Int} {n p : Nat} (hp : p < n) (hI : MInv z n (p + 1) out) (ho : wr.ownsRow w2.heap.size 5 1 (.slice (some ⟨w2.heap.size, 0, none⟩) n n) n (cellsF out n)) (hb : Below w2.heap.size w2 wr) :
    MRel w2 z n (n - (p + 1)) (.int .i64 ((p : Int) + 1)) wr := ⟨p + 1, out, hp, Nat.le_refl _, by rw [Int.natCast_add]; rfl, hI, ho, hb⟩

/-- The loop backwards. -/
def RRel (z : Nat → Int) (n p gk : Nat) (i : Value) : Prop :=
  ∃ m : Nat, m ≤ p ∧ m ≤ gk ∧ ((m = 0 ∧ i = .int .i64 (-1)) ∨ ∃ m' : Nat, m = m' + 1 ∧ i = .int .i64 (m' : Int)) ∧ ∀ j, m ≤ j → j < p → kind z n j ≠ 0
theorem rrel_mk {z : Nat → Int} {n p m : Nat} (hm : m ≤ p) (h : ∀ j, m ≤ j → j < p → kind z n j ≠ 0) : RRel z n p m (.int .i64 ((m : Int) - 1)) := by
  refine ⟨m, hm, Nat.le_refl _, ?_, h⟩
  match m with
  | 0 => exact .inl ⟨rfl, rfl⟩
  | m' + 1 => exact .inr ⟨m', rfl, by congr 1; omega⟩

theorem base_step {z : Nat → Int} {n k : Nat} : (∀ i, i < n → upd (base z n k) k (if kind z n k = 2 ∨ kind z n k = 4 then 32 else z k) i = base z n (k + 1) i) := by
  intro i _
  by_cases e : i = k
  · subst e
    rw [upd_same, base, if_pos (show i < i + 1 by omega)]
  · rw [upd_ne _ _ e, base, base]
    by_cases h : i < k
    · rw [if_pos h, if_pos (show i < k + 1 by omega)]
    · rw [if_neg h, if_neg (show ¬ i < k + 1 by omega)]

theorem model_nil (n c : Nat) (w : World) :
    Calls Try.prog 9 #[.slice none n c] w fun e w' => e = .returned (.slice none 0 0) ∧ w' = w := by
  have q22 : ∀ (w : World) (a : Option Addr) (n c n' c' : Nat), (binOp .eql 22 (.slice a n c) (.slice none n' c')).run Try.prog w = .ok (.bool a.isNone) w := fun w a n c n' c' => Lib.run_eql_slice_nil w _ _ a n c n' c' Try.underlying22
  go_enter Try.func9, Try.ntmps9
  go_wp2_with fail
  go_ret
  exact ⟨rfl, rfl⟩

set_option maxRecDepth 8000 in
set_option maxHeartbeats 1000000 in
theorem model_some (x : Addr) (n c : Nat) (z : Nat → Int) (w : World) (hn : n ≤ 4194304) (h : Rd w w.heap.size (some x) n z) :
    Calls Try.prog 9 #[.slice (some x) n c] w fun e w' => ∃ g y, e = .returned (.slice (some ⟨g, 0, none⟩) n n) ∧ w'.ownsRow w.heap.size 5 1 (.slice (some ⟨g, 0, none⟩) n n) n (cellsF y n) ∧ Blanked z n y ∧ Below w.heap.size w w' := by
  have q22 : ∀ (w : World) (a : Option Addr) (n c n' c' : Nat), (binOp .eql 22 (.slice a n c) (.slice none n' c')).run Try.prog w = .ok (.bool a.isNone) w := fun w a n c n' c' => Lib.run_eql_slice_nil w _ _ a n c n' c' Try.underlying22
  obtain ⟨i0, hi, hz0, hz1, hz2⟩ := info_parts info5
  have b2 : i0.bytes * n ≤ 281474976710656 := by rw [hz2]; omega
  have b3 : n ≤ maxLen := by unfold maxLen; omega
  go_enter Try.func9, Try.ntmps9
  go_wp2_with fail
  refine (kinds_any (some x) n c z w hn h).mono ?_
  rintro e w2 ⟨rfl, hko, hkb⟩
  have hrk : Rd w2 w2.heap.size (some ⟨w.heap.size, 0, none⟩) n (kind z n) := owns_rd hko
  have hrt : Rd w2 w2.heap.size (some x) n z := (h.below hkb).mono hkb.size
  clear q22 h hko
  generalize hG : w.heap.size = G at hrk hkb ⊢
  go_wp2_with (at_make; refine wpList_make_full _ rfl (.tmp 20) (.tmp 20) 22 rfl w2.heap.size 5 i0 (.int .u8 0) 1 Try.underlying22 hi hz0 hz1 .i64 .i64 _ _ n rfl rfl rfl rfl b2 b3 (Nat.le_refl _) ?_)
  intro w3 ho3 hg3
  rw [toList_madeCells_one, cellsF_replicate] at ho3
  have hb3 := (Below.refl w2.heap.size w2).grown hg3 (Nat.le_refl _) (by simp)
  clear hg3 b2 b3 hi hz0 hz1 hz2
  go_wp2_with fail
  go_loopg [7] n (fun gk i wr => ∃ k : Nat, k ≤ n ∧ n - k ≤ gk ∧ i = .int .i64 k ∧ wr.ownsRow w2.heap.size 5 1 (.slice (some ⟨w2.heap.size, 0, none⟩) n n) n (cellsF (base z n k) n) ∧ Below w2.heap.size w2 wr)
  case atStart => exact ⟨0, by omega, by omega, rfl, ho3, hb3⟩
  case round =>
    clear ho3 hb3
    obtain ⟨k, hk, hgk, rfl, ho, hb⟩ := hrel
    by_cases hlt : k < n
    · obtain ⟨b, off, e, hB, hc0⟩ := (hrt.below hb) k hlt
      obtain rfl := Option.some.inj e
      have hck := ((hrk.below hb).at k hlt).2
      have hGlt := ((hrk.below hb).at k hlt).1
      rw [Nat.zero_add] at hck
      have hold := owns_cell ho hlt
      have hfro := ho.frozenAt k
      have hb1 := hb.setCell (p := ⟨w2.heap.size, k, none⟩) (Nat.le_refl _) (.int .u8 (z k))
      have ho1 := owns_store ho k (z k)
      have hb4 := hb1.setCell (p := ⟨w2.heap.size, k, none⟩) (Nat.le_refl _) (.int .u8 32)
      have ho4 := owns_store ho1 k 32
      have hsp : (kind z n k = 2 ∨ kind z n k = 4) → cellsF (upd (upd (base z n k) k (z k)) k 32) n = cellsF (base z n (k + 1)) n := fun hh => cellsF_ext fun i hi => by
        rw [← base_step i hi, if_pos hh]
        by_cases e : i = k
        · rw [e, upd_same, upd_same]
        · rw [upd_ne _ _ e, upd_ne _ _ e, upd_ne _ _ e]
      have hpl : ¬ (kind z n k = 2 ∨ kind z n k = 4) → cellsF (upd (base z n k) k (z k)) n = cellsF (base z n (k + 1)) n := fun hh => cellsF_ext fun i hi => by rw [← base_step i hi, if_neg hh]
      have hGne : G ≠ w2.heap.size := by omega
      clear e
      by_cases h2 : kind z n k = 2
      · rw [h2] at hck
        rw [hsp (.inl h2)] at ho4
        have HO : Hid (((wr.setCell ⟨w2.heap.size, k, none⟩ (.int .u8 (z k))).setCell ⟨w2.heap.size, k, none⟩ (.int .u8 32)).ownsRow w2.heap.size 5 1 (.slice (some ⟨w2.heap.size, 0, none⟩) n n) n (cellsF (base z n (k + 1)) n)) := ho4
        clear h2 ho1 hb1 ho4 hsp hpl
        go_wp2_with fail
        go_roundg (n - (k + 1))
        case measure => go_light; omega
        case rel => exact ⟨k + 1, hlt, Nat.le_refl _, by go_num, HO.out, hb4⟩
      by_cases h4 : kind z n k = 4
      · rw [h4] at hck
        rw [hsp (.inr h4)] at ho4
        have HO : Hid (((wr.setCell ⟨w2.heap.size, k, none⟩ (.int .u8 (z k))).setCell ⟨w2.heap.size, k, none⟩ (.int .u8 32)).ownsRow w2.heap.size 5 1 (.slice (some ⟨w2.heap.size, 0, none⟩) n n) n (cellsF (base z n (k + 1)) n)) := ho4
        clear h2 h4 ho1 hb1 ho4 hsp hpl
        go_wp2_with fail
        go_roundg (n - (k + 1))
        case measure => go_light; omega
        case rel => exact ⟨k + 1, hlt, Nat.le_refl _, by go_num, HO.out, hb4⟩
      · rw [hpl (fun e => e.elim h2 h4)] at ho1
        have HO : Hid ((wr.setCell ⟨w2.heap.size, k, none⟩ (.int .u8 (z k))).ownsRow w2.heap.size 5 1 (.slice (some ⟨w2.heap.size, 0, none⟩) n n) n (cellsF (base z n (k + 1)) n)) := ho1
        have h2' : (kind z n k == 2) = false := by simpa using h2
        have h4' : (kind z n k == 4) = false := by simpa using h4
        clear h2 h4 ho1 ho4 hb4 hsp hpl
        go_wp2_with fail
        go_roundg (n - (k + 1))
        case measure => go_light; omega
        case rel => exact ⟨k + 1, hlt, Nat.le_refl _, by go_num, HO.out, hb1⟩
    · obtain rfl : k = n := by omega
      have hM := minv_start z k
      go_wp2_with fail
      go_loopg [8] k (fun gk i wr => MRel w2 z k gk i wr)
      case atStart => exact ⟨0, _, by omega, by omega, rfl, hM, ho, hb⟩
      case round =>
        clear hM ho hb
        obtain ⟨p, out, hp, hgp, rfl, hM, ho, hb⟩ := hrel
        by_cases hlt : p < k
        · obtain ⟨b, off, e, hB, hc0⟩ := (hrt.below hb) p hlt
          obtain rfl := Option.some.inj e
          have hck := ((hrk.below hb).at p hlt).2
          rw [Nat.zero_add] at hck
          clear e
          by_cases h0 : kind z k p = 0
          · by_cases h44 : z p = 44
            · rw [h0] at hck
              rw [h44] at hc0
              have HH : Hid (kind z k p = 0 ∧ z p = 44 ∧ MInv z k p out) := ⟨h0, h44, hM⟩
              clear h0 h44 hM
              go_wp2_with fail
              go_loopg [9] k (fun gk i wq => ∃ q : Nat, p + 1 ≤ q ∧ q ≤ k ∧ k - q ≤ gk ∧ i = .int .i64 q ∧ (∀ j, p < j → j < q → kind z k j ≠ 0) ∧ wq = wr)
              case atStart => exact ⟨p + 1, Nat.le_refl _, by omega, by omega, by go_num, fun j h1 h2 => by omega, rfl⟩
              case round =>
                clear hc0 hck
                obtain ⟨q, hq1, hq2, hgq, rfl, hqn, rfl⟩ := hrel
                obtain ⟨h0, h44, hM⟩ := HH.out
                clear HH
                by_cases hql : q < k
                · have hcq := ((hrk.below hb).at q hql).2
                  rw [Nat.zero_add] at hcq
                  have hqi : (q : Int) < (k : Int) := by omega
                  by_cases hq0 : kind z k q = 0
                  · rw [hq0] at hcq
                    have hct := ((hrt.below hb).at q hql).2
                    have hqi2 : decide ((k : Int) ≤ (q : Int)) = false := decide_eq_false (by omega)
                    by_cases hcl : z q = 93 ∨ z q = 125
                    · have hnl : ¬ Opn z k p → Done z k k p := done_mk h0 h44 (by omega) hql hq0 hqn hcl
                      have HN : Hid ((¬ Opn z k p → Done z k k p) ∧ MInv z k p out) := ⟨hnl, hM⟩
                      clear hnl hM hqn hq0 h0 h44
                      rcases hcl with hv | hv
                      all_goals
                        rw [hv] at hct
                        clear hv
                        go_wp2_with fail
                        go_loopg [10] p (fun gk i wq => RRel z k p gk i ∧ wq = wr)
                        case atStart => exact ⟨rrel_mk (Nat.le_refl p) (fun j h1 h2 => by omega), rfl⟩
                        case round =>
                          clear hct hcq
                          obtain ⟨⟨m, hm, hgm, hcase, hno⟩, rfl⟩ := hrel
                          obtain ⟨hnl, hM⟩ := HN.out
                          clear HN
                          have hold := owns_cell ho hlt
                          have hfro := ho.frozenAt p
                          rcases hcase with ⟨rfl, rfl⟩ | ⟨m', rfl, rfl⟩
                          · have R := mrel_mk hlt (minv_set hM (hnl (notOpn_none hno))) (owns_store ho p 32) (hb.setCell (p := ⟨w2.heap.size, p, none⟩) (Nat.le_refl _) (.int .u8 32))
                            have HR : Hid (MRel w2 z k (k - (p + 1)) (.int .i64 ((p : Int) + 1)) (wr.setCell ⟨w2.heap.size, p, none⟩ (.int .u8 32))) := R
                            clear R hM hnl hno
                            go_wp2_with fail
                            go_roundg (k - (p + 1))
                            case measure => go_light; omega
                            case rel => exact HR.out
                          · have hml : m' < k := by omega
                            have hmi : (m' : Int) < (k : Int) := by omega
                            have hcm := ((hrk.below hb).at m' hml).2
                            rw [Nat.zero_add] at hcm
                            by_cases hm0 : kind z k m' = 0
                            · rw [hm0] at hcm
                              have hct := ((hrt.below hb).at m' hml).2
                              by_cases hop : z m' = 91 ∨ z m' = 123
                              · have R := mrel_mk hlt (minv_skip hM (notDone_open hm hm0 hno hop)) ho hb
                                have HR : Hid (MRel w2 z k (k - (p + 1)) (.int .i64 ((p : Int) + 1)) wr) := R
                                clear R hM hnl hno hm0
                                rcases hop with hv | hv
                                all_goals
                                  rw [hv] at hct
                                  clear hv
                                  go_wp2_with fail
                                  go_roundg (k - (p + 1))
                                  case measure => go_light; omega
                                  case rel => exact HR.out
                              · have R := mrel_mk hlt (minv_set hM (hnl (notOpn_other hm hm0 hno (fun e => hop (.inl e)) (fun e => hop (.inr e))))) (owns_store ho p 32) (hb.setCell (p := ⟨w2.heap.size, p, none⟩) (Nat.le_refl _) (.int .u8 32))
                                have HR : Hid (MRel w2 z k (k - (p + 1)) (.int .i64 ((p : Int) + 1)) (wr.setCell ⟨w2.heap.size, p, none⟩ (.int .u8 32))) := R
                                have o1 : (z m' == 91) = false := by simpa using fun e => hop (.inl e)
                                have o2 : (z m' == 123) = false := by simpa using fun e => hop (.inr e)
                                clear R hM hnl hno hm0 hop
                                go_wp2_with fail
                                go_roundg (k - (p + 1))
                                case measure => go_light; omega
                                case rel => exact HR.out
                            · have HR : Hid (RRel z k p m' (.int .i64 ((m' : Int) - 1))) := rrel_mk (by omega) (fun j h1 h2 => by
                                rcases Nat.lt_or_ge m' j with hj | hj
                                · exact hno j hj h2
                                · obtain rfl : j = m' := by omega
                                  exact hm0)
                              have m1 : (kind z k m' == 0) = false := by simpa using hm0
                              have m2 : (kind z k m' != 0) = true := by simpa using hm0
                              have HN : Hid ((¬ Opn z k p → Done z k k p) ∧ MInv z k p out) := ⟨hnl, hM⟩
                              clear hM hnl hno hm0
                              go_wp2_with fail
                              go_roundg m'
                              case measure => go_light; omega
                              case rel => exact ⟨HR.out, rfl⟩
                    · have R := mrel_mk hlt (minv_skip hM (notDone_next (by omega) hq0 hqn (fun e => hcl (.inl e)) (fun e => hcl (.inr e)))) ho hb
                      have HR : Hid (MRel w2 z k (k - (p + 1)) (.int .i64 ((p : Int) + 1)) wr) := R
                      have q1 : (z q == 93) = false := by simpa using fun e => hcl (.inl e)
                      have q2 : (z q == 125) = false := by simpa using fun e => hcl (.inr e)
                      have q3 : (z q != 93) = true := by simpa using fun e => hcl (.inl e)
                      have q4 : (z q != 125) = true := by simpa using fun e => hcl (.inr e)
                      clear R hM hqn hq0 h0 h44 hcl
                      go_wp2_with fail
                      go_roundg (k - (p + 1))
                      case measure => go_light; omega
                      case rel => exact HR.out
                  · have HR : Hid (∃ q' : Nat, p + 1 ≤ q' ∧ q' ≤ k ∧ k - q' ≤ k - (q + 1) ∧ Value.int .i64 ((q : Int) + 1) = .int .i64 q' ∧ (∀ j, p < j → j < q' → kind z k j ≠ 0)) :=
                      ⟨q + 1, by omega, by omega, Nat.le_refl _, by go_num, fun j h1 h2 => by
                        rcases Nat.lt_or_ge j q with hj | hj
                        · exact hqn j h1 hj
                        · obtain rfl : j = q := by omega
                          exact hq0⟩
                    have m1 : (kind z k q == 0) = false := by simpa using hq0
                    have m2 : (kind z k q != 0) = true := by simpa using hq0
                    clear hM hqn hq0 h0 h44
                    go_wp2_with fail
                    go_roundg (k - (q + 1))
                    case measure => go_light; omega
                    case rel => obtain ⟨q', p1, p2, p3, p4, p5⟩ := HR.out; exact ⟨q', p1, p2, p3, p4, p5, rfl⟩
                · have hqk : q = k := by omega
                  have R := mrel_mk hlt (minv_skip hM (notDone_end (fun j h1 h2 => hqn j h1 (by omega)))) ho hb
                  have HR : Hid (MRel w2 z k (k - (p + 1)) (.int .i64 ((p : Int) + 1)) wr) := R
                  have hqi : decide ((q : Int) < (k : Int)) = false := decide_eq_false (by omega)
                  have hqi2 : (k : Int) ≤ (q : Int) := by omega
                  clear R hM hqn h0 h44 hqk
                  go_wp2_with fail
                  go_roundg (k - (p + 1))
                  case measure => go_light; omega
                  case rel => exact HR.out
            · have R := mrel_mk hlt (minv_skip hM (fun hd => h44 hd.2.1)) ho hb
              have HR : Hid (MRel w2 z k (k - (p + 1)) (.int .i64 ((p : Int) + 1)) wr) := R
              rw [h0] at hck
              have h44' : (z p == 44) = false := by simpa using h44
              have h44'' : (z p != 44) = true := by simpa using h44
              clear R h0 h44 hM ho hb
              go_wp2_with fail
              go_roundg (k - (p + 1))
              case measure => go_light; omega
              case rel => exact HR.out
          · have R := mrel_mk hlt (minv_skip hM (fun hd => h0 hd.1)) ho hb
            have HR : Hid (MRel w2 z k (k - (p + 1)) (.int .i64 ((p : Int) + 1)) wr) := R
            have h0' : (kind z k p == 0) = false := by simpa using h0
            have h0'' : (kind z k p != 0) = true := by simpa using h0
            clear R h0 hM ho hb
            go_wp2_with fail
            go_roundg (k - (p + 1))
            case measure => go_light; omega
            case rel => exact HR.out
        · obtain rfl : p = k := by omega
          have hbl := minv_end hM
          subst hG
          have hb' := hkb.trans (hb.mono hkb.size)
          have ho' := owns_base ho hkb.size
          clear hM hb ho
          go_wp2_with fail
          go_ret
          exact ⟨_, out, rfl, ho', hbl, hb'⟩
end Go.Proofs.Qxb6617893a
