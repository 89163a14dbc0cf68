/-
  SEAT b6616528a: the walk of ZZbound.
-/
import Derived.Test.Qxb6616528aGc
set_option linter.unusedSimpArgs false
set_option exponentiation.threshold 5000
set_option maxRecDepth 8000
namespace Go.Proofs.Qxb6616528a
open Go.ChangeShapes Go.WideShapes Go.ChangeAt Go.RowKit
open Fl

theorem info45 : (Try.prog.info? 45).map (fun i => (i.zero, i.size, i.bytes)) = some (some (.agg #[fl 0, fl 0]), 2, 16) := by kernel_rfl
theorem info53 : (Try.prog.info? 53).map (fun i => (i.zero, i.size, i.bytes)) = some (some (.agg #[fl 0, fl 0]), 2, 16) := by kernel_rfl

/-- A slice of n floats reads as z. -/
def RdF (w : World) (a : Option Addr) (n : Nat) (z : Nat → Nat) : Prop :=
  ∀ i, i < n → ∃ b off, a = some ⟨b, off, none⟩ ∧ w.cell? ⟨b, off + i, none⟩ = some (.float .f64 (z i))
theorem RdF.below {w w' : World} {a : Option Addr} {n : Nat} {z : Nat → Nat} (h : RdF w a n z) (hb : Below w.heap.size w w') : RdF w' a n z := by
  intro i hi
  obtain ⟨b, off, e, hc⟩ := h i hi
  exact ⟨b, off, e, below_cell hb hc⟩

/-- A row of n pairs, of which the first k are written. -/
def Row2 (w : World) (g n k : Nat) (X Y : Nat → Nat) : Prop :=
  ∃ cs t, w.heap[g]? = some (.cells cs t (0, 0)) ∧ cs.size = n * 2 ∧ ∀ j, j < k → cs[j * 2]? = some (fl (X j)) ∧ cs[j * 2 + 1]? = some (fl (Y j))
theorem Row2.below {w w' : World} {g n k : Nat} {X Y : Nat → Nat} (h : Row2 w g n k X Y) (hb : Below w.heap.size w w') : Row2 w' g n k X Y := by
  obtain ⟨cs, t, h1, h2, h3⟩ := h
  exact ⟨cs, t, below_heap hb h1, h2, h3⟩
theorem Row2.old {w : World} {g n k : Nat} {X Y : Nat → Nat} (h : Row2 w g n k X Y) (i : Nat) (hi : i < n * 2) : (∃ v, w.cell? ⟨g, i, none⟩ = some v) ∧ w.frozen? ⟨g, i, none⟩ = false := by
  obtain ⟨cs, t, h1, h2, _⟩ := h
  exact ⟨⟨cs[i]'(by omega), row_cell h1 (Array.getElem?_eq_getElem (by omega))⟩, row_frozen h1 i⟩
theorem Row2.rd {w : World} {g n : Nat} {X Y : Nat → Nat} (h : Row2 w g n n X Y) : Rd2 w g n X Y := by
  obtain ⟨cs, t, h1, _, h3⟩ := h
  exact fun i hi => ⟨row_cell h1 (h3 i hi).1, row_cell h1 (h3 i hi).2⟩
theorem Row2.half {w : World} {g n k : Nat} {X Y : Nat → Nat} (h : Row2 w g n k X Y) (x : Value) : Row2 (w.setCell ⟨g, k * 2, none⟩ x) g n k X Y := by
  obtain ⟨cs, t, h1, h2, h3⟩ := h
  refine ⟨_, t, heap_set h1 x, by simpa using h2, fun j hj => ?_⟩
  rw [Array.getElem?_setIfInBounds_ne (by omega), Array.getElem?_setIfInBounds_ne (by omega)]
  exact h3 j hj
theorem Row2.step {w : World} {g n k : Nat} {X Y : Nat → Nat} (h : Row2 w g n k X Y) (hk : k < n) : Row2 ((w.setCell ⟨g, k * 2, none⟩ (fl (X k))).setCell ⟨g, k * 2 + 1, none⟩ (fl (Y k))) g n (k + 1) X Y := by
  obtain ⟨cs, t, h1, h2, h3⟩ := h
  refine ⟨_, t, heap_set (heap_set h1 _) _, by simpa using h2, fun j hj => ?_⟩
  rcases Nat.lt_or_ge j k with h | h
  · rw [Array.getElem?_setIfInBounds_ne (by omega), Array.getElem?_setIfInBounds_ne (by omega), Array.getElem?_setIfInBounds_ne (by omega), Array.getElem?_setIfInBounds_ne (by omega)]
    exact h3 j h
  · obtain rfl : j = k := by omega
    rw [Array.getElem?_setIfInBounds_ne (by omega), Array.getElem?_setIfInBounds_self_of_lt (by omega), Array.getElem?_setIfInBounds_self_of_lt (by rw [Array.size_setIfInBounds]; omega)]
    exact ⟨rfl, rfl⟩
theorem own_row2 {w : World} {B g n : Nat} {e : TypeId} {xs : List Value} {X Y : Nat → Nat} (h : w.ownsRow B e 2 (.slice (some ⟨g, 0, none⟩) n n) n xs) : Row2 w g n 0 X Y := by
  rcases h.2 with ⟨e, _⟩ | ⟨g', cap', cur, e, h1, h2, h3, h4, h5, h6⟩
  · simp at e
  · simp only [Value.slice.injEq, Option.some.injEq, Addr.mk.injEq, and_true, true_and] at e
    obtain ⟨rfl, rfl⟩ := e
    exact ⟨cur, _, h2, h5, fun j hj => by omega⟩
/-- Loop one and loop two: what stands behind k rounds. -/
def ZR (P : World → Prop) (n g : Nat) (X Y : Nat → Nat) (w0 : World) (gk : Nat) (i : Value) (wr : World) : Prop :=
  ∃ k : Nat, k ≤ n ∧ n - k ≤ gk ∧ i = .int .i64 k ∧ Row2 wr g n k X Y ∧ P wr ∧ Below w0.heap.size w0 wr

theorem zzbound_any (d : Data) (n m fr bar xc yc dc wc : Nat) (xa ya da wa : Option Addr) (w : World) (hn : n ≤ 32768) (hm : n ≤ m) (hmm : m ≤ 32768)
    (hb : d.Box) (hr : ∀ i, i < n → d.Row i) (rX : RdF w xa n d.X) (rY : RdF w ya n d.Y) (rD : RdF w da m d.D) (rW : RdF w wa m d.Wt) (hbar : leq bar (d.SS n) = true) :
    Calls Try.prog 17 #[.slice xa n xc, .slice ya n yc, .float .f64 fr, .float .f64 d.lx, .float .f64 d.ly, .float .f64 d.hx, .float .f64 d.hy, .slice da m dc, .slice wa m wc, .float .f64 bar] w fun e w' =>
      (∃ low, e = .returned (.tuple #[.float .f64 low, .float .f64 (d.SS n)]) ∧ fin low ∧ W low = W (d.SS n)) ∧ Below w.heap.size w w' := by
  obtain ⟨i45, hi45, hq45⟩ : ∃ i, Try.prog.info? 45 = some i ∧ (i.zero, i.size, i.bytes) = (some (.agg #[fl 0, fl 0]), 2, 16) := by
    have := info45
    cases h : Try.prog.info? 45 with
    | none => rw [h] at this; simp at this
    | some i => rw [h] at this; exact ⟨i, rfl, by simpa using this⟩
  obtain ⟨i53, hi53, hq53⟩ : ∃ i, Try.prog.info? 53 = some i ∧ (i.zero, i.size, i.bytes) = (some (.agg #[fl 0, fl 0]), 2, 16) := by
    have := info53
    cases h : Try.prog.info? 53 with
    | none => rw [h] at this; simp at this
    | some i => rw [h] at this; exact ⟨i, rfl, by simpa using this⟩
  simp only [Prod.mk.injEq] at hq45 hq53
  obtain ⟨z45, s45, y45⟩ := hq45
  obtain ⟨z53, s53, y53⟩ := hq53
  have b2 : i45.bytes * n ≤ 281474976710656 := by rw [y45]; omega
  have b3 : n ≤ maxLen := by unfold maxLen; omega
  have B2 : i53.bytes * m ≤ 281474976710656 := by rw [y53]; omega
  have B3 : m ≤ maxLen := by unfold maxLen; omega
  have HBAR : Hid (leq bar (d.SS n) = true) := hbar
  have HROW : Hid (∀ i, i < n → d.Row i) := hr
  have HBOX : Hid d.Box := hb
  have HX : Hid (RdF w xa n d.X) := rX
  have HY : Hid (RdF w ya n d.Y) := rY
  have HD : Hid (RdF w da m d.D) := rD
  have HW : Hid (RdF w wa m d.Wt) := rW
  clear hbar hr hb rX rY rD rW
  go_enter Try.func17, Try.ntmps17
  go_wp2_with (at_make; refine wpList_make_full _ rfl (.tmp 27) (.tmp 27) 48 rfl w.heap.size 45 i45 (.agg #[fl 0, fl 0]) 2 Try.underlying48 hi45 z45 s45 .i64 .i64 _ _ n rfl rfl rfl rfl b2 b3 (Nat.le_refl _) ?_)
  intro w1 ho1 hg1
  have HB1 : Hid (Below w.heap.size w w1) := (Below.refl w.heap.size w).grown hg1 (Nat.le_refl _) (by simp)
  have HR1 : Hid (Row2 w1 w.heap.size n 0 d.X d.Y) := own_row2 ho1
  clear b2 b3 hi45 z45 s45 y45 ho1 hg1
  go_wp2_with fail
  have HBM : Hid ((w1.alloc (.cells #[.slice (some ⟨w.heap.size, 0, none⟩) n n, .float .f64 fr] 50)).heap[w1.heap.size]? = some (.cells #[.slice (some ⟨w.heap.size, 0, none⟩) n n, .float .f64 fr] 50 (0, 0))) := heap_new _ _
  have HBW : Hid (Below w.heap.size w (w1.alloc (.cells #[.slice (some ⟨w.heap.size, 0, none⟩) n n, .float .f64 fr] 50))) := HB1.out.alloc HB1.out.size _
  have HRW : Hid (Row2 (w1.alloc (.cells #[.slice (some ⟨w.heap.size, 0, none⟩) n n, .float .f64 fr] 50)) w.heap.size n 0 d.X d.Y) := HR1.out.below ((Below.refl _ _).alloc (Nat.le_refl _) _)
  have HNE : Hid (w.heap.size < w1.heap.size) := by obtain ⟨cs, t, h1, _⟩ := HR1.out; exact heap_lt h1
  clear HR1 HB1
  generalize w1.alloc (.cells #[.slice (some ⟨w.heap.size, 0, none⟩) n n, .float .f64 fr] 50) = ws at HBM HBW HRW ⊢
  generalize w1.heap.size = bm at HBM HNE ⊢
  clear w1
  go_loopg [34] n (ZR (fun wr => wr.heap[bm]? = some (.cells #[.slice (some ⟨w.heap.size, 0, none⟩) n n, .float .f64 fr] 50 (0, 0))) n w.heap.size d.X d.Y w)
  case atStart => exact ⟨0, by omega, by omega, rfl, HRW.out, HBM.out, HBW.out⟩
  case round =>
    clear HBM HBW HRW
    unfold ZR at hrel
    obtain ⟨k, hk, hgk, rfl, hrow, hbm, hbw⟩ := hrel
    obtain ⟨W0, rfl⟩ : ∃ W0, W0 = wr := ⟨_, rfl⟩
    by_cases hlt : k < n
    · obtain ⟨bx, ox, rfl, qx⟩ := (HX.out.below hbw) k hlt
      obtain ⟨by', oy, rfl, qy⟩ := (HY.out.below hbw) k hlt
      have cm : W0.cell? ⟨bm, 0, none⟩ = some (.slice (some ⟨w.heap.size, 0, none⟩) n n) := row_cell hbm rfl
      obtain ⟨⟨v0, o0⟩, f0⟩ := hrow.old (k * 2) (by omega)
      obtain ⟨⟨v1, o1⟩, f1⟩ := (hrow.half (fl (d.X k))).old (k * 2 + 1) (by omega)
      have HST := hrow.step hlt
      have HRW : Hid (Row2 W0 w.heap.size n k d.X d.Y) := hrow
      have HBM : Hid (W0.heap[bm]? = some (.cells #[.slice (some ⟨w.heap.size, 0, none⟩) n n, .float .f64 fr] 50 (0, 0))) := hbm
      have HBW : Hid (Below w.heap.size w W0) := hbw
      have HS : Hid (Row2 ((W0.setCell ⟨w.heap.size, k * 2, none⟩ (fl (d.X k))).setCell ⟨w.heap.size, k * 2 + 1, none⟩ (fl (d.Y k))) w.heap.size n (k + 1) d.X d.Y) := HST
      clear hrow hbm hbw HST
      have e1 : (k : Int) < (n : Int) := by omega
      have HK : Hid (W0.heap[bm]? = ((W0.setCell ⟨w.heap.size, k * 2, none⟩ (fl (d.X k))).setCell ⟨w.heap.size, k * 2 + 1, none⟩ (fl (d.Y k))).heap[bm]?) := by
        rw [heap_far _ (by have := HNE.out; omega), heap_far _ (by have := HNE.out; omega)]
        exact rfl
      have HBQ : Hid (Below w.heap.size w ((W0.setCell ⟨w.heap.size, k * 2, none⟩ (fl (d.X k))).setCell ⟨w.heap.size, k * 2 + 1, none⟩ (fl (d.Y k)))) :=
        (HBW.out.setCell (p := ⟨w.heap.size, k * 2, none⟩) (Nat.le_refl _) _).setCell (p := ⟨w.heap.size, k * 2 + 1, none⟩) (Nat.le_refl _) _
      go_wp2_with fail
      go_region
      go_wp2_with fail
      go_roundg (n - (k + 1))
      case measure => go_light; omega
      case rel => exact ⟨k + 1, by omega, Nat.le_refl _, by go_num, HS.out, HK.out.symm.trans HBM.out, HBQ.out.trans ⟨rfl, rfl, rfl, Nat.le_refl _, fun _ _ => rfl⟩⟩
    · obtain rfl : k = n := by omega
      have HRW : Hid (Row2 W0 w.heap.size k k d.X d.Y) := hrow
      have HBM : Hid (W0.heap[bm]? = some (.cells #[.slice (some ⟨w.heap.size, 0, none⟩) k k, .float .f64 fr] 50 (0, 0))) := hbm
      have HBW : Hid (Below w.heap.size w W0) := hbw
      clear hrow hbm hbw
      go_wp2_with (at_make; refine wpList_make_full _ rfl (.tmp 54) (.tmp 54) 51 rfl W0.heap.size 53 i53 (.agg #[fl 0, fl 0]) 2 Try.underlying51 hi53 z53 s53 .i64 .i64 _ _ m rfl rfl rfl rfl B2 B3 (Nat.le_refl _) ?_)
      intro w1 ho1 hg1
      have HB1 : Hid (Below W0.heap.size W0 w1) := (Below.refl W0.heap.size W0).grown hg1 (Nat.le_refl _) (by simp)
      have HR1 : Hid (Row2 w1 W0.heap.size m 0 d.D d.Wt) := own_row2 ho1
      obtain ⟨csX, tX, hX1, hX2, hX3⟩ := HRW.out
      have HBM1 : Hid (w1.heap[bm]? = some (.cells #[.slice (some ⟨w.heap.size, 0, none⟩) k k, .float .f64 fr] 50 (0, 0)) ∧ w1.heap[w.heap.size]? = some (.cells csX tX (0, 0))) := ⟨below_heap HB1.out HBM.out, below_heap HB1.out hX1⟩
      have HBW1 : Hid (Below w.heap.size w w1) := HBW.out.trans (HB1.out.mono HBW.out.size)
      have HX3 : Hid (csX.size = k * 2 ∧ ∀ j, j < k → csX[j * 2]? = some (fl (d.X j)) ∧ csX[j * 2 + 1]? = some (fl (d.Y j))) := ⟨hX2, hX3⟩
      have HNE2 : Hid (bm < W0.heap.size ∧ w.heap.size < W0.heap.size) := ⟨heap_lt HBM.out, heap_lt hX1⟩
      have HGE : Hid (w.heap.size ≤ W0.heap.size) := HBW.out.size
      clear HB1 HBW HBM HRW hX1 hX2 hX3 ho1 hg1 B2 B3 hi53 z53 s53 y53
      generalize W0.heap.size = g2 at HR1 HNE2 HGE ⊢
      clear W0
      go_wp2_with fail
      go_loopg [58] m (ZR (fun wr => wr.heap[bm]? = some (.cells #[.slice (some ⟨w.heap.size, 0, none⟩) k k, .float .f64 fr] 50 (0, 0)) ∧ wr.heap[w.heap.size]? = some (.cells csX tX (0, 0))) m g2 d.D d.Wt w)
      case atStart => exact ⟨0, by omega, by omega, rfl, HR1.out, HBM1.out, HBW1.out⟩
      case round =>
        clear HBM1 HBW1 HR1
        unfold ZR at hrel
        obtain ⟨j, hj, hgj, rfl, hrow, hbm, hbw⟩ := hrel
        obtain ⟨W0, rfl⟩ : ∃ W0, W0 = wr := ⟨_, rfl⟩
        by_cases hlt : j < m
        · obtain ⟨bx, ox, rfl, qx⟩ := (HD.out.below hbw) j hlt
          obtain ⟨by', oy, rfl, qy⟩ := (HW.out.below hbw) j hlt
          obtain ⟨⟨v0, o0⟩, f0⟩ := hrow.old (j * 2) (by omega)
          obtain ⟨⟨v1, o1⟩, f1⟩ := (hrow.half (fl (d.D j))).old (j * 2 + 1) (by omega)
          have HS : Hid (Row2 ((W0.setCell ⟨g2, j * 2, none⟩ (fl (d.D j))).setCell ⟨g2, j * 2 + 1, none⟩ (fl (d.Wt j))) g2 m (j + 1) d.D d.Wt) := hrow.step hlt
          have HK : Hid (∀ b, b < g2 → ((W0.setCell ⟨g2, j * 2, none⟩ (fl (d.D j))).setCell ⟨g2, j * 2 + 1, none⟩ (fl (d.Wt j))).heap[b]? = W0.heap[b]?) := fun b hb => by
            rw [heap_far _ (by omega), heap_far _ (by omega)]
          have HBM : Hid (W0.heap[bm]? = some (.cells #[.slice (some ⟨w.heap.size, 0, none⟩) k k, .float .f64 fr] 50 (0, 0)) ∧ W0.heap[w.heap.size]? = some (.cells csX tX (0, 0))) := hbm
          have HBQ : Hid (Below w.heap.size w ((W0.setCell ⟨g2, j * 2, none⟩ (fl (d.D j))).setCell ⟨g2, j * 2 + 1, none⟩ (fl (d.Wt j)))) :=
            (hbw.setCell (p := ⟨g2, j * 2, none⟩) HGE.out _).setCell (p := ⟨g2, j * 2 + 1, none⟩) HGE.out _
          clear hrow hbm hbw
          have e1 : (j : Int) < (m : Int) := by omega
          go_wp2_with fail
          go_region
          go_wp2_with fail
          go_roundg (m - (j + 1))
          case measure => go_light; omega
          case rel => exact ⟨j + 1, by omega, Nat.le_refl _, by go_num, HS.out, ⟨(HK.out bm HNE2.out.1).trans HBM.out.1, (HK.out w.heap.size HNE2.out.2).trans HBM.out.2⟩, HBQ.out.trans ⟨rfl, rfl, rfl, Nat.le_refl _, fun _ _ => rfl⟩⟩
        · obtain rfl : j = m := by omega
          have rdL : Rd2 W0 w.heap.size k d.X d.Y := Row2.rd ⟨csX, tX, hbm.2, HX3.out.1, HX3.out.2⟩
          have HCT : Hid (Calls Try.prog 21 #[.pointer (some ⟨bm, 0, none⟩), boxV d.lx d.ly d.hx d.hy, .slice (some ⟨g2, 0, none⟩) j j, .float .f64 bar] W0 fun e w' =>
              (∃ low, e = .returned (.tuple #[.float .f64 low, .float .f64 (d.SS k)]) ∧ fin low ∧ W low = W (d.SS k)) ∧ Below W0.heap.size W0 w') :=
            bound_any d k j bm 0 w.heap.size g2 bar W0 hn hm hmm HBOX.out HROW.out (row_cell hbm.1 rfl) rdL hrow.rd HBAR.out
          have HBW : Hid (Below w.heap.size w W0) := hbw
          clear hrow hbm hbw rdL
          unfold boxV at HCT
          go_wp2_with fail
          refine (HCT.out).mono ?_
          rintro e w5 ⟨⟨low, rfl, hl⟩, hb5⟩
          have HO : Hid (fin low ∧ W low = W (d.SS k)) := hl
          clear hl HCT
          go_wp2_with fail
          go_ret2
          exact ⟨⟨low, rfl, HO.out⟩, HBW.out.trans (hb5.mono HBW.out.size)⟩
end Go.Proofs.Qxb6616528a
