/-
  SEAT b6617893a: THE PLAIN LAWS on two texts that part in one place: a comment and spaces; a trailing comma and a space.
-/
import Derived.Test.Qxb6617893aPlain
namespace Go.Proofs.Qxb6617893a.Plain

/-- Two texts, alike from place a to place b, entered in one state. -/
theorem seg {x y : Nat → Int} {nx ny a b : Nat} (h0 : st x nx a = st y ny a) (hv : ∀ k, a ≤ k → k < b → x k = y k) (hi : ∀ k, a ≤ k → k < b → inBom x nx k = inBom y ny k) (hc : ∀ k, a ≤ k → k < b → cm x nx k = cm y ny k) :
    ∀ d, a + d ≤ b → st x nx (a + d) = st y ny (a + d)
  | 0, _ => h0
  | d + 1, hd => by
    have ih := seg h0 hv hi hc d (by omega)
    show st x nx (a + d + 1) = st y ny (a + d + 1)
    rw [st_succ, st_succ, ih, next, next, hv (a + d) (by omega) (by omega), hi (a + d) (by omega) (by omega), hc (a + d) (by omega) (by omega)]

theorem seg_st {x y : Nat → Int} {nx ny a b : Nat} (h0 : st x nx a = st y ny a) (hv : ∀ k, a ≤ k → k < b → x k = y k) (hi : ∀ k, a ≤ k → k < b → inBom x nx k = inBom y ny k) (hc : ∀ k, a ≤ k → k < b → cm x nx k = cm y ny k) {k : Nat} (h1 : a ≤ k) (h2 : k ≤ b) : st x nx k = st y ny k := by
  obtain ⟨d, rfl⟩ : ∃ d, k = a + d := ⟨k - a, by omega⟩
  exact seg h0 hv hi hc d h2

theorem seg_kind {x y : Nat → Int} {nx ny a b : Nat} (h0 : st x nx a = st y ny a) (hv : ∀ k, a ≤ k → k < b → x k = y k) (hi : ∀ k, a ≤ k → k < b → inBom x nx k = inBom y ny k) (hc : ∀ k, a ≤ k → k < b → cm x nx k = cm y ny k) {k : Nat} (h1 : a ≤ k) (h2 : k < b) : kind x nx k = kind y ny k := by
  rw [kind, kind, seg_st h0 hv hi hc h1 (Nat.le_of_lt h2), kd, kd, hv k h1 h2, hi k h1 h2, hc k h1 h2]

/-- A text that goes on behind a with a byte that is no part of the mark. -/
theorem bom_pre {x a : Nat → Int} {n la : Nat} (hn : la < n) (hx : ∀ i, i < la → x i = a i) (hs : x la ≠ 239 ∧ x la ≠ 187 ∧ x la ≠ 191) : bom x n = bom a la := by
  rw [Bool.eq_iff_iff]
  by_cases h3 : 3 ≤ la
  · simp only [bom, Bool.and_eq_true, decide_eq_true_eq, beq_iff_eq]
    rw [hx 0 (by omega), hx 1 (by omega), hx 2 (by omega)]
    constructor
    · rintro ⟨_, h⟩; exact ⟨h3, h⟩
    · rintro ⟨_, h⟩; exact ⟨by omega, h⟩
  · simp only [bom, Bool.and_eq_true, decide_eq_true_eq, beq_iff_eq]
    constructor
    · rintro ⟨_, e0, e1, e2⟩
      exfalso
      rcases (show la = 0 ∨ la = 1 ∨ la = 2 by omega) with e | e | e
      · rw [e] at hs; exact hs.1 e0
      · rw [e] at hs; exact hs.2.1 e1
      · rw [e] at hs; exact hs.2.2 e2
    · rintro ⟨h, _⟩; exact absurd h h3

theorem inBom_of {x y : Nat → Int} {nx ny : Nat} (h : bom x nx = bom y ny) (k : Nat) : inBom x nx k = inBom y ny k := by
  rw [inBom, inBom, h]

theorem noBom_from {a : Nat → Int} {la k : Nat} (h : la ≤ k) : inBom a la k = false := by
  rw [Bool.eq_false_iff]
  intro hb
  obtain ⟨b1, b2⟩ := inBom_true.1 hb
  have := bom_len b1
  omega

/-- Ahead of place la the lookahead sees no more than a itself, where a does not end on a slash or no slash follows. -/
theorem cm_pre {x a : Nat → Int} {n la : Nat} (hn : la < n) (hx : ∀ i, i < la → x i = a i) (hs : x la ≠ 47 ∨ (0 < la → a (la - 1) ≠ 47)) : ∀ k, k < la → cm x n k = cm a la k := by
  intro k hk
  rw [Bool.eq_iff_iff]
  simp only [cm, Bool.and_eq_true, decide_eq_true_eq, beq_iff_eq]
  rw [hx k hk]
  rcases Nat.lt_or_ge (k + 1) la with h1 | h1
  · rw [hx (k + 1) h1]
    constructor
    · rintro ⟨e, _, f⟩; exact ⟨e, h1, f⟩
    · rintro ⟨e, _, f⟩; exact ⟨e, by omega, f⟩
  · have e : k + 1 = la := by omega
    constructor
    · rintro ⟨e1, _, e2⟩
      exfalso
      rcases hs with h | h
      · rw [e] at e2; exact h e2
      · refine h (by omega) ?_
        rw [show la - 1 = k by omega]; exact e1
    · rintro ⟨_, h, _⟩; omega

/-- The comma's fate hangs on the significant bytes alone. -/
theorem opn_congr {x y : Nat → Int} {n p : Nat} (hp : p ≤ n) (hk : ∀ k, k < n → (kind x n k = 0 ↔ kind y n k = 0)) (hv : ∀ k, k < n → kind x n k = 0 → x k = y k) : Opn x n p → Opn y n p := by
  rintro ⟨r, a, b, c, d⟩
  refine ⟨r, a, (hk r (by omega)).1 b, fun j h1 h2 h3 => c j h1 h2 ((hk j (by omega)).2 h3), ?_⟩
  rw [← hv r (by omega) b]; exact d

theorem done_congr {x y : Nat → Int} {n p : Nat} (hp : p < n) (hk : ∀ k, k < n → (kind x n k = 0 ↔ kind y n k = 0)) (hv : ∀ k, k < n → kind x n k = 0 → x k = y k) : Done x n n p → Done y n n p := by
  rintro ⟨a, b, c, q, d, e, f, g, h⟩
  refine ⟨(hk p hp).1 a, by rw [← hv p hp a]; exact b, fun ho => c ?_, q, d, e, (hk q e).1 f, fun j h1 h2 h3 => g j h1 h2 ((hk j (by omega)).2 h3), ?_⟩
  · exact opn_congr (Nat.le_of_lt hp) (fun k hk' => (hk k hk').symm) (fun k hk' h0 => (hv k hk' ((hk k hk').2 h0)).symm) ho
  · rw [← hv q e f]; exact h

theorem eq_of_C {x y yx yy : Nat → Int} {n p : Nat} (hx : Blanked x n yx) (hy : Blanked y n yy) (hp : p < n) (hv : x p = y p) (hc : C x n n p ↔ C y n n p) : yx p = yy p := by
  by_cases h : C x n n p
  · rw [(hx p hp).1 h, (hy p hp).1 (hc.1 h)]
  · rw [(hx p hp).2 h, (hy p hp).2 (fun e => h (hc.2 e)), hv]

theorem law_comment {L R a c : Nat → Int} {la lc lb n : Nat} (hn : n = la + lc + lb + 3)
    (hst : st a la la = 0) (hsl : 0 < la → a (la - 1) ≠ 47) (hcn : ∀ i, i < lc → c i ≠ 10)
    (hL0 : ∀ i, i < la → L i = a i) (hL1 : L la = 47) (hL2 : L (la + 1) = 47) (hL3 : ∀ i, i < lc → L (la + 2 + i) = c i)
    (hR0 : ∀ i, i < la → R i = a i) (hR1 : ∀ i, i < lc + 2 → R (la + i) = 32)
    (hT : ∀ k, la + lc + 2 ≤ k → k < n → L k = R k) (h10 : L (la + lc + 2) = 10)
    {yL yR : Nat → Int} (hyL : Blanked L n yL) (hyR : Blanked R n yR) : ∀ p, p < n → yL p = yR p := by
  have hRla : R la = 32 := hR1 0 (by omega)
  have bL : bom L n = bom a la := bom_pre (by omega) hL0 (by rw [hL1]; decide)
  have bR : bom R n = bom a la := bom_pre (by omega) hR0 (by rw [hRla]; decide)
  have iL := inBom_of bL
  have iR := inBom_of bR
  have cL := cm_pre (n := n) (by omega) hL0 (.inr hsl)
  have cR := cm_pre (n := n) (by omega) hR0 (.inr hsl)
  have sL : ∀ k, k ≤ la → st L n k = st a la k := fun k hk => seg_st (x := L) (y := a) (nx := n) (ny := la) (a := 0) (b := la) rfl (fun k _ h => hL0 k h) (fun k _ _ => iL k) (fun k _ h => cL k h) (Nat.zero_le _) hk
  have sR : ∀ k, k ≤ la → st R n k = st a la k := fun k hk => seg_st (x := R) (y := a) (nx := n) (ny := la) (a := 0) (b := la) rfl (fun k _ h => hR0 k h) (fun k _ _ => iR k) (fun k _ h => cR k h) (Nat.zero_le _) hk
  have kL : ∀ k, k < la → kind L n k = kind a la k := fun k hk => seg_kind (x := L) (y := a) (nx := n) (ny := la) (a := 0) (b := la) rfl (fun k _ h => hL0 k h) (fun k _ _ => iL k) (fun k _ h => cL k h) (Nat.zero_le _) hk
  have kR : ∀ k, k < la → kind R n k = kind a la k := fun k hk => seg_kind (x := R) (y := a) (nx := n) (ny := la) (a := 0) (b := la) rfl (fun k _ h => hR0 k h) (fun k _ _ => iR k) (fun k _ h => cR k h) (Nat.zero_le _) hk
  have nbL : ∀ k, la ≤ k → ¬ inBom L n k = true := fun k hk => by rw [iL, noBom_from hk]; decide
  have nbR : ∀ k, la ≤ k → ¬ inBom R n k = true := fun k hk => by rw [iR, noBom_from hk]; decide
  -- the middle, on the left: a comment
  have hL0' := code_cm (z := L) (n := n) (k := la) ((sL la (Nat.le_refl _)).trans hst) (nbL la (Nat.le_refl _)) (by rw [hL1]; decide) (by simp [cm, hL1, hL2]; omega)
  have midL : ∀ d, d < lc + 1 → st L n (la + 1 + d) = 3 ∧ kind L n (la + d) = 2 := by
    intro d
    induction d with
    | zero => intro _; exact hL0'
    | succ d ih =>
      intro hd
      have h3 := (ih (by omega)).1
      have hne : L (la + 1 + d) ≠ 10 := by
        match d with
        | 0 => rw [Nat.add_zero, hL2]; decide
        | d + 1 =>
          have := hL3 d (by omega)
          rw [show la + 1 + (d + 1) = la + 2 + d by omega, this]
          exact hcn d (by omega)
      have := com_on h3 hne
      exact ⟨by rw [show la + 1 + (d + 1) = la + 1 + d + 1 by omega]; exact this.1, by rw [show la + (d + 1) = la + 1 + d by omega]; exact this.2⟩
  have hl1 : L (la + lc + 1) ≠ 10 := by
    match lc, hL3, hcn with
    | 0, _, _ => rw [Nat.add_zero, hL2]; decide
    | m + 1, h3, hc => rw [show la + (m + 1) + 1 = la + 2 + m by omega, h3 m (by omega)]; exact hc m (by omega)
  have hl2 := com_on (z := L) (n := n) (k := la + lc + 1) (by have := (midL lc (by omega)).1; rwa [show la + 1 + lc = la + lc + 1 by omega] at this) hl1
  have hl3 := com_end (z := L) (n := n) (k := la + lc + 2) hl2.1 h10
  have kLm : ∀ d, d < lc + 2 → kind L n (la + d) = 2 := by
    intro d hd
    rcases Nat.lt_or_ge d (lc + 1) with h | h
    · exact (midL d h).2
    · rw [show la + d = la + lc + 1 by omega]; exact hl2.2
  -- the middle, on the right: spaces
  have midR : ∀ d, d ≤ lc + 2 → st R n (la + d) = 0 := by
    intro d
    induction d with
    | zero => intro _; exact (sR la (Nat.le_refl _)).trans hst
    | succ d ih =>
      intro hd
      exact (code_sp (ih (by omega)) (.inl (by rw [hR1 d (by omega)]; rfl))).1
  have kRm : ∀ d, d < lc + 2 → kind R n (la + d) ≠ 0 ∧ kind R n (la + d) ≠ 2 := by
    intro d hd
    exact (code_sp (midR d (by omega)) (.inl (by rw [hR1 d (by omega)]; rfl))).2
  have hR10 : R (la + lc + 2) = 10 := by rw [← hT _ (Nat.le_refl _) (by omega)]; exact h10
  have hr3 := code_sp (z := R) (n := n) (k := la + lc + 2) (midR (lc + 2) (Nat.le_refl _)) (.inl (by rw [hR10]; rfl))
  -- the tail
  have h0T : st L n (la + lc + 3) = st R n (la + lc + 3) := hl3.1.trans hr3.1.symm
  have cT : ∀ k, la + lc + 3 ≤ k → k < n → cm L n k = cm R n k := by
    intro k h1 h2
    rw [Bool.eq_iff_iff]
    simp only [cm, Bool.and_eq_true, decide_eq_true_eq, beq_iff_eq]
    rw [hT k (by omega) h2]
    constructor
    · rintro ⟨e1, e2, e3⟩; exact ⟨e1, e2, by rw [← hT (k + 1) (by omega) e2]; exact e3⟩
    · rintro ⟨e1, e2, e3⟩; exact ⟨e1, e2, by rw [hT (k + 1) (by omega) e2]; exact e3⟩
  have kT : ∀ k, la + lc + 3 ≤ k → k < n → kind L n k = kind R n k := fun k h1 h2 => seg_kind h0T (fun k h1 h2 => hT k (by omega) h2) (fun k _ _ => by rw [iL, iR]) cT h1 h2
  have hk : ∀ k, k < n → (kind L n k = 0 ↔ kind R n k = 0) := by
    intro k hk
    rcases Nat.lt_or_ge k la with h | h
    · rw [kL k h, kR k h]
    · rcases Nat.lt_or_ge k (la + lc + 2) with h2 | h2
      · obtain ⟨d, rfl⟩ : ∃ d, k = la + d := ⟨k - la, by omega⟩
        rw [kLm d (by omega)]
        exact ⟨fun e => absurd e (by decide), fun e => absurd e (kRm d (by omega)).1⟩
      · rcases Nat.lt_or_ge k (la + lc + 3) with h3 | h3
        · obtain rfl : k = la + lc + 2 := by omega
          rw [hl3.2]
          exact ⟨fun e => absurd e (by decide), fun e => absurd e hr3.2.1⟩
        · rw [kT k h3 hk]
  have hv : ∀ k, k < n → kind L n k = 0 → L k = R k := by
    intro k hk h0
    rcases Nat.lt_or_ge k la with h | h
    · rw [hL0 k h, hR0 k h]
    · rcases Nat.lt_or_ge k (la + lc + 2) with h2 | h2
      · obtain ⟨d, rfl⟩ : ∃ d, k = la + d := ⟨k - la, by omega⟩
        rw [kLm d (by omega)] at h0
        exact absurd h0 (by decide)
      · exact hT k h2 hk
  intro p hp
  have hD : Done L n n p ↔ Done R n n p := ⟨done_congr hp hk hv, done_congr hp (fun k h => (hk k h).symm) (fun k h h0 => (hv k h ((hk k h).2 h0)).symm)⟩
  by_cases hm : la ≤ p ∧ p < la + lc + 2
  · obtain ⟨d, rfl⟩ : ∃ d, p = la + d := ⟨p - la, by omega⟩
    rw [(hyL _ hp).1 (.inl ⟨hp, kLm d (by omega)⟩)]
    refine ((hyR _ hp).2 ?_).trans (hR1 d (by omega)) |>.symm
    rintro (⟨_, e⟩ | e | e)
    · exact (kRm d (by omega)).2 e
    · exact nbR _ (by omega) e
    · exact (kRm d (by omega)).1 e.1
  · have hvp : L p = R p := by
      rcases Nat.lt_or_ge p la with h | h
      · rw [hL0 p h, hR0 p h]
      · exact hT p (by omega) hp
    have hkp : kind L n p = 2 ↔ kind R n p = 2 := by
      rcases Nat.lt_or_ge p la with h | h
      · rw [kL p h, kR p h]
      · rcases Nat.lt_or_ge p (la + lc + 3) with h3 | h3
        · obtain rfl : p = la + lc + 2 := by omega
          rw [hl3.2]
          exact ⟨fun e => absurd e (by decide), fun e => absurd e hr3.2.2⟩
        · rw [kT p h3 hp]
    refine eq_of_C hyL hyR hp hvp ?_
    unfold C
    rw [hkp, iL, iR, hD]
end Go.Proofs.Qxb6617893a.Plain
