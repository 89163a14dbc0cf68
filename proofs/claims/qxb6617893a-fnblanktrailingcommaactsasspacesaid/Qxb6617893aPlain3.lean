/-
  SEAT b6617893a: THE PLAIN LAW of the trailing comma.
-/
import Derived.Test.Qxb6617893aPlain2
namespace Go.Proofs.Qxb6617893a.Plain

theorem law_comma {L R a v : Nat → Int} {la lw lb n : Nat} {cl : Int} (hn : n = la + lw + lb + 2)
    (hst : st a la la = 0) (hw : ∀ i, i < lw → isSp (v i) = true) (hcl : cl = 93 ∨ cl = 125)
    (hlast : (∃ r, r < la ∧ kind a la r = 0 ∧ (∀ j, r + 1 ≤ j → j < la → kind a la j ≠ 0) ∧ a r ≠ 91 ∧ a r ≠ 123 ∧ a r ≠ 44) ∨ (∀ j, 0 ≤ j → j < la → kind a la j ≠ 0))
    (hL0 : ∀ i, i < la → L i = a i) (hL1 : L la = 44) (hL2 : ∀ i, i < lw → L (la + 1 + i) = v i) (hL3 : L (la + 1 + lw) = cl)
    (hR0 : ∀ i, i < la → R i = a i) (hR1 : R la = 32)
    (hT : ∀ k, la + 1 ≤ k → k < n → L k = R k)
    {yL yR : Nat → Int} (hyL : Blanked L n yL) (hyR : Blanked R n yR) : ∀ p, p < n → yL p = yR p := by
  have bL : bom L n = bom a la := bom_pre (by omega) hL0 (by rw [hL1]; decide)
  have bR : bom R n = bom a la := bom_pre (by omega) hR0 (by rw [hR1]; decide)
  have iL := inBom_of bL
  have iR := inBom_of bR
  have cL := cm_pre (n := n) (by omega) hL0 (.inl (by rw [hL1]; decide))
  have cR := cm_pre (n := n) (by omega) hR0 (.inl (by rw [hR1]; decide))
  have sL : st L n la = 0 := (seg_st (x := L) (y := a) (nx := n) (ny := la) (a := 0) (b := la) rfl (fun k _ h => hL0 k h) (fun k _ _ => iL k) (fun k _ h => cL k h) (Nat.zero_le _) (Nat.le_refl _)).trans hst
  have sR : st R n la = 0 := (seg_st (x := R) (y := a) (nx := n) (ny := la) (a := 0) (b := la) rfl (fun k _ h => hR0 k h) (fun k _ _ => iR k) (fun k _ h => cR k h) (Nat.zero_le _) (Nat.le_refl _)).trans hst
  have kL : ∀ k, k < la → kind L n k = kind a la k := fun k hk => seg_kind (x := L) (y := a) (nx := n) (ny := la) (a := 0) (b := la) rfl (fun k _ h => hL0 k h) (fun k _ _ => iL k) (fun k _ h => cL k h) (Nat.zero_le _) hk
  have kR : ∀ k, k < la → kind R n k = kind a la k := fun k hk => seg_kind (x := R) (y := a) (nx := n) (ny := la) (a := 0) (b := la) rfl (fun k _ h => hR0 k h) (fun k _ _ => iR k) (fun k _ h => cR k h) (Nat.zero_le _) hk
  have nbL : ∀ k, la ≤ k → ¬ inBom L n k = true := fun k hk => by rw [iL, noBom_from hk]; decide
  have hLc := code_sig (z := L) (n := n) (k := la) sL (nbL la (Nat.le_refl _)) (by rw [hL1]; decide) (by simp [cm, hL1]) (by rw [hL1]; decide)
  have hRc := code_sp (z := R) (n := n) (k := la) sR (.inl (by rw [hR1]; rfl))
  -- the tail
  have h0T : st L n (la + 1) = st R n (la + 1) := hLc.1.trans hRc.1.symm
  have cT : ∀ k, la + 1 ≤ k → k < n → cm L n k = cm R n k := by
    intro k h1 h2
    rw [Bool.eq_iff_iff]
    simp only [cm, Bool.and_eq_true, decide_eq_true_eq, beq_iff_eq]
    rw [hT k (by omega) h2]
    constructor
    · rintro ⟨e1, e2, e3⟩; exact ⟨e1, e2, by rw [← hT (k + 1) (by omega) e2]; exact e3⟩
    · rintro ⟨e1, e2, e3⟩; exact ⟨e1, e2, by rw [hT (k + 1) (by omega) e2]; exact e3⟩
  have kT : ∀ k, la + 1 ≤ k → k < n → kind L n k = kind R n k := fun k h1 h2 => seg_kind h0T (fun k h1 h2 => hT k (by omega) h2) (fun k _ _ => by rw [iL, iR]) cT h1 h2
  have kE : ∀ k, k < n → k ≠ la → kind L n k = kind R n k := by
    intro k hk hne
    rcases Nat.lt_or_ge k la with h | h
    · rw [kL k h, kR k h]
    · exact kT k (by omega) hk
  have vE : ∀ k, k < n → k ≠ la → L k = R k := by
    intro k hk hne
    rcases Nat.lt_or_ge k la with h | h
    · rw [hL0 k h, hR0 k h]
    · exact hT k (by omega) hk
  -- white space, then the closing byte
  have mid : ∀ d, d ≤ lw → st L n (la + 1 + d) = 0 := by
    intro d
    induction d with
    | zero => intro _; exact hLc.1
    | succ d ih => intro hd; exact (code_sp (ih (by omega)) (.inl (by rw [hL2 d (by omega)]; exact hw d (by omega)))).1
  have kM : ∀ d, d < lw → kind L n (la + 1 + d) ≠ 0 := fun d hd => (code_sp (mid d (by omega)) (.inl (by rw [hL2 d (by omega)]; exact hw d (by omega)))).2.1
  have kC : kind L n (la + 1 + lw) = 0 := by
    refine (code_sig (mid lw (Nat.le_refl _)) (nbL _ (by omega)) ?_ ?_ ?_).2
    · rw [hL3]; rcases hcl with e | e <;> rw [e] <;> decide
    · simp only [cm, hL3]; rcases hcl with e | e <;> rw [e] <;> simp
    · rw [hL3]; rcases hcl with e | e <;> rw [e] <;> decide
  have kRla : kind R n la ≠ 0 := hRc.2.1
  have noA : ¬ Opn L n la := by
    rintro ⟨r, h1, h2, h3, h4⟩
    rw [kL r h1] at h2
    rcases hlast with ⟨r', g1, g2, g3, g4, g5, g6⟩ | g
    · have : r = r' := by
        rcases Nat.lt_trichotomy r r' with hh | hh | hh
        · exact absurd g2 (by rw [← kL r' g1]; exact h3 r' hh g1)
        · exact hh
        · exact absurd h2 (g3 r hh h1)
      subst this
      rw [hL0 r h1] at h4
      rcases h4 with e | e
      · exact g4 e
      · exact g5 e
    · exact g r (Nat.zero_le _) h1 h2
  have dL : Done L n n la := ⟨hLc.2, hL1, noA, la + 1 + lw, by omega, by omega, kC, fun j h1 h2 => by
    obtain ⟨d, rfl⟩ : ∃ d, j = la + 1 + d := ⟨j - (la + 1), by omega⟩
    exact kM d (by omega), by rw [hL3]; exact hcl⟩
  -- the significant byte before p, on both sides
  have oA : ∀ p, p < la → (Opn L n p ↔ Opn R n p) := by
    intro p hp
    constructor
    · rintro ⟨r, h1, h2, h3, h4⟩
      exact ⟨r, h1, by rw [← kE r (by omega) (by omega)]; exact h2, fun j a1 a2 => by rw [← kE j (by omega) (by omega)]; exact h3 j a1 a2, by rw [← vE r (by omega) (by omega)]; exact h4⟩
    · rintro ⟨r, h1, h2, h3, h4⟩
      exact ⟨r, h1, by rw [kE r (by omega) (by omega)]; exact h2, fun j a1 a2 => by rw [kE j (by omega) (by omega)]; exact h3 j a1 a2, by rw [vE r (by omega) (by omega)]; exact h4⟩
  have kCR : kind R n (la + 1 + lw) = 0 := by rw [← kE _ (by omega) (by omega)]; exact kC
  have oB : ∀ p, la + 1 + lw < p → p < n → (Opn L n p ↔ Opn R n p) := by
    intro p hp hpn
    constructor
    · rintro ⟨r, h1, h2, h3, h4⟩
      have hr : la + 1 + lw ≤ r := by
        rcases Nat.lt_or_ge r (la + 1 + lw) with hh | hh
        · exact absurd kC (h3 _ hh hp)
        · exact hh
      exact ⟨r, h1, by rw [← kE r (by omega) (by omega)]; exact h2, fun j a1 a2 => by rw [← kE j (by omega) (by omega)]; exact h3 j a1 a2, by rw [← vE r (by omega) (by omega)]; exact h4⟩
    · rintro ⟨r, h1, h2, h3, h4⟩
      have hr : la + 1 + lw ≤ r := by
        rcases Nat.lt_or_ge r (la + 1 + lw) with hh | hh
        · exact absurd kCR (h3 _ hh hp)
        · exact hh
      exact ⟨r, h1, by rw [kE r (by omega) (by omega)]; exact h2, fun j a1 a2 => by rw [kE j (by omega) (by omega)]; exact h3 j a1 a2, by rw [vE r (by omega) (by omega)]; exact h4⟩
  have hD : ∀ p, p < n → p ≠ la → (Done L n n p ↔ Done R n n p) := by
    intro p hp hne
    rcases Nat.lt_or_ge p la with hpl | hpl
    · constructor
      · rintro ⟨h1, h2, h3, q, h4, h5, h6, h7, h8⟩
        have hq : q < la := by
          rcases Nat.lt_trichotomy q la with hh | hh | hh
          · exact hh
          · subst hh; rw [hL1] at h8; exact absurd h8 (by decide)
          · exact absurd hLc.2 (h7 la hpl hh)
        exact ⟨by rw [← kE p hp hne]; exact h1, by rw [← vE p hp hne]; exact h2, fun e => h3 ((oA p hpl).2 e), q, h4, h5, by rw [← kE q h5 (by omega)]; exact h6, fun j a1 a2 => by rw [← kE j (by omega) (by omega)]; exact h7 j a1 a2, by rw [← vE q h5 (by omega)]; exact h8⟩
      · rintro ⟨h1, h2, h3, q, h4, h5, h6, h7, h8⟩
        have hq : q < la := by
          rcases Nat.lt_trichotomy q la with hh | hh | hh
          · exact hh
          · subst hh; exact absurd h6 kRla
          · exfalso
            rw [kR p hpl] at h1
            rw [hR0 p hpl] at h2
            rcases hlast with ⟨r', g1, g2, g3, g4, g5, g6⟩ | g
            · have : p = r' := by
                rcases Nat.lt_trichotomy p r' with e | e | e
                · exact absurd g2 (by rw [← kR r' g1]; exact h7 r' e (by omega))
                · exact e
                · exact absurd h1 (g3 p e hpl)
              subst this
              exact g6 h2
            · exact g p (Nat.zero_le _) hpl h1
        exact ⟨by rw [kE p hp hne]; exact h1, by rw [vE p hp hne]; exact h2, fun e => h3 ((oA p hpl).1 e), q, h4, h5, by rw [kE q h5 (by omega)]; exact h6, fun j a1 a2 => by rw [kE j (by omega) (by omega)]; exact h7 j a1 a2, by rw [vE q h5 (by omega)]; exact h8⟩
    · rcases Nat.lt_trichotomy p (la + 1 + lw) with hpc | hpc | hpc
      · obtain ⟨d, rfl⟩ : ∃ d, p = la + 1 + d := ⟨p - (la + 1), by omega⟩
        have h0 := kM d (by omega)
        constructor
        · intro h; exact absurd h.1 h0
        · intro h; exact absurd h.1 (by rw [← kE _ hp hne]; exact h0)
      · subst hpc
        constructor
        · intro h; have := h.2.1; rw [hL3] at this; rcases hcl with e | e <;> omega
        · intro h; have := h.2.1; rw [← vE _ hp hne, hL3] at this; rcases hcl with e | e <;> omega
      · constructor
        · rintro ⟨h1, h2, h3, q, h4, h5, h6, h7, h8⟩
          exact ⟨by rw [← kE p hp hne]; exact h1, by rw [← vE p hp hne]; exact h2, fun e => h3 ((oB p hpc hp).2 e), q, h4, h5, by rw [← kE q h5 (by omega)]; exact h6, fun j a1 a2 => by rw [← kE j (by omega) (by omega)]; exact h7 j a1 a2, by rw [← vE q h5 (by omega)]; exact h8⟩
        · rintro ⟨h1, h2, h3, q, h4, h5, h6, h7, h8⟩
          exact ⟨by rw [kE p hp hne]; exact h1, by rw [vE p hp hne]; exact h2, fun e => h3 ((oB p hpc hp).1 e), q, h4, h5, by rw [kE q h5 (by omega)]; exact h6, fun j a1 a2 => by rw [kE j (by omega) (by omega)]; exact h7 j a1 a2, by rw [vE q h5 (by omega)]; exact h8⟩
  intro p hp
  by_cases hpl : p = la
  · subst hpl
    rw [(hyL p hp).1 (.inr (.inr dL))]
    by_cases h : C R n n p
    · rw [(hyR p hp).1 h]
    · rw [(hyR p hp).2 h, hR1]
  · refine eq_of_C hyL hyR hp (vE p hp hpl) ?_
    unfold C
    rw [kE p hp hpl, iL, iR, hD p hp hpl]
end Go.Proofs.Qxb6617893a.Plain
