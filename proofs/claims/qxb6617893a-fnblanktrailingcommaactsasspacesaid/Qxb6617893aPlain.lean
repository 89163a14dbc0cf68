/-
  THE PLAIN LAW OF SEAT b6617893a: bytes as a function of the place; the one-pass lexer; what 'blank' leaves. No Go in sight.
-/
namespace Go.Proofs.Qxb6617893a.Plain

/-- One place turned. -/
def upd (z : Nat → Int) (j : Nat) (x : Int) : Nat → Int := fun i => if i = j then x else z i
theorem upd_same (z : Nat → Int) (j : Nat) (x : Int) : upd z j x j = x := by simp [upd]
theorem upd_ne (z : Nat → Int) {i j : Nat} (x : Int) (h : i ≠ j) : upd z j x i = z i := by simp [upd, h]

def bom (z : Nat → Int) (n : Nat) : Bool := decide (3 ≤ n) && (z 0 == 239 && (z 1 == 187 && z 2 == 191))
def isSp (c : Int) : Bool := c == 32 || (c == 9 || (c == 13 || c == 10))
/-- A comment begins at k. -/
def cm (z : Nat → Int) (n k : Nat) : Bool := z k == 47 && (decide (k + 1 < n) && z (k + 1) == 47)
def inBom (z : Nat → Int) (n k : Nat) : Bool := bom z n && decide (k < 3)

/-- The state behind place k, by the state ahead of it. -/
def next (z : Nat → Int) (n k : Nat) (s : Int) : Int :=
  if inBom z n k = true then s
  else if s = 3 then (if z k = 10 then 0 else s)
  else if s = 1 then (if z k = 92 then 2 else if z k = 34 then 0 else s)
  else if s = 2 then 1
  else if isSp (z k) = true then s
  else if cm z n k = true then 3
  else if z k = 34 then 1 else s

/-- The kind of the byte at k. -/
def kd (z : Nat → Int) (n k : Nat) (s : Int) : Int :=
  if inBom z n k = true then 4
  else if s = 3 then (if z k = 10 then 1 else 2)
  else if s = 1 then 3
  else if s = 2 then 3
  else if isSp (z k) = true then 1
  else if cm z n k = true then 2
  else 0

def st (z : Nat → Int) (n : Nat) : Nat → Int
  | 0 => 0
  | k + 1 => next z n k (st z n k)

def kind (z : Nat → Int) (n k : Nat) : Int := kd z n k (st z n k)

theorem st_succ (z : Nat → Int) (n k : Nat) : st z n (k + 1) = next z n k (st z n k) := rfl

theorem inBom_true {z : Nat → Int} {n k : Nat} : inBom z n k = true ↔ bom z n = true ∧ k < 3 := by simp [inBom]

theorem bom_len {z : Nat → Int} {n : Nat} (h : bom z n = true) : 3 ≤ n := by
  simp [bom] at h; exact h.1

/-- In a byte order mark the state is the first one. -/
theorem st_bom {z : Nat → Int} {n : Nat} (h : bom z n = true) : ∀ k, k ≤ 3 → st z n k = 0
  | 0, _ => rfl
  | k + 1, hk => by
    rw [st_succ, next, if_pos (inBom_true.2 ⟨h, by omega⟩)]
    exact st_bom h k (by omega)

theorem noBom_of_st {z : Nat → Int} {n k : Nat} (h : st z n k ≠ 0) : ¬ inBom z n k = true := by
  intro hb
  obtain ⟨h1, h2⟩ := inBom_true.1 hb
  exact h (st_bom h1 k (by omega))

theorem st_bom4 {z : Nat → Int} {n k : Nat} (h : inBom z n k = true) : st z n (k + 1) = 0 ∧ kind z n k = 4 := by
  obtain ⟨h1, h2⟩ := inBom_true.1 h
  exact ⟨st_bom h1 _ (by omega), by rw [kind, kd, if_pos h]⟩

section
variable {z : Nat → Int} {n k : Nat}

theorem code_sp (h : st z n k = 0) (hs : isSp (z k) = true ∨ inBom z n k = true) : st z n (k + 1) = 0 ∧ kind z n k ≠ 0 ∧ kind z n k ≠ 2 := by
  by_cases hb : inBom z n k = true
  · obtain ⟨h1, h2⟩ := st_bom4 hb
    exact ⟨h1, by rw [h2]; decide, by rw [h2]; decide⟩
  · have hs' : isSp (z k) = true := by rcases hs with h | h; exact h; exact absurd h hb
    rw [st_succ, kind, next, kd, h, if_neg hb, if_neg hb]
    simp [hs']

theorem code_cm (h : st z n k = 0) (hb : ¬ inBom z n k = true) (hs : ¬ isSp (z k) = true) (hc : cm z n k = true) : st z n (k + 1) = 3 ∧ kind z n k = 2 := by
  rw [st_succ, kind, next, kd, h, if_neg hb, if_neg hb]
  simp [hs, hc]

theorem code_quote (h : st z n k = 0) (hb : ¬ inBom z n k = true) (hq : z k = 34) : st z n (k + 1) = 1 ∧ kind z n k = 0 := by
  have hs : isSp 34 = false := rfl
  have hc : ¬ cm z n k = true := by simp [cm, hq]
  rw [st_succ, kind, next, kd, h, if_neg hb, if_neg hb]
  simp [hs, hc, hq]

theorem code_sig (h : st z n k = 0) (hb : ¬ inBom z n k = true) (hs : ¬ isSp (z k) = true) (hc : ¬ cm z n k = true) (hq : z k ≠ 34) : st z n (k + 1) = 0 ∧ kind z n k = 0 := by
  rw [st_succ, kind, next, kd, h, if_neg hb, if_neg hb]
  simp [hs, hc, hq]

theorem com_end (h : st z n k = 3) (hq : z k = 10) : st z n (k + 1) = 0 ∧ kind z n k = 1 := by
  have hb : ¬ inBom z n k = true := noBom_of_st (by rw [h]; decide)
  rw [st_succ, kind, next, kd, h, if_neg hb, if_neg hb]
  simp [hq]

theorem com_on (h : st z n k = 3) (hq : z k ≠ 10) : st z n (k + 1) = 3 ∧ kind z n k = 2 := by
  have hb : ¬ inBom z n k = true := noBom_of_st (by rw [h]; decide)
  rw [st_succ, kind, next, kd, h, if_neg hb, if_neg hb]
  simp [hq]

theorem str_any (h : st z n k = 1) : kind z n k = 3 ∧ st z n (k + 1) = (if z k = 92 then 2 else if z k = 34 then 0 else 1) := by
  have hb : ¬ inBom z n k = true := noBom_of_st (by rw [h]; decide)
  rw [st_succ, kind, next, kd, h, if_neg hb, if_neg hb]
  simp

theorem esc_any (h : st z n k = 2) : kind z n k = 3 ∧ st z n (k + 1) = 1 := by
  have hb : ¬ inBom z n k = true := noBom_of_st (by rw [h]; decide)
  rw [st_succ, kind, next, kd, h, if_neg hb, if_neg hb]
  simp
end

/-- The significant byte before p is [ or {. -/
def Opn (z : Nat → Int) (n p : Nat) : Prop :=
  ∃ r, r < p ∧ kind z n r = 0 ∧ (∀ j, r < j → j < p → kind z n j ≠ 0) ∧ (z r = 91 ∨ z r = 123)
/-- The comma at p is one to blank, and that is seen before m. -/
def Done (z : Nat → Int) (n m p : Nat) : Prop :=
  kind z n p = 0 ∧ z p = 44 ∧ ¬ Opn z n p ∧ ∃ q, p < q ∧ q < m ∧ kind z n q = 0 ∧ (∀ j, p < j → j < q → kind z n j ≠ 0) ∧ (z q = 93 ∨ z q = 125)
/-- The byte at p is a space when all before m has been seen. -/
def C (z : Nat → Int) (n m p : Nat) : Prop := (p < m ∧ kind z n p = 2) ∨ inBom z n p = true ∨ Done z n m p
def Last (z : Nat → Int) (n m : Nat) (v : Int) : Prop :=
  (∃ r, r < m ∧ kind z n r = 0 ∧ (∀ j, r < j → j < m → kind z n j ≠ 0) ∧ v = z r) ∨ ((∀ j, j < m → kind z n j ≠ 0) ∧ v = 0)
def Pend (z : Nat → Int) (n m r : Nat) : Prop :=
  r < m ∧ kind z n r = 0 ∧ z r = 44 ∧ (∀ j, r < j → j < m → kind z n j ≠ 0) ∧ ¬ Opn z n r
def Comm (z : Nat → Int) (n m : Nat) (c : Int) : Prop := (c = -1 ∧ ∀ r, ¬ Pend z n m r) ∨ ∃ r : Nat, c = (r : Int) ∧ Pend z n m r

/-- What holds when blank has seen all before m. -/
structure Inv (z : Nat → Int) (n m : Nat) (out : Nat → Int) (last comma : Int) : Prop where
  le : m ≤ n
  last : Last z n m last
  comma : Comm z n m comma
  out : ∀ p, p < n → (C z n m p → out p = 32) ∧ (¬ C z n m p → out p = z p)

/-- What blank answers. -/
def Blanked (z : Nat → Int) (n : Nat) (y : Nat → Int) : Prop := ∀ p, p < n → (C z n n p → y p = 32) ∧ (¬ C z n n p → y p = z p)

theorem Blanked.uniq {z : Nat → Int} {n : Nat} {x y : Nat → Int} (hx : Blanked z n x) (hy : Blanked z n y) : ∀ p, p < n → x p = y p := by
  intro p hp
  by_cases h : C z n n p
  · rw [(hx p hp).1 h, (hy p hp).1 h]
  · rw [(hx p hp).2 h, (hy p hp).2 h]

section
variable {z out : Nat → Int} {n m : Nat} {last comma : Int}

theorem inv_start (ho : ∀ p, p < n → out p = if inBom z n p = true then 32 else z p) : Inv z n 0 out 0 (-1) := by
  refine ⟨Nat.zero_le _, .inr ⟨fun j hj => by omega, rfl⟩, .inl ⟨rfl, fun r hr => by have := hr.1; omega⟩, fun p hp => ?_⟩
  rw [ho p hp]
  constructor
  · rintro (⟨h, _⟩ | h | ⟨_, _, _, q, _, h, _⟩)
    · omega
    · rw [if_pos h]
    · omega
  · intro h
    rw [if_neg (fun hb => h (.inr (.inl hb)))]

/-- What is not yet seen reads as it was laid. -/
theorem Inv.ahead (h : Inv z n m out last comma) {p : Nat} (hp : p < n) (hm : m ≤ p) : out p = if inBom z n p = true then 32 else z p := by
  by_cases hb : inBom z n p = true
  · rw [if_pos hb]; exact (h.out p hp).1 (.inr (.inl hb))
  · rw [if_neg hb]
    refine (h.out p hp).2 ?_
    rintro (⟨h1, _⟩ | h1 | ⟨_, _, _, q, h2, h3, _⟩)
    · omega
    · exact hb h1
    · omega

theorem Inv.skip (h : Inv z n m out last comma) (hm : m < n) (h0 : kind z n m ≠ 0) (h2 : kind z n m ≠ 2) : Inv z n (m + 1) out last comma := by
  refine ⟨hm, ?_, ?_, ?_⟩
  · rcases h.last with ⟨r, a, b, c, d⟩ | ⟨a, b⟩
    · refine .inl ⟨r, by omega, b, fun j hj1 hj2 => ?_, d⟩
      rcases Nat.lt_or_ge j m with hj | hj
      · exact c j hj1 hj
      · obtain rfl : j = m := by omega
        exact h0
    · refine .inr ⟨fun j hj => ?_, b⟩
      rcases Nat.lt_or_ge j m with hj' | hj'
      · exact a j hj'
      · obtain rfl : j = m := by omega
        exact h0
  · have key : ∀ r, Pend z n (m + 1) r ↔ Pend z n m r := by
      intro r
      constructor
      · rintro ⟨a, b, c, d, e⟩
        have : r ≠ m := by rintro rfl; exact h0 b
        exact ⟨by omega, b, c, fun j h1 h2 => d j h1 (by omega), e⟩
      · rintro ⟨a, b, c, d, e⟩
        refine ⟨by omega, b, c, fun j h1 h2 => ?_, e⟩
        rcases Nat.lt_or_ge j m with hj | hj
        · exact d j h1 hj
        · obtain rfl : j = m := by omega
          exact h0
    rcases h.comma with ⟨a, b⟩ | ⟨r, a, b⟩
    · exact .inl ⟨a, fun r hr => b r ((key r).1 hr)⟩
    · exact .inr ⟨r, a, (key r).2 b⟩
  · have key : ∀ p, C z n (m + 1) p ↔ C z n m p := by
      intro p
      constructor
      · rintro (⟨a, b⟩ | a | ⟨a, b, c, q, d, e, f, g⟩)
        · have : p ≠ m := by rintro rfl; exact h2 b
          exact .inl ⟨by omega, b⟩
        · exact .inr (.inl a)
        · have : q ≠ m := by rintro rfl; exact h0 f
          exact .inr (.inr ⟨a, b, c, q, d, by omega, f, g⟩)
      · rintro (⟨a, b⟩ | a | ⟨a, b, c, q, d, e, f, g⟩)
        · exact .inl ⟨by omega, b⟩
        · exact .inr (.inl a)
        · exact .inr (.inr ⟨a, b, c, q, d, by omega, f, g⟩)
    intro p hp
    rw [key p]
    exact h.out p hp

theorem Inv.comment (h : Inv z n m out last comma) (hm : m < n) (h2 : kind z n m = 2) : Inv z n (m + 1) (upd out m 32) last comma := by
  have h0 : kind z n m ≠ 0 := by rw [h2]; decide
  refine ⟨hm, ?_, ?_, ?_⟩
  · rcases h.last with ⟨r, a, b, c, d⟩ | ⟨a, b⟩
    · refine .inl ⟨r, by omega, b, fun j hj1 hj2 => ?_, d⟩
      rcases Nat.lt_or_ge j m with hj | hj
      · exact c j hj1 hj
      · obtain rfl : j = m := by omega
        exact h0
    · refine .inr ⟨fun j hj => ?_, b⟩
      rcases Nat.lt_or_ge j m with hj' | hj'
      · exact a j hj'
      · obtain rfl : j = m := by omega
        exact h0
  · have key : ∀ r, Pend z n (m + 1) r ↔ Pend z n m r := by
      intro r
      constructor
      · rintro ⟨a, b, c, d, e⟩
        have : r ≠ m := by rintro rfl; exact h0 b
        exact ⟨by omega, b, c, fun j h1 h2 => d j h1 (by omega), e⟩
      · rintro ⟨a, b, c, d, e⟩
        refine ⟨by omega, b, c, fun j h1 h2 => ?_, e⟩
        rcases Nat.lt_or_ge j m with hj | hj
        · exact d j h1 hj
        · obtain rfl : j = m := by omega
          exact h0
    rcases h.comma with ⟨a, b⟩ | ⟨r, a, b⟩
    · exact .inl ⟨a, fun r hr => b r ((key r).1 hr)⟩
    · exact .inr ⟨r, a, (key r).2 b⟩
  · have key : ∀ p, p ≠ m → (C z n (m + 1) p ↔ C z n m p) := by
      intro p hpm
      constructor
      · rintro (⟨a, b⟩ | a | ⟨a, b, c, q, d, e, f, g⟩)
        · exact .inl ⟨by omega, b⟩
        · exact .inr (.inl a)
        · have : q ≠ m := by rintro rfl; exact h0 f
          exact .inr (.inr ⟨a, b, c, q, d, by omega, f, g⟩)
      · rintro (⟨a, b⟩ | a | ⟨a, b, c, q, d, e, f, g⟩)
        · exact .inl ⟨by omega, b⟩
        · exact .inr (.inl a)
        · exact .inr (.inr ⟨a, b, c, q, d, by omega, f, g⟩)
    intro p hp
    by_cases hpm : p = m
    · subst hpm
      rw [upd_same]
      exact ⟨fun _ => rfl, fun hn => absurd (.inl ⟨by omega, h2⟩) hn⟩
    · rw [upd_ne _ _ hpm, key p hpm]
      exact h.out p hp

/-- The last significant byte tells whether [ or { stands before m. -/
theorem Inv.opn (h : Inv z n m out last comma) : Opn z n m ↔ (last = 91 ∨ last = 123) := by
  rcases h.last with ⟨r, a, b, c, d⟩ | ⟨a, b⟩
  · constructor
    · rintro ⟨r', a', b', c', d'⟩
      have : r' = r := by
        rcases Nat.lt_trichotomy r r' with hh | hh | hh
        · exact absurd b' (c r' hh a')
        · exact hh.symm
        · exact absurd b (c' r hh a)
      subst this
      rw [d]; exact d'
    · intro hl
      exact ⟨r, a, b, c, by rw [← d]; exact hl⟩
  · constructor
    · rintro ⟨r', a', b', _⟩
      exact absurd b' (a r' a')
    · intro hl
      rw [b] at hl
      omega

theorem Inv.sig (h : Inv z n m out last comma) (hm : m < n) (h0 : kind z n m = 0) {out' : Nat → Int} {c' : Int}
    (ho : ∀ p, p < n → (Pend z n m p ∧ (z m = 93 ∨ z m = 125) → out' p = 32) ∧ (¬ (Pend z n m p ∧ (z m = 93 ∨ z m = 125)) → out' p = out p))
    (hc : (c' = (m : Int) ∧ z m = 44 ∧ last ≠ 91 ∧ last ≠ 123) ∨ (c' = -1 ∧ ¬ (z m = 44 ∧ last ≠ 91 ∧ last ≠ 123))) : Inv z n (m + 1) out' (z m) c' := by
  refine ⟨hm, .inl ⟨m, by omega, h0, fun j h1 h2 => by omega, rfl⟩, ?_, ?_⟩
  · have key : ∀ r, Pend z n (m + 1) r → r = m := by
      rintro r ⟨a, b, c, d, e⟩
      rcases Nat.lt_or_ge r m with hr | hr
      · exact absurd h0 (d m hr (by omega))
      · omega
    have ho := h.opn
    rcases hc with ⟨a, b, c, d⟩ | ⟨a, b⟩
    · refine .inr ⟨m, a, by omega, h0, b, fun j h1 h2 => by omega, fun hh => ?_⟩
      rcases ho.1 hh with hh | hh
      · exact c hh
      · exact d hh
    · refine .inl ⟨a, fun r hr => b ?_⟩
      obtain rfl := key r hr
      exact ⟨hr.2.2.1, fun e => hr.2.2.2.2 (ho.2 (.inl e)), fun e => hr.2.2.2.2 (ho.2 (.inr e))⟩
  · have key : ∀ p, C z n (m + 1) p ↔ (C z n m p ∨ (Pend z n m p ∧ (z m = 93 ∨ z m = 125))) := by
      intro p
      constructor
      · rintro (⟨a, b⟩ | a | ⟨a, b, c, q, d, e, f, g, hh⟩)
        · have : p ≠ m := by rintro rfl; rw [h0] at b; exact absurd b (by decide)
          exact .inl (.inl ⟨by omega, b⟩)
        · exact .inl (.inr (.inl a))
        · rcases Nat.lt_or_ge q m with hq | hq
          · exact .inl (.inr (.inr ⟨a, b, c, q, d, hq, f, g, hh⟩))
          · obtain rfl : q = m := by omega
            exact .inr ⟨⟨d, a, b, g, c⟩, hh⟩
      · rintro ((⟨a, b⟩ | a | ⟨a, b, c, q, d, e, f, g⟩) | ⟨⟨a, b, c, d, e⟩, hh⟩)
        · exact .inl ⟨by omega, b⟩
        · exact .inr (.inl a)
        · exact .inr (.inr ⟨a, b, c, q, d, by omega, f, g⟩)
        · exact .inr (.inr ⟨b, c, e, m, a, by omega, h0, d, hh⟩)
    intro p hp
    rw [key p]
    constructor
    · rintro (hh | hh)
      · by_cases hx : Pend z n m p ∧ (z m = 93 ∨ z m = 125)
        · exact (ho p hp).1 hx
        · rw [(ho p hp).2 hx]; exact (h.out p hp).1 hh
      · exact (ho p hp).1 hh
    · intro hh
      rw [(ho p hp).2 (fun e => hh (.inr e))]
      exact (h.out p hp).2 (fun e => hh (.inl e))

/-- A significant byte that blanks no comma. -/
theorem Inv.sig_keep (h : Inv z n m out last comma) (hm : m < n) (h0 : kind z n m = 0) (hk : ¬ ((z m = 93 ∨ z m = 125) ∧ 0 ≤ comma)) {c' : Int}
    (hc : (c' = (m : Int) ∧ z m = 44 ∧ last ≠ 91 ∧ last ≠ 123) ∨ (c' = -1 ∧ ¬ (z m = 44 ∧ last ≠ 91 ∧ last ≠ 123))) : Inv z n (m + 1) out (z m) c' := by
  refine h.sig hm h0 (fun p _ => ⟨fun ⟨a, b⟩ => ?_, fun _ => rfl⟩) hc
  rcases h.comma with ⟨_, e⟩ | ⟨r, e, _⟩
  · exact absurd a (e p)
  · exact absurd ⟨b, by omega⟩ hk

/-- A closing byte behind a pending comma. -/
theorem Inv.sig_close (h : Inv z n m out last comma) (hm : m < n) (h0 : kind z n m = 0) (hk : z m = 93 ∨ z m = 125) (hp : 0 ≤ comma) :
    comma.toNat < n ∧ Inv z n (m + 1) (upd out comma.toNat 32) (z m) (-1) := by
  rcases h.comma with ⟨e, _⟩ | ⟨r, e, hr⟩
  · omega
  · have er : comma.toNat = r := by omega
    rw [er]
    have hrm := hr.1
    refine ⟨by omega, h.sig hm h0 (fun p _ => ⟨fun ⟨a, b⟩ => ?_, fun hn => ?_⟩) (.inr ⟨rfl, fun hh => by have := hh.1; omega⟩)⟩
    · have : p = r := by
        rcases Nat.lt_trichotomy p r with hh | hh | hh
        · exact absurd hr.2.1 (a.2.2.2.1 r hh hr.1)
        · exact hh
        · exact absurd a.2.1 (hr.2.2.2.1 p hh a.1)
      rw [this, upd_same]
    · have : p ≠ r := by rintro rfl; exact hn ⟨hr, hk⟩
      exact upd_ne _ _ this
end

theorem Inv.blanked {z out : Nat → Int} {n : Nat} {last comma : Int} (h : Inv z n n out last comma) : Blanked z n out := h.out

end Go.Proofs.Qxb6617893a.Plain
