/-
  THE PLAIN LAW OF SEAT b6616528a's two statements on WithUpper: numbers below 2^64, parted at bit b.
-/
namespace Go.Proofs.Qxb6616528a.Plain

/-- base with its upper fields replaced by u: b bits lie below them. -/
def wu (b base u : Nat) : Nat := (u % 2 ^ (64 - b)) * 2 ^ b + base % 2 ^ b

theorem pow_parts {b : Nat} (hb : b ≤ 64) : 2 ^ (64 - b) * 2 ^ b = 2 ^ 64 := by
  rw [← Nat.pow_add, Nat.sub_add_cancel hb]

theorem wu_lt {b base u : Nat} (hb : b ≤ 64) : wu b base u < 2 ^ 64 := by
  have h1 : u % 2 ^ (64 - b) < 2 ^ (64 - b) := Nat.mod_lt _ (Nat.two_pow_pos _)
  have h2 : base % 2 ^ b < 2 ^ b := Nat.mod_lt _ (Nat.two_pow_pos _)
  have h3 : (u % 2 ^ (64 - b) + 1) * 2 ^ b ≤ 2 ^ (64 - b) * 2 ^ b := Nat.mul_le_mul_right _ h1
  rw [pow_parts hb, Nat.add_mul, Nat.one_mul] at h3
  unfold wu
  omega

theorem wu_mod {b base u : Nat} : wu b base u % 2 ^ b = base % 2 ^ b := by
  unfold wu
  rw [Nat.add_comm, Nat.add_mul_mod_self_right, Nat.mod_mod]

theorem wu_div {b base u : Nat} : wu b base u / 2 ^ b = u % 2 ^ (64 - b) := by
  unfold wu
  rw [Nat.add_comm, Nat.add_mul_div_right _ _ (Nat.two_pow_pos _), Nat.div_eq_of_lt (Nat.mod_lt _ (Nat.two_pow_pos _)), Nat.zero_add]

theorem wu_wu {b base u1 u2 : Nat} : wu b (wu b base u1) u2 = wu b base u2 := by
  rw [wu, wu_mod, wu]

/-- The shift's own form. -/
theorem shl_form {b u : Nat} (hb : b ≤ 64) : u * 2 ^ b % 2 ^ 64 = (u % 2 ^ (64 - b)) * 2 ^ b := by
  rw [← pow_parts hb, Nat.mul_mod_mul_right]

theorem wu_lt_iff {b base u1 u2 : Nat} : wu b base u1 < wu b base u2 ↔ u1 % 2 ^ (64 - b) < u2 % 2 ^ (64 - b) := by
  unfold wu
  constructor
  · intro h
    have h' : u1 % 2 ^ (64 - b) * 2 ^ b < u2 % 2 ^ (64 - b) * 2 ^ b := by omega
    exact Nat.lt_of_mul_lt_mul_right h'
  · intro h
    have := Nat.mul_lt_mul_of_pos_right h (Nat.two_pow_pos b)
    omega

/-- What zzCmp answers. -/
def cmp (a b : Nat) : Int := if a < b then -1 else if b < a then 1 else 0

theorem cmp_wu {b base u1 u2 : Nat} : cmp (wu b base u1) (wu b base u2) = cmp (u1 % 2 ^ (64 - b)) (u2 % 2 ^ (64 - b)) := by
  unfold cmp
  simp only [wu_lt_iff]
end Go.Proofs.Qxb6616528a.Plain
