/-
  The decimal text of a number. No Go text in it.
-/
import Derived.WalkKit
namespace Go.Proofs.Qxb6615960aFmt

/-- How many digits. -/
def nd (u : Nat) : Nat := if u < 10 then 1 else nd (u / 10) + 1
termination_by u
decreasing_by omega

theorem nd_small {u : Nat} (h : u < 10) : nd u = 1 := by unfold nd; rw [if_pos h]
theorem nd_big {u : Nat} (h : ¬ u < 10) : nd u = nd (u / 10) + 1 := by rw [nd]; rw [if_neg h]

theorem nd_pos (u : Nat) : 1 ≤ nd u := by
  by_cases h : u < 10
  · rw [nd_small h]; exact Nat.le_refl _
  · rw [nd_big h]; omega

theorem lt_nd (u : Nat) : u < 10 ^ nd u := by
  induction u using Nat.strongRecOn with
  | _ u ih =>
    by_cases h : u < 10
    · rw [nd_small h]; omega
    · rw [nd_big h, Nat.pow_succ]
      have := ih (u / 10) (by omega)
      omega

theorem nd_le (u : Nat) (h : 1 < nd u) : 10 ^ (nd u - 1) ≤ u := by
  induction u using Nat.strongRecOn with
  | _ u ih =>
    by_cases h10 : u < 10
    · rw [nd_small h10] at h; omega
    · rw [nd_big h10]
      by_cases h2 : 1 < nd (u / 10)
      · have h3 := ih (u / 10) (by omega) h2
        have e : nd (u / 10) + 1 - 1 = (nd (u / 10) - 1) + 1 := by omega
        rw [e, Nat.pow_succ]
        omega
      · have := nd_pos (u / 10)
        have e : nd (u / 10) + 1 - 1 = 1 := by omega
        rw [e]; omega

theorem nd_le_20 (u : Nat) (h : u < 10 ^ 20) : nd u ≤ 20 := by
  by_cases h1 : 1 < nd u
  · have h2 := nd_le u h1
    have h3 : 10 ^ (nd u - 1) < 10 ^ 20 := Nat.lt_of_le_of_lt h2 h
    have := (Nat.pow_lt_pow_iff_right (by decide : 1 < 10)).1 h3
    omega
  · omega

/-- The j-th digit from the left, j < nd u. -/
def dg (u j : Nat) : Nat := u / 10 ^ (nd u - 1 - j) % 10
/-- The text: bytes. -/
def dig (u : Nat) : List Int := (List.range (nd u)).map fun j => (48 : Int) + (dg u j : Nat)

theorem dig_length (u : Nat) : (dig u).length = nd u := by simp [dig]
theorem dg_lt (u j : Nat) : dg u j < 10 := Nat.mod_lt _ (by decide)
theorem dig_getD (u : Nat) {j : Nat} (h : j < nd u) : (dig u).getD j 0 = 48 + (dg u j : Nat) := by
  simp [dig, List.getD, h]
theorem dig_bytes (u : Nat) : ∀ x ∈ dig u, 0 ≤ x ∧ x ≤ 255 := by
  intro x hx
  simp only [dig, List.mem_map] at hx
  obtain ⟨j, _, rfl⟩ := hx
  have := dg_lt u j
  omega

/-- The number that the first j digits spell. -/
def pre (u j : Nat) : Nat := u / 10 ^ (nd u - j)
theorem pre_zero (u : Nat) : pre u 0 = 0 := Nat.div_eq_of_lt (by simpa using lt_nd u)
theorem pre_full (u : Nat) : pre u (nd u) = u := by simp [pre]
theorem pre_le (u j : Nat) : pre u j ≤ u := Nat.div_le_self _ _
theorem pre_step (u : Nat) {j : Nat} (h : j < nd u) : pre u (j + 1) = pre u j * 10 + dg u j := by
  unfold pre dg
  have e1 : nd u - (j + 1) = nd u - 1 - j := by omega
  have e2 : nd u - j = (nd u - 1 - j) + 1 := by omega
  rw [e1, e2, Nat.pow_succ, ← Nat.div_div_eq_div_mul]
  omega
theorem pre_short (u : Nat) {j : Nat} (h : j < nd u) : pre u j * 10 ≤ u := by
  have := pre_step u h
  have := pre_le u (j + 1)
  omega
/-- No leading zero. -/
theorem dg_first (u : Nat) (h : 1 < nd u) : 1 ≤ dg u 0 := by
  have h1 := nd_le u h
  have h2 := pre_step u (j := 0) (by omega)
  rw [pre_zero] at h2
  have h3 : 1 ≤ pre u (0 + 1) := by
    unfold pre
    exact (Nat.one_le_div_iff (by exact Nat.pow_pos (by decide))).2 h1
  omega

/-- Digits from the right: after j rounds of 'u%10, u/10' with u / 10^j still to go. -/
theorem nd_of_rounds (u j : Nat) (h : u / 10 ^ j < 10) (h1 : j = 0 ∨ 10 ≤ u / 10 ^ (j - 1)) : nd u = j + 1 := by
  have hp : 0 < 10 ^ j := Nat.pow_pos (by decide)
  have a : u < 10 ^ (j + 1) := by
    rw [Nat.pow_succ]
    have := (Nat.div_lt_iff_lt_mul hp).1 h
    omega
  have b := lt_nd u
  rcases h1 with rfl | h1
  · simp at h; rw [nd_small h]
  · by_cases hj : j = 0
    · subst hj; simp at h; rw [nd_small h]
    · have hp' : 0 < 10 ^ (j - 1) := Nat.pow_pos (by decide)
      have c : 10 ^ j ≤ u := by
        have e : j = (j - 1) + 1 := by omega
        rw [e, Nat.pow_succ]
        have := (Nat.le_div_iff_mul_le hp').1 h1
        omega
      have d : j < nd u := (Nat.pow_lt_pow_iff_right (by decide : 1 < 10)).1 (Nat.lt_of_le_of_lt c b)
      have d2 : nd u - 1 < j + 1 := (Nat.pow_lt_pow_iff_right (by decide : 1 < 10)).1 (Nat.lt_of_le_of_lt (nd_le u (by omega)) a)
      omega

end Go.Proofs.Qxb6615960aFmt
