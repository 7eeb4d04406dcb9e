namespace Go.Proofs.YbulkckrcDoor.Pl

/-- the number of the latest message in slot k, when messages 0 .. a-1 have been stored in a ring of S slots -/
def num (a S k : Nat) : Nat := if k ≤ (a - 1) % S then a - 1 - ((a - 1) % S - k) else a - 1 - (a - 1) % S + k - S

theorem num_spec (a S k : Nat) (hS : 1 ≤ S) (ha : S ≤ a) (hk : k < S) : num a S k < a ∧ a ≤ num a S k + S ∧ num a S k % S = k := by
  have h1 := Nat.div_add_mod (a - 1) S
  have h2 := Nat.mod_lt (a - 1) (show S > 0 by omega)
  unfold num
  generalize (a - 1) % S = r at *
  cases hq : (a - 1) / S with
  | zero =>
    rw [hq] at h1
    simp only [Nat.mul_zero, Nat.zero_add] at h1
    have hkr : k ≤ r := by omega
    rw [if_pos hkr]
    have e : a - 1 - (r - k) = k := by omega
    rw [e, Nat.mod_eq_of_lt hk]
    omega
  | succ q =>
    rw [hq, Nat.mul_succ] at h1
    have hm : ∀ x y : Nat, (S * x + y) % S = y % S := fun x y => Nat.mul_add_mod_self_left _ _ _
    by_cases hkr : k ≤ r
    · rw [if_pos hkr]
      have e : a - 1 - (r - k) = S * (q + 1) + k := by rw [Nat.mul_succ]; omega
      rw [e, hm, Nat.mod_eq_of_lt hk, Nat.mul_succ]
      omega
    · rw [if_neg hkr]
      have e : a - 1 - r + k - S = S * q + k := by omega
      rw [e, hm, Nat.mod_eq_of_lt hk]
      omega

theorem mod_gap (x y S : Nat) (h : x % S = y % S) (hlt : x < y) : x + S ≤ y := by
  have h1 := Nat.div_add_mod x S
  have h2 := Nat.div_add_mod y S
  rw [h] at h1
  have h3 : x / S < y / S := by
    rcases Nat.lt_or_ge (x / S) (y / S) with h | h
    · exact h
    · have := Nat.mul_le_mul_left S h
      omega
  have h4 := Nat.mul_le_mul_left S h3
  rw [Nat.mul_succ] at h4
  omega

/-- a look short of the end finds a later message -/
theorem num_on (a S E : Nat) (hS : 1 ≤ S) (hE : S ≤ E) (hlt : E < a) : E ≤ num a S (E % S) ∧ num a S (E % S) < a := by
  obtain ⟨h1, h2, h3⟩ := num_spec a S (E % S) hS (by omega) (Nat.mod_lt _ (by omega))
  refine ⟨?_, h1⟩
  rcases Nat.lt_or_ge (num a S (E % S)) E with h | h
  · have := mod_gap _ E S h3 h
    omega
  · exact h

/-- a look at the end finds the oldest message -/
theorem num_end (a S : Nat) (hS : 1 ≤ S) (ha : S ≤ a) : num a S (a % S) = a - S := by
  obtain ⟨h1, h2, h3⟩ := num_spec a S (a % S) hS ha (Nat.mod_lt _ (by omega))
  have := mod_gap _ a S h3 h1
  omega

theorem sub_mod (E S : Nat) (hE : S ≤ E) : (E - S) % S = E % S := by
  have h : E = E - S + S := by omega
  conv => rhs; rw [h]
  simp

/-- where slot k lies past the latest one, a full turn has been stored -/
theorem big (a S k : Nat) (hS : 1 ≤ S) (ha : S ≤ a) (hk : k < S) (hr : (a - 1) % S < k) : S ≤ a - 1 - (a - 1) % S := by
  have h1 := Nat.div_add_mod (a - 1) S
  cases hq : (a - 1) / S with
  | zero =>
    rw [hq] at h1
    simp only [Nat.mul_zero, Nat.zero_add] at h1
    omega
  | succ q =>
    rw [hq, Nat.mul_succ] at h1
    omega

end Go.Proofs.YbulkckrcDoor.Pl
