/-
  Seat b6616908a: the plain arithmetic of partEnd: no program in sight.
-/
import Derived.KernelRfl
namespace Go.Proofs.Qxb6616908a

def PE (c p j : Nat) : Nat := c / p * j + c % p * j / p

theorem pe_eq (c p j : Nat) (hp : 0 < p) : PE c p j = c * j / p := by
  have e : c * j = p * (c / p * j) + c % p * j := by
    have h := Nat.div_add_mod c p
    calc c * j = (p * (c / p) + c % p) * j := by rw [h]
      _ = p * (c / p * j) + c % p * j := by rw [Nat.add_mul, Nat.mul_assoc]
  rw [e, Nat.mul_add_div hp]; rfl

theorem pe_le (c p j : Nat) (hp : 0 < p) (hj : j ≤ p) : PE c p j ≤ c := by
  rw [pe_eq c p j hp]
  exact Nat.div_le_of_le_mul (by rw [Nat.mul_comm p c]; exact Nat.mul_le_mul_left c hj)

theorem q_le (c p j : Nat) (hj : j ≤ p) : c / p * j ≤ c :=
  Nat.le_trans (Nat.mul_le_mul_left _ hj) (Nat.div_mul_le_self c p)

/-- the floor: A * p ≤ c * j < A * p + p -/
theorem pe_floor (c p j : Nat) (hp : 0 < p) : PE c p j * p ≤ c * j ∧ c * j < PE c p j * p + p := by
  rw [pe_eq c p j hp]
  have h := Nat.div_add_mod (c * j) p
  have h2 := Nat.mod_lt (c * j) hp
  rw [Nat.mul_comm p] at h
  omega

/-- the step -/
theorem pe_step (c p j : Nat) (hp : 0 < p) : PE c p (j + 1) = PE c p j + c / p ∨ PE c p (j + 1) = PE c p j + c / p + 1 := by
  obtain ⟨f1, f2⟩ := pe_floor c p j hp
  obtain ⟨g1, g2⟩ := pe_floor c p (j + 1) hp
  have hc := Nat.div_add_mod c p
  have hr := Nat.mod_lt c hp
  rw [Nat.mul_add, Nat.mul_one] at g1 g2
  generalize PE c p j = A at *
  generalize PE c p (j + 1) = B at *
  generalize c * j = X at *
  generalize c / p = q at *
  generalize c % p = r at *
  rw [Nat.mul_comm p q] at hc
  have h1 : A + q ≤ B := by
    refine Nat.le_of_lt_succ (Nat.lt_of_mul_lt_mul_right (a := p) ?_)
    rw [Nat.succ_mul, Nat.add_mul]; omega
  have h2 : B ≤ A + q + 1 := by
    refine Nat.le_of_lt_succ (Nat.lt_of_mul_lt_mul_right (a := p) ?_)
    rw [Nat.succ_mul, Nat.add_mul, Nat.add_mul]; omega
  omega

theorem rem_mul (c p j : Nat) (h : (c : Int) % (p : Int) ≤ 18446744073709551615 / ((j : Int) + 1)) : c % p * (j + 1) < 18446744073709551616 := by
  have h' : c % p ≤ 18446744073709551615 / (j + 1) := by
    have e1 : (c : Int) % (p : Int) = ((c % p : Nat) : Int) := (Int.natCast_emod c p).symm
    have e2 : (18446744073709551615 : Int) / ((j : Int) + 1) = ((18446744073709551615 / (j + 1) : Nat) : Int) := by
      rw [Int.natCast_ediv]; rfl
    rw [e1, e2] at h
    omega
  have := (Nat.le_div_iff_mul_le (by omega)).1 h'
  omega

theorem le128 (a b : Nat) : decide (a / 18446744073709551616 < b / 18446744073709551616 ∨ (a / 18446744073709551616 = b / 18446744073709551616 ∧ a % 18446744073709551616 ≤ b % 18446744073709551616)) = decide (a ≤ b) := by
  apply decide_eq_decide.2; omega

theorem top (A p : Nat) (hA : A < 18446744073709551616) (hp : p < 18446744073709551616) : (A * p + p) / 18446744073709551616 < 18446744073709551616 := by
  have h : (A + 1) * p ≤ 18446744073709551616 * 18446744073709551615 := Nat.mul_le_mul (by omega) (by omega)
  rw [Nat.succ_mul] at h
  omega

/-- the complement -/
theorem pe_comp (c p j : Nat) (hp : 0 < p) (hj : j ≤ p) : (PE c p j * p = c * j ∧ PE c p j + PE c p (p - j) = c) ∨ (PE c p j * p ≠ c * j ∧ PE c p j + PE c p (p - j) + 1 = c) := by
  obtain ⟨f1, f2⟩ := pe_floor c p j hp
  obtain ⟨g1, g2⟩ := pe_floor c p (p - j) hp
  have hs : c * j + c * (p - j) = c * p := by rw [← Nat.mul_add]; congr 1; omega
  generalize PE c p j = A at *
  generalize PE c p (p - j) = B at *
  generalize c * j = X at *
  generalize c * (p - j) = Y at *
  have h1 : A + B ≤ c := by
    refine Nat.le_of_lt_succ (Nat.lt_of_mul_lt_mul_right (a := p) ?_)
    rw [Nat.succ_mul, Nat.add_mul]; omega
  have h2 : c ≤ A + B + 1 := by
    refine Nat.le_of_lt_succ (Nat.lt_of_mul_lt_mul_right (a := p) ?_)
    rw [Nat.succ_mul, Nat.add_mul, Nat.add_mul]; omega
  rcases Nat.lt_or_ge (A + B) c with h | h
  · right
    have e : A + B + 1 = c := by omega
    refine ⟨fun hx => ?_, e⟩
    rw [← e, Nat.add_mul, Nat.add_mul] at hs
    omega
  · left
    have e : A + B = c := by omega
    refine ⟨?_, e⟩
    rw [← e, Nat.add_mul] at hs
    omega

theorem rem_mul' (c p m : Nat) (hm : 0 < m) (h : (c : Int) % (p : Int) ≤ 18446744073709551615 / (m : Int)) : c % p * m < 18446744073709551616 := by
  have h' : c % p ≤ 18446744073709551615 / m := by
    have e1 : (c : Int) % (p : Int) = ((c % p : Nat) : Int) := (Int.natCast_emod c p).symm
    have e2 : (18446744073709551615 : Int) / (m : Int) = ((18446744073709551615 / m : Nat) : Int) := by
      rw [Int.natCast_ediv]; rfl
    rw [e1, e2] at h
    omega
  have := (Nat.le_div_iff_mul_le hm).1 h'
  omega

theorem words_eq (a b : Nat) : (a / 18446744073709551616 = b / 18446744073709551616 ∧ a % 18446744073709551616 = b % 18446744073709551616) ↔ a = b := by omega

end Go.Proofs.Qxb6616908a
