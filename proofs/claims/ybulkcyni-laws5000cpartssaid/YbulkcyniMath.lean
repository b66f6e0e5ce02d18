/-
  THE PLAIN LAW OF 'divide': the cut points 'k * L / n' (no Go in sight).
-/
namespace Go.Proofs.Ybulkcyni.Cut

/-- Where part k begins. -/
def lo (L n k : Nat) : Nat := k * L / n

theorem lo_zero (L n : Nat) : lo L n 0 = 0 := by simp [lo]

theorem lo_end (L n : Nat) (hn : 1 ≤ n) : lo L n n = L := by
  unfold lo; exact Nat.mul_div_cancel_left L hn

theorem lo_mono (L n : Nat) {j k : Nat} (h : j ≤ k) : lo L n j ≤ lo L n k := by
  unfold lo; exact Nat.div_le_div_right (Nat.mul_le_mul_right L h)

theorem lo_le (L n k : Nat) (hn : 1 ≤ n) (hk : k ≤ n) : lo L n k ≤ L := by
  have h := lo_mono L n hk
  rw [lo_end L n hn] at h
  exact h

/-- No part is shorter than L / n. -/
theorem lo_step_ge (L n k : Nat) (hn : 1 ≤ n) : lo L n k + L / n ≤ lo L n (k + 1) := by
  unfold lo
  rw [Nat.le_div_iff_mul_le hn]
  have h1 := Nat.div_mul_le_self (k * L) n
  have h2 := Nat.div_mul_le_self L n
  rw [Nat.add_mul, Nat.succ_mul]
  omega

/-- No part is longer than L / n, rounded up. -/
theorem lo_step_le (L n k : Nat) (hn : 1 ≤ n) : lo L n (k + 1) ≤ lo L n k + (L + n - 1) / n := by
  unfold lo
  have a1 := Nat.div_add_mod (k * L) n
  have a2 := Nat.mod_lt (k * L) hn
  have b1 := Nat.div_add_mod L n
  have b2 := Nat.mod_lt L hn
  have hk : (k + 1) * L = k * L + L := Nat.succ_mul k L
  rw [hk]
  generalize k * L = A at *
  have hA : A = n * (A / n) + A % n := a1.symm
  have hL : L = n * (L / n) + L % n := b1.symm
  by_cases r : L % n = 0
  · have e1 : A + L = n * (A / n + L / n) + A % n := by rw [Nat.mul_add]; omega
    have e2 : (A + L) / n = A / n + L / n := by
      rw [e1, Nat.mul_add_div hn, Nat.div_eq_of_lt a2]; simp
    have e3 : L / n ≤ (L + n - 1) / n := Nat.div_le_div_right (by omega)
    rw [e2]; omega
  · have e1 : (A + L) / n < A / n + L / n + 2 := by
      rw [Nat.div_lt_iff_lt_mul hn]
      have : (A / n + L / n + 2) * n = n * (A / n) + n * (L / n) + 2 * n := by
        rw [Nat.mul_comm, Nat.mul_add, Nat.mul_add]; omega
      rw [this]; omega
    have e3 : L / n + 1 ≤ (L + n - 1) / n := by
      rw [Nat.le_div_iff_mul_le hn, Nat.add_mul, Nat.mul_comm]; omega
    omega

theorem up_le (L n : Nat) (hn : 1 ≤ n) : (L + n - 1) / n ≤ L / n + 1 := by
  have h : (L + n - 1) / n < L / n + 2 := by
    rw [Nat.div_lt_iff_lt_mul hn]
    have b1 := Nat.div_add_mod L n
    have b2 := Nat.mod_lt L hn
    rw [Nat.add_mul, Nat.mul_comm]; omega
  omega

theorem q_pos (L n : Nat) (hn : 1 ≤ n) (h : n ≤ L) : 1 ≤ L / n := by
  rw [Nat.le_div_iff_mul_le hn]; omega

/-- The parts are not empty. -/
theorem lo_lt (L n k : Nat) (hn : 1 ≤ n) (h : n ≤ L) : lo L n k < lo L n (k + 1) := by
  have a := lo_step_ge L n k hn
  have b := q_pos L n hn h
  omega

/-- With at least 's' items, the number of parts 'max (L / s) 1' leaves at least s in each, and at most 2 s - 1. -/
theorem q_ge (L s n : Nat) (hs : 1 ≤ s) (hLs : s ≤ L) (hn : n = max (L / s) 1) : s ≤ L / n := by
  have h1 : 1 ≤ L / s := by rw [Nat.le_div_iff_mul_le hs]; omega
  have hn' : n = L / s := by omega
  subst hn'
  rw [Nat.le_div_iff_mul_le h1, Nat.mul_comm]
  exact Nat.div_mul_le_self L s

theorem up_le_two (L s n : Nat) (hs : 1 ≤ s) (hLs : s ≤ L) (hn : n = max (L / s) 1) : (L + n - 1) / n ≤ 2 * s - 1 := by
  have h1 : 1 ≤ L / s := by rw [Nat.le_div_iff_mul_le hs]; omega
  have hn' : n = L / s := by omega
  clear hn
  have b1 := Nat.div_add_mod L s
  have b2 := Nat.mod_lt L hs
  rw [← hn'] at b1 h1
  have h : (L + n - 1) / n < 2 * s := by
    rw [Nat.div_lt_iff_lt_mul h1]
    have e : 2 * s * n = s * n + s * n := by rw [Nat.mul_assoc, Nat.two_mul]
    have h2 : s + n ≤ s * n + 1 := by
      obtain ⟨t, rfl⟩ : ∃ t, s = t + 1 := ⟨s - 1, by omega⟩
      obtain ⟨u, rfl⟩ : ∃ u, n = u + 1 := ⟨n - 1, by omega⟩
      rw [Nat.mul_succ, Nat.succ_mul]; omega
    omega
  omega

theorem lo_int (L n k : Nat) : ((k : Int) * (L : Int)) / (n : Int) = ((lo L n k : Nat) : Int) := by
  unfold lo; rw [Int.natCast_ediv, Int.natCast_mul]

theorem lo_int' (L n k : Nat) : (((k : Int) + 1) * (L : Int)) / (n : Int) = ((lo L n (k + 1) : Nat) : Int) := by
  unfold lo; rw [Int.natCast_ediv, Int.natCast_mul, Int.natCast_add]; rfl

theorem mul_bd (k L : Nat) (hk : k ≤ 1024) (hL : L ≤ 1024) : 0 ≤ (k : Int) * (L : Int) ∧ (k : Int) * (L : Int) ≤ 1048576 := by
  have h := Nat.mul_le_mul hk hL
  have e : (k : Int) * (L : Int) = ((k * L : Nat) : Int) := (Int.natCast_mul k L).symm
  rw [e]
  omega

theorem mul_bd' (k L : Nat) (hk : k + 1 ≤ 1024) (hL : L ≤ 1024) : 0 ≤ ((k : Int) + 1) * (L : Int) ∧ ((k : Int) + 1) * (L : Int) ≤ 1048576 := by
  have h := mul_bd (k + 1) L hk hL
  have e : ((k + 1 : Nat) : Int) = (k : Int) + 1 := by omega
  rw [e] at h
  exact h

end Go.Proofs.Ybulkcyni.Cut
