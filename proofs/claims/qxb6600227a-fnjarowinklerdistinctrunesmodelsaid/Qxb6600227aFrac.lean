import Derived.Test.Qxb6600227aSmall
namespace Go.Proofs.Qxb6600227a
set_option linter.unusedSimpArgs false

theorem red_mul (x y : Nat) : x = redN x y * Nat.gcd x y ∧ y = redD x y * Nat.gcd x y :=
  ⟨(Nat.div_mul_cancel (Nat.gcd_dvd_left x y)).symm, (Nat.div_mul_cancel (Nat.gcd_dvd_right x y)).symm⟩

theorem red_pos {x y : Nat} (hy : 0 < y) : 0 < redD x y := by
  rcases Nat.eq_zero_or_pos (redD x y) with h | h
  · have := (red_mul x y).2
    rw [h, Nat.zero_mul] at this; omega
  · exact h

theorem red_coprime {x y : Nat} (hy : 0 < y) : Nat.Coprime (redN x y) (redD x y) :=
  Nat.coprime_div_gcd_div_gcd (Nat.gcd_pos_of_pos_right x hy)

/-- The ratio stays. -/
theorem red_ratio (x y : Nat) : redN x y * y = x * redD x y := by
  have h := red_mul x y
  generalize Nat.gcd x y = g at h
  obtain ⟨h1, h2⟩ := h
  calc redN x y * y = redN x y * (redD x y * g) := by rw [← h2]
    _ = (redN x y * g) * redD x y := by rw [Nat.mul_comm (redD x y) g, Nat.mul_assoc]
    _ = x * redD x y := by rw [← h1]

/-- One ratio, one fraction in lowest terms. -/
theorem red_eq {x y x' y' : Nat} (hy : 0 < y) (hy' : 0 < y') (h : x * y' = x' * y) : redN x y = redN x' y' ∧ redD x y = redD x' y' := by
  have r := red_ratio x y
  have r' := red_ratio x' y'
  have c := red_coprime (x := x) hy
  have c' := red_coprime (x := x') hy'
  have p := red_pos (x := x) hy
  have p' := red_pos (x := x') hy'
  generalize redN x y = n at *
  generalize redD x y = d at *
  generalize redN x' y' = n' at *
  generalize redD x' y' = d' at *
  -- n * d' = n' * d
  have e : n * d' = n' * d := by
    have h1 : (n * d') * (y * y') = (n' * d) * (y * y') := by
      calc (n * d') * (y * y') = (n * y) * (d' * y') := by simp only [Nat.mul_assoc, Nat.mul_comm, Nat.mul_left_comm]
        _ = (x * d) * (d' * y') := by rw [r]
        _ = (x * y') * (d * d') := by simp only [Nat.mul_assoc, Nat.mul_comm, Nat.mul_left_comm]
        _ = (x' * y) * (d * d') := by rw [h]
        _ = (x' * d') * (d * y) := by simp only [Nat.mul_assoc, Nat.mul_comm, Nat.mul_left_comm]
        _ = (n' * y') * (d * y) := by rw [r']
        _ = (n' * d) * (y * y') := by simp only [Nat.mul_assoc, Nat.mul_comm, Nat.mul_left_comm]
    exact Nat.eq_of_mul_eq_mul_right (Nat.mul_pos hy hy') h1
  have k1 : d ∣ d' := by
    have : d ∣ n * d' := ⟨n', by rw [e, Nat.mul_comm]⟩
    exact c.symm.dvd_of_dvd_mul_left this
  have k2 : d' ∣ d := by
    have : d' ∣ n' * d := ⟨n, by rw [← e, Nat.mul_comm]⟩
    exact c'.symm.dvd_of_dvd_mul_left this
  have ed : d = d' := Nat.dvd_antisymm k1 k2
  subst ed
  exact ⟨Nat.eq_of_mul_eq_mul_right p e, rfl⟩

/-- The textbook's sum of fractions, reduced at each step, is jaroWinkler's fraction. -/
theorem model_frac (m n k t p j1n j1d j2n j2d j3n j3d N D : Nat) (hm : 0 < m) (hn : 0 < n) (hk : 0 < k) (hp : p ≤ 10)
    (hN : N = m * m * (n + k) + (m - t) * n * k) (hD : D = 3 * n * k * m) (hle : N ≤ D)
    (h1n : j1n = redN (m * k + m * n) (n * k)) (h1d : j1d = redD (m * k + m * n) (n * k))
    (h2n : j2n = redN (j1n * m + (m - t) * j1d) (j1d * m)) (h2d : j2d = redD (j1n * m + (m - t) * j1d) (j1d * m))
    (h3n : j3n = redN j2n (3 * j2d)) (h3d : j3d = redD j2n (3 * j2d)) :
    redN ((10 - p) * j3n + p * j3d) (10 * j3d) = redN (10 * N + p * (D - N)) (10 * D) ∧ redD ((10 - p) * j3n + p * j3d) (10 * j3d) = redD (10 * N + p * (D - N)) (10 * D) := by
  have nk : 0 < n * k := Nat.mul_pos hn hk
  have p1 : 0 < j1d := by rw [h1d]; exact red_pos nk
  have p2 : 0 < j2d := by rw [h2d]; exact red_pos (Nat.mul_pos p1 hm)
  have p3 : 0 < j3d := by rw [h3d]; exact red_pos (by omega)
  have r1 : j1n * (n * k) = (m * k + m * n) * j1d := by rw [h1n, h1d]; exact red_ratio _ _
  have r2 : j2n * (j1d * m) = (j1n * m + (m - t) * j1d) * j2d := by rw [h2n, h2d]; exact red_ratio _ _
  have r3 : j3n * (3 * j2d) = j2n * j3d := by rw [h3n, h3d]; exact red_ratio _ _
  have Dp : 0 < D := by rw [hD]; exact Nat.mul_pos (Nat.mul_pos (by omega) hk) hm
  clear h1n h1d h2n h2d h3n h3d
  generalize m - t = u at *
  -- j2n / j2d = N / (n * k * m)
  have s2 : j2n * (n * k * m) = N * j2d := by
    have h : j1d * (j2n * (n * k * m)) = j1d * (N * j2d) := by
      calc j1d * (j2n * (n * k * m)) = (j2n * (j1d * m)) * (n * k) := by simp only [Nat.mul_assoc, Nat.mul_comm, Nat.mul_left_comm]
        _ = ((j1n * m + u * j1d) * j2d) * (n * k) := by rw [r2]
        _ = (m * (j1n * (n * k)) + u * j1d * (n * k)) * j2d := by
            rw [Nat.mul_right_comm, Nat.add_mul]
            congr 2
            simp only [Nat.mul_assoc, Nat.mul_comm, Nat.mul_left_comm]
        _ = (m * ((m * k + m * n) * j1d) + u * j1d * (n * k)) * j2d := by rw [r1]
        _ = j1d * ((m * (m * k + m * n) + u * (n * k)) * j2d) := by
            rw [← Nat.mul_assoc j1d, Nat.mul_add]
            congr 2
            · simp only [Nat.mul_assoc, Nat.mul_comm, Nat.mul_left_comm]
            · simp only [Nat.mul_assoc, Nat.mul_comm, Nat.mul_left_comm]
        _ = j1d * (N * j2d) := by
            rw [hN]
            congr 2
            congr 1
            · rw [← Nat.mul_add, Nat.add_comm k n, Nat.mul_assoc]
            · rw [Nat.mul_assoc]
    exact Nat.eq_of_mul_eq_mul_left p1 h
  -- j3n / j3d = N / D
  have s3 : j3n * D = N * j3d := by
    have h : j2d * (j3n * D) = j2d * (N * j3d) := by
      calc j2d * (j3n * D) = (j3n * (3 * j2d)) * (n * k * m) := by rw [hD]; simp only [Nat.mul_assoc, Nat.mul_comm, Nat.mul_left_comm]
        _ = (j2n * j3d) * (n * k * m) := by rw [r3]
        _ = (j2n * (n * k * m)) * j3d := by rw [Nat.mul_right_comm]
        _ = (N * j2d) * j3d := by rw [s2]
        _ = j2d * (N * j3d) := by simp only [Nat.mul_assoc, Nat.mul_comm, Nat.mul_left_comm]
    exact Nat.eq_of_mul_eq_mul_left p2 h
  refine red_eq (by omega) (by omega) ?_
  obtain ⟨q, hq⟩ : ∃ q, q = 10 - p := ⟨_, rfl⟩
  rw [← hq]
  have e : 10 * N + p * (D - N) = q * N + p * D := by
    obtain ⟨x, hx⟩ : ∃ x, D = N + x := ⟨D - N, by omega⟩
    rw [hx, Nat.add_sub_cancel_left, Nat.mul_add, ← Nat.add_assoc, ← Nat.add_mul, hq, show 10 - p + p = 10 by omega]
  rw [e]
  calc (q * j3n + p * j3d) * (10 * D) = 10 * (q * (j3n * D) + p * (D * j3d)) := by
        rw [Nat.mul_left_comm, Nat.add_mul]
        congr 2
        · rw [Nat.mul_assoc]
        · rw [Nat.mul_assoc, Nat.mul_comm j3d D]
    _ = 10 * (q * (N * j3d) + p * (D * j3d)) := by rw [s3]
    _ = (q * N + p * D) * (10 * j3d) := by
        rw [Nat.mul_left_comm (q * N + p * D), Nat.add_mul, Nat.mul_assoc, Nat.mul_assoc]
end Go.Proofs.Qxb6600227a
