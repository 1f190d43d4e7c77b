/-
  Counting in a mixed radix: numbers alone, no Go in sight. 'r i': the radix of place i; there are n places, the last the fastest.
-/
namespace Go.Proofs.Ybulkahbw.Rdx

/-- The weight of the place 'n - 1 - d': the product of the radices of the d places behind it. -/
def wt (r : Nat → Nat) (n : Nat) : Nat → Nat
  | 0 => 1
  | d + 1 => r (n - 1 - d) * wt r n d
/-- The weight of place i of n. -/
def pw (r : Nat → Nat) (n i : Nat) : Nat := wt r n (n - 1 - i)
/-- How many combinations there are. -/
def tot (r : Nat → Nat) (n : Nat) : Nat := wt r n n
/-- The digit of c at place i. -/
def dg (r : Nat → Nat) (n c i : Nat) : Nat := c / pw r n i % r i
/-- The product of the first k radices: as the text reckons it. -/
def pr (r : Nat → Nat) : Nat → Nat
  | 0 => 1
  | k + 1 => pr r k * r k

theorem wt_pos (r : Nat → Nat) (n d : Nat) (h : ∀ i, i < n → 0 < r i) (hd : d ≤ n) : 0 < wt r n d := by
  induction d with
  | zero => exact Nat.one_pos
  | succ d ih => exact Nat.mul_pos (h _ (by omega)) (ih (by omega))
theorem pr_pos (r : Nat → Nat) (n k : Nat) (h : ∀ i, i < n → 0 < r i) (hk : k ≤ n) : 0 < pr r k := by
  induction k with
  | zero => exact Nat.one_pos
  | succ k ih => exact Nat.mul_pos (ih (by omega)) (h k (by omega))
theorem pr_wt (r : Nat → Nat) (n d : Nat) (hd : d ≤ n) : pr r (n - d) * wt r n d = pr r n := by
  induction d with
  | zero => simp [wt]
  | succ d ih =>
    have e : n - d = (n - (d + 1)) + 1 := by omega
    have := ih (by omega)
    rw [e, pr, show n - (d + 1) = n - 1 - d from by omega] at this
    rw [wt, ← this, show n - (d + 1) = n - 1 - d from by omega]
    exact (Nat.mul_assoc _ _ _).symm
theorem pr_tot (r : Nat → Nat) (n : Nat) : pr r n = tot r n := by
  have := pr_wt r n n (Nat.le_refl _)
  simpa [tot, pr] using this.symm
theorem pw_last (r : Nat → Nat) (n : Nat) (_h : 0 < n) : pw r n (n - 1) = 1 := by
  simp [pw, wt]
/-- The weight of the place ahead. -/
theorem pw_prev (r : Nat → Nat) (n i : Nat) (h : i + 1 < n) : pw r n i = r (i + 1) * pw r n (i + 1) := by
  unfold pw
  rw [show n - 1 - i = (n - 1 - (i + 1)) + 1 from by omega, wt, show n - 1 - (n - 1 - (i + 1)) = i + 1 from by omega]
theorem tot_first (r : Nat → Nat) (n : Nat) (h : 0 < n) : tot r n = r 0 * pw r n 0 := by
  unfold tot pw
  rw [show wt r n n = wt r n ((n - 1) + 1) from by rw [show n - 1 + 1 = n from by omega], wt]
  simp
/-- A later place's weight, times its radix, divides an earlier one's. -/
theorem pw_dvd (r : Nat → Nat) (n i d : Nat) (h : i + d + 1 < n) : r (i + d + 1) * pw r n (i + d + 1) ∣ pw r n i := by
  induction d with
  | zero => rw [pw_prev r n i (by omega)]; exact Nat.dvd_refl _
  | succ d ih =>
    refine Nat.dvd_trans ?_ (ih (by omega))
    rw [pw_prev r n (i + d + 1) (by omega)]
    exact Nat.dvd_mul_left _ _
theorem pw_dvd' (r : Nat → Nat) (n i j : Nat) (h : i < j) (hj : j < n) : r j * pw r n j ∣ pw r n i := by
  have := pw_dvd r n i (j - i - 1) (by omega)
  rwa [show i + (j - i - 1) + 1 = j from by omega] at this

/-- What lies ahead of c: the next number's digits behind a place at which all wraps are nought. -/
theorem dg_zero (r : Nat → Nat) (n c i j : Nat) (h : i < j) (hj : j < n) (hp : 0 < pw r n j) (hd : pw r n i ∣ c) : dg r n c j = 0 := by
  obtain ⟨m, hm⟩ := Nat.dvd_trans (pw_dvd' r n i j h hj) hd
  unfold dg
  rw [hm, show r j * pw r n j * m = pw r n j * (r j * m) from by rw [Nat.mul_comm (r j), Nat.mul_assoc], Nat.mul_div_cancel_left _ hp]
  exact Nat.mul_mod_right _ _
/-- ahead of the place at which the carry stops, the digits stay -/
theorem dg_same (r : Nat → Nat) (n c i j : Nat) (h : j < i) (hi : i < n) (hp : 0 < pw r n i) (hr : 0 < r i) (hd : pw r n i ∣ c + 1) (hlt : dg r n c i + 1 < r i) : dg r n (c + 1) j = dg r n c j := by
  obtain ⟨m, hm⟩ := pw_dvd' r n j i h hi
  obtain ⟨q, hq⟩ := hd
  unfold dg at *
  have e0 : c / pw r n i = q - 1 := by
    have hq1 : 0 < q := by
      rcases Nat.eq_zero_or_pos q with h0 | h0
      · subst h0; simp at hq
      · exact h0
    have : c = pw r n i * (q - 1) + (pw r n i - 1) := by
      have : pw r n i * q = pw r n i * (q - 1) + pw r n i := by rw [← Nat.mul_succ]; congr 1; omega
      omega
    rw [this, Nat.mul_add_div hp, Nat.div_eq_of_lt (by omega)]; omega
  have e1 : (c + 1) / pw r n i = q := by rw [hq, Nat.mul_div_cancel_left _ hp]
  rw [e0] at hlt
  have key : q / r i = (q - 1) / r i := by
    have d1 := Nat.div_add_mod (q - 1) (r i)
    have : q = r i * ((q - 1) / r i) + ((q - 1) % r i + 1) ∨ q = 0 := by omega
    rcases this with h1 | h1
    · rw [h1, Nat.mul_add_div hr, Nat.div_eq_of_lt hlt]
      simp only [Nat.add_zero]
      rw [← h1]
    · subst h1; rfl
  have f : ∀ x, x / pw r n j = x / pw r n i / r i / m := by
    intro x
    rw [hm, Nat.div_div_eq_div_mul, Nat.div_div_eq_div_mul, Nat.mul_comm (r i) (pw r n i), Nat.mul_assoc]
  rw [f, f, e0, e1, key]
/-- at the place itself -/
theorem dg_step (r : Nat → Nat) (n c i : Nat) (hp : 0 < pw r n i) (hd : pw r n i ∣ c + 1) (hlt : dg r n c i + 1 < r i) : dg r n (c + 1) i = dg r n c i + 1 := by
  obtain ⟨q, hq⟩ := hd
  unfold dg at *
  have hq1 : 0 < q := by
    rcases Nat.eq_zero_or_pos q with h0 | h0
    · subst h0; simp at hq
    · exact h0
  have e0 : c / pw r n i = q - 1 := by
    have : c = pw r n i * (q - 1) + (pw r n i - 1) := by
      have : pw r n i * q = pw r n i * (q - 1) + pw r n i := by rw [← Nat.mul_succ]; congr 1; omega
      omega
    rw [this, Nat.mul_add_div hp, Nat.div_eq_of_lt (by omega)]; omega
  have e1 : (c + 1) / pw r n i = q := by rw [hq, Nat.mul_div_cancel_left _ hp]
  rw [e0] at hlt ⊢
  rw [e1]
  have : q = (q - 1) + 1 := by omega
  rw [this, Nat.add_mod]
  rcases Nat.lt_or_ge 1 (r i) with h1 | h1
  · rw [Nat.mod_eq_of_lt h1, Nat.mod_eq_of_lt (by simpa using hlt)]
    simp
  · omega
/-- where the digit is at its end, the carry goes on -/
theorem dg_carry (r : Nat → Nat) (n c i : Nat) (hp : 0 < pw r n i) (hr : 0 < r i) (hd : pw r n i ∣ c + 1) (hge : ¬ dg r n c i + 1 < r i) : r i * pw r n i ∣ c + 1 := by
  obtain ⟨q, hq⟩ := hd
  unfold dg at *
  have hq1 : 0 < q := by
    rcases Nat.eq_zero_or_pos q with h0 | h0
    · subst h0; simp at hq
    · exact h0
  have e0 : c / pw r n i = q - 1 := by
    have : c = pw r n i * (q - 1) + (pw r n i - 1) := by
      have : pw r n i * q = pw r n i * (q - 1) + pw r n i := by rw [← Nat.mul_succ]; congr 1; omega
      omega
    rw [this, Nat.mul_add_div hp, Nat.div_eq_of_lt (by omega)]; omega
  rw [e0] at hge
  have hl := Nat.mod_lt (q - 1) hr
  have d1 := Nat.div_add_mod (q - 1) (r i)
  have h3 : (q - 1) % r i + 1 = r i := by omega
  have h4 : q = r i * ((q - 1) / r i + 1) := by
    rw [Nat.mul_add, Nat.mul_one]; omega
  rw [hq, h4, ← Nat.mul_assoc, Nat.mul_comm (pw r n i) (r i)]
  exact Nat.dvd_mul_right _ _
/-- where the carry stops there is one more -/
theorem more (r : Nat → Nat) (n c i : Nat) (hi : i < n) (hpos : ∀ i, i < n → 0 < r i) (hd : pw r n i ∣ c + 1) (hc : c < tot r n) (hlt : dg r n c i + 1 < r i) : c + 1 < tot r n := by
  rcases Nat.lt_or_ge (c + 1) (tot r n) with h | h
  · exact h
  · exfalso
    have e : c + 1 = tot r n := by omega
    have hp : 0 < pw r n i := wt_pos r n _ hpos (by omega)
    have hs := dg_step r n c i hp hd hlt
    have : dg r n (c + 1) i = 0 := by
      rw [e]
      unfold dg
      rcases Nat.eq_zero_or_pos i with h0 | h0
      · subst h0
        rw [tot_first r n (by omega), Nat.mul_div_cancel _ hp, Nat.mod_self]
      · have := Nat.dvd_trans (pw_dvd' r n 0 i h0 hi) (show pw r n 0 ∣ tot r n from by rw [tot_first r n (by omega)]; exact Nat.dvd_mul_left _ _)
        obtain ⟨m, hm⟩ := this
        rw [hm, show r i * pw r n i * m = pw r n i * (r i * m) from by rw [Nat.mul_comm (r i), Nat.mul_assoc], Nat.mul_div_cancel_left _ hp]
        exact Nat.mul_mod_right _ _
    omega
/-- where all places carry it was the last -/
theorem last (r : Nat → Nat) (n c : Nat) (hc : c < tot r n) (hd : tot r n ∣ c + 1) : c + 1 = tot r n := by
  have := Nat.le_of_dvd (by omega) hd
  omega
theorem dg_lt (r : Nat → Nat) (n c i : Nat) (h : 0 < r i) : dg r n c i < r i := Nat.mod_lt _ h
theorem dg_start (r : Nat → Nat) (n i : Nat) : dg r n 0 i = 0 := by simp [dg]
end Go.Proofs.Ybulkahbw.Rdx
