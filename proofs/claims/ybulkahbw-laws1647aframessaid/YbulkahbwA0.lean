/-
  Package attack: the lists and the camp that a frame holds: numbers and lists alone, no Go in sight.
-/
namespace Go.Proofs.Ybulkahbw

/-- the honest ones among F, F+1, .. (k of them) -/
def hs (bz : Nat → Bool) (F : Nat) : Nat → List Nat
  | 0 => []
  | k + 1 => if bz (F + k) = true then hs bz F k else hs bz F k ++ [F + k]
/-- the Byzantine ones -/
def bs (bz : Nat → Bool) (F : Nat) : Nat → List Nat
  | 0 => []
  | k + 1 => if bz (F + k) = true then bs bz F k ++ [F + k] else bs bz F k

theorem hs_yes (bz : Nat → Bool) (F k : Nat) (h : bz (F + k) = true) : hs bz F (k + 1) = hs bz F k := by simp [hs, h]
theorem hs_no (bz : Nat → Bool) (F k : Nat) (h : bz (F + k) = false) : hs bz F (k + 1) = hs bz F k ++ [F + k] := by simp [hs, h]
theorem bs_yes (bz : Nat → Bool) (F k : Nat) (h : bz (F + k) = true) : bs bz F (k + 1) = bs bz F k ++ [F + k] := by simp [bs, h]
theorem bs_no (bz : Nat → Bool) (F k : Nat) (h : bz (F + k) = false) : bs bz F (k + 1) = bs bz F k := by simp [bs, h]
theorem both_len (bz : Nat → Bool) (F k : Nat) : (hs bz F k).length + (bs bz F k).length = k := by
  induction k with
  | zero => rfl
  | succ k ih =>
    cases h : bz (F + k) with
    | true => rw [hs_yes _ _ _ h, bs_yes _ _ _ h, List.length_append]; simp; omega
    | false => rw [hs_no _ _ _ h, bs_no _ _ _ h, List.length_append]; simp; omega
theorem hs_mem (bz : Nat → Bool) (F k : Nat) : ∀ d, d ∈ hs bz F k → F ≤ d ∧ d < F + k := by
  induction k with
  | zero => intro d h; simp [hs] at h
  | succ k ih =>
    intro d h
    cases hb : bz (F + k) with
    | true => rw [hs_yes _ _ _ hb] at h; have := ih d h; omega
    | false =>
      rw [hs_no _ _ _ hb] at h
      rcases List.mem_append.1 h with h | h
      · have := ih d h; omega
      · have : d = F + k := by simpa using h
        omega

/-- how many of the honest are in camp A; h of them, the bound bd -/
def camp (h bd : Nat) : Nat := max (h - bd) ((h + 1) / 2)
theorem camp_le (h bd : Nat) : camp h bd ≤ h := by unfold camp; omega
end Go.Proofs.Ybulkahbw
