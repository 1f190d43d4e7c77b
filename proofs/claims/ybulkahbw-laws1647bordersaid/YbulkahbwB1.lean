/-
  Package scenario: the walks of zzs1647bradix and zzs1647btotal, and what a slice of bytes is told as.
-/
import Derived.Test.YbulkahbwRows
import Derived.Test.YbulkahbwRadix
import Derived.WalkKit
import Derived.WalkSpells
namespace Go.Proofs.Ybulkahbw
open Go.RowKit

/-- The radix that the text makes of a byte. -/
def rad (z : Nat) : Nat := if z % 4 < 1 then 1 else z % 4
theorem rad_pos (z : Nat) : 0 < rad z := by unfold rad; split <;> omega
theorem rad_le (z : Nat) : rad z ≤ 3 := by unfold rad; split <;> omega

/-- zzs1647bradix. -/
theorem radix_any (z : Nat) (hz : z < 256) (w : World) :
    Calls Yba.prog 21 #[.int .u8 z] w fun e w' => e = .returned (.int .i64 (rad z : Nat)) ∧ w' = w := by
  by_cases h : z % 4 < 1
  · have e : rad z = 1 := by simp [rad]; omega
    rw [e]
    go_enter Yba.func21, Yba.ntmps21
    go_wp2
    go_ret
    exact ⟨rfl, rfl⟩
  · have e : rad z = z % 4 := by simp [rad, h]
    rw [e]
    go_enter Yba.func21, Yba.ntmps21
    go_wp2
    go_ret
    exact ⟨rfl, rfl⟩

/-- A slice of bytes as a walk is told of it. -/
def Row8 (w : World) (a : Option Addr) (len : Nat) (Z : Nat → Nat) : Prop :=
  (∀ i, Z i < 256) ∧ (len = 0 ∨ ∃ b off, a = some ⟨b, off, none⟩ ∧ b < w.heap.size ∧ ∀ i, i < len → w.cell? ⟨b, off + i, none⟩ = some (.int .u8 (Z i : Nat)))
/-- It reads alike in a world in which the blocks below are as they were. -/
theorem Row8.below {w w' : World} {a : Option Addr} {len : Nat} {Z : Nat → Nat} (h : Row8 w a len Z) (hb : Below w.heap.size w w') : Row8 w' a len Z := by
  obtain ⟨hz, h⟩ := h
  refine ⟨hz, ?_⟩
  rcases h with h | ⟨b, off, ha, hlt, hc⟩
  · exact .inl h
  · exact .inr ⟨b, off, ha, Nat.lt_of_lt_of_le hlt hb.size, fun i hi => by rw [hb.cell (p := ⟨b, off + i, none⟩) hlt]; exact hc i hi⟩
/-- The radices. -/
def rr (Z : Nat → Nat) (i : Nat) : Nat := rad (Z i)
/-- The product of the first k radices. -/
def tp (Z : Nat → Nat) (k : Nat) : Nat := Rdx.pr (rr Z) k
theorem tp_succ (Z : Nat → Nat) (k : Nat) : tp Z (k + 1) = tp Z k * rad (Z k) := rfl
theorem tp_pos (Z : Nat → Nat) (k : Nat) : 0 < tp Z k := Rdx.pr_pos _ k k (fun _ _ => rad_pos _) (Nat.le_refl _)

/-- What zzs1647btotal answers. -/
def TotSays (Z : Nat → Nat) (len : Nat) (e : Ending) : Prop :=
  e = .returned (.int .i64 (-1)) ∨ e = .returned (.int .i64 (tp Z len : Nat)) ∧ tp Z len ≤ 4096

/-- zzs1647btotal. -/
theorem total_any (a : Option Addr) (len cap : Nat) (Z : Nat → Nat) (w : World) (hlen : len ≤ 1024) (h : Row8 w a len Z) :
    Calls Yba.prog 10 #[.slice a len cap] w fun e w' => TotSays Z len e ∧ w' = w := by
  obtain ⟨hz, h⟩ := h
  go_enter Yba.func10, Yba.ntmps10
  go_wp2
  go_loop [3, 8] (fun t i => ∃ k : Nat, k ≤ len ∧ i = .int .i64 k ∧ t = .int .i64 (tp Z k : Nat) ∧ tp Z k ≤ 4096) (fun _ i => len - (intOf i).toNat)
  case atStart => exact ⟨0, Nat.zero_le _, rfl, rfl, by simp [tp, Rdx.pr]⟩
  case round =>
    obtain ⟨k, hk, rfl, rfl, ht⟩ := hrel
    by_cases hlt : k < len
    · rcases h with h | ⟨b, off, rfl, _, hc⟩
      · omega
      have hck := hc k hlt
      have h0 := tp_pos Z k
      have hr := rad_le (Z k)
      have hr0 := rad_pos (Z k)
      have H1 : (tp Z k) * rad (Z k) ≤ 4096 * 3 := Nat.mul_le_mul ht hr
      have HS : Hid (tp Z (k + 1) = tp Z k * rad (Z k)) := tp_succ Z k
      have hzk := hz k
      clear hc hz
      generalize hp : tp Z k * rad (Z k) = p at *
      have e : ((tp Z k : Nat) : Int) * ((rad (Z k) : Nat) : Int) = (p : Int) := by rw [← hp]; simp
      go_wp2_with fail
      refine (radix_any _ hzk _).mono ?_
      rintro e w1 ⟨rfl, rfl⟩
      go_wp2
      · go_ret
        exact ⟨.inl rfl, rfl⟩
      · go_round
        case rel => exact ⟨k + 1, by omega, by go_num, by rw [HS.out], by rw [HS.out]; omega⟩
        case measure => simp [intOf]; omega
    · obtain rfl : k = len := by omega
      have HT : Hid (tp Z k ≤ 4096) := ht
      clear ht
      go_wp2
      go_ret
      exact ⟨.inr ⟨rfl, HT.out⟩, rfl⟩
end Go.Proofs.Ybulkahbw
