/-
  The walks of Mix64 and of the functions that undo it: each computes the plain function of YbulkahbiMix.
-/
import Derived.Test.YbulkahbiRows
import Derived.Test.YbulkahbiMix
import Derived.WalkKit
import Derived.WalkSpells
import Derived.Laws.Bits64
namespace Go.Proofs.Ybulkahbi
open Go.RowKit

theorem ret_int {k : IntKind} {a b : Int} (h : a = b) : Ending.returned (.int k a) = .returned (.int k b) := by rw [h]

theorem m1_int (a : Nat) (ha : a < 18446744073709551616) :
    IntKind.u64.wrap (bits BinOp.xor IntKind.u64 (a : Int) ((a : Int) / 1073741824) * 13787848793156543929) = ((Mx.m1 a : Nat) : Int) :=
  mixStep_u64 a 1073741824 13787848793156543929 ha
theorem m2_int (a : Nat) (ha : a < 18446744073709551616) :
    IntKind.u64.wrap (bits BinOp.xor IntKind.u64 (a : Int) ((a : Int) / 134217728) * 10723151780598845931) = ((Mx.m2 a : Nat) : Int) :=
  mixStep_u64 a 134217728 10723151780598845931 ha
theorem m3_int (a : Nat) (ha : a < 18446744073709551616) :
    bits BinOp.xor IntKind.u64 (a : Int) ((a : Int) / 2147483648) = ((Mx.sh 31 a : Nat) : Int) :=
  xorShift_u64 a 2147483648 ha

/-- Mix64. -/
theorem mix_any (a : Nat) (ha : a < 18446744073709551616) (w : World) :
    Calls Yba.prog 6 #[.int .u64 a] w fun e w' => e = .returned (.int .u64 (Mx.mix a : Nat)) ∧ w' = w := by
  go_enter Yba.func6, Yba.ntmps6
  go_wp2
  go_ret
  refine ⟨ret_int ?_, rfl⟩
  show bits BinOp.xor IntKind.u64
      (IntKind.u64.wrap
        (bits BinOp.xor IntKind.u64
            (IntKind.u64.wrap (bits BinOp.xor IntKind.u64 (a : Int) ((a : Int) / 1073741824) * 13787848793156543929))
            (IntKind.u64.wrap (bits BinOp.xor IntKind.u64 (a : Int) ((a : Int) / 1073741824) * 13787848793156543929) / 134217728) *
          10723151780598845931))
      (IntKind.u64.wrap
          (bits BinOp.xor IntKind.u64
              (IntKind.u64.wrap (bits BinOp.xor IntKind.u64 (a : Int) ((a : Int) / 1073741824) * 13787848793156543929))
              (IntKind.u64.wrap (bits BinOp.xor IntKind.u64 (a : Int) ((a : Int) / 1073741824) * 13787848793156543929) / 134217728) *
            10723151780598845931) /
        2147483648) = ((Mx.mix a : Nat) : Int)
  rw [m1_int a ha, m2_int _ (Mx.m1_lt a), m3_int _ (Mx.m2_lt _)]
  rfl

/-- the rounds of zzs1646binv -/
def invI (a : Int) : Nat → Int
  | 0 => a
  | k + 1 => IntKind.u64.wrap (invI a k * IntKind.u64.wrap (2 - IntKind.u64.wrap (a * invI a k)))

theorem inv_any (a : Int) (w : World) :
    Calls Yba.prog 8 #[.int .u64 a] w fun e w' => e = .returned (.int .u64 (invI a 6)) ∧ w' = w := by
  go_enter Yba.func8, Yba.ntmps8
  go_wp2
  go_loop [3, 4] (fun x i => ∃ k : Nat, k ≤ 6 ∧ i = .int .i64 k ∧ x = .int .u64 (invI a k)) (fun _ i => 6 - (intOf i).toNat)
  case atStart => exact ⟨0, by omega, rfl, rfl⟩
  case round =>
    obtain ⟨k, hk, rfl, rfl⟩ := hrel
    by_cases hlt : k < 6
    · go_wp2
      go_round
      case rel => exact ⟨k + 1, by omega, by go_num, rfl⟩
      case measure => simp [intOf]; omega
    · obtain rfl : k = 6 := by omega
      go_wp2
      go_ret
      exact ⟨rfl, rfl⟩
theorem inv1 : invI 13787848793156543929 6 = ((Mx.I1 : Nat) : Int) := by decide +kernel
theorem inv2 : invI 10723151780598845931 6 = ((Mx.I2 : Nat) : Int) := by decide +kernel

/-- one round of zzs1646bunshift -/
theorem unsh_int (y x p k : Nat) (hy : y < 18446744073709551616) (hx : x < 18446744073709551616) (hp : p = 2 ^ k) :
    bits BinOp.xor IntKind.u64 (y : Int) ((x : Int) / (p : Int)) = ((y ^^^ x / 2 ^ k : Nat) : Int) := by
  subst hp
  have d : ((x : Int) / ((2 ^ k : Nat) : Int)) = ((x / 2 ^ k : Nat) : Int) := (Int.natCast_ediv x (2 ^ k)).symm
  rw [d]
  exact bits_xor_u64_nat _ _ hy (Nat.lt_of_le_of_lt (Nat.div_le_self _ _) hx)

theorem unsh31 (y : Nat) (hy : y < 18446744073709551616) (w : World) :
    Calls Yba.prog 7 #[.int .u64 y, .int .u64 31] w fun e w' => e = .returned (.int .u64 (Mx.unsh 31 y 3 : Nat)) ∧ w' = w := by
  go_enter Yba.func7, Yba.ntmps7
  go_wp2
  go_loop [5, 7] (fun x i => ∃ k : Nat, k ≤ 3 ∧ i = .int .i64 k ∧ x = .int .u64 (Mx.unsh 31 y k : Nat)) (fun _ i => 3 - (intOf i).toNat)
  case atStart => exact ⟨0, by omega, rfl, rfl⟩
  case round =>
    obtain ⟨k, hk, rfl, rfl⟩ := hrel
    by_cases hlt : k < 3
    · go_wp2
      go_round
      case rel => exact ⟨k + 1, by omega, by go_num, congrArg (Value.int .u64) (unsh_int y _ 2147483648 31 hy (Mx.unsh_lt 31 y k hy) (by decide))⟩
      case measure => simp [intOf]; omega
    · obtain rfl : k = 3 := by omega
      go_wp2
      go_ret
      exact ⟨rfl, rfl⟩
theorem unsh27 (y : Nat) (hy : y < 18446744073709551616) (w : World) :
    Calls Yba.prog 7 #[.int .u64 y, .int .u64 27] w fun e w' => e = .returned (.int .u64 (Mx.unsh 27 y 3 : Nat)) ∧ w' = w := by
  go_enter Yba.func7, Yba.ntmps7
  go_wp2
  go_loop [5, 7] (fun x i => ∃ k : Nat, k ≤ 3 ∧ i = .int .i64 k ∧ x = .int .u64 (Mx.unsh 27 y k : Nat)) (fun _ i => 3 - (intOf i).toNat)
  case atStart => exact ⟨0, by omega, rfl, rfl⟩
  case round =>
    obtain ⟨k, hk, rfl, rfl⟩ := hrel
    by_cases hlt : k < 3
    · go_wp2
      go_round
      case rel => exact ⟨k + 1, by omega, by go_num, congrArg (Value.int .u64) (unsh_int y _ 134217728 27 hy (Mx.unsh_lt 27 y k hy) (by decide))⟩
      case measure => simp [intOf]; omega
    · obtain rfl : k = 3 := by omega
      go_wp2
      go_ret
      exact ⟨rfl, rfl⟩
theorem unsh30 (y : Nat) (hy : y < 18446744073709551616) (w : World) :
    Calls Yba.prog 7 #[.int .u64 y, .int .u64 30] w fun e w' => e = .returned (.int .u64 (Mx.unsh 30 y 3 : Nat)) ∧ w' = w := by
  go_enter Yba.func7, Yba.ntmps7
  go_wp2
  go_loop [5, 7] (fun x i => ∃ k : Nat, k ≤ 3 ∧ i = .int .i64 k ∧ x = .int .u64 (Mx.unsh 30 y k : Nat)) (fun _ i => 3 - (intOf i).toNat)
  case atStart => exact ⟨0, by omega, rfl, rfl⟩
  case round =>
    obtain ⟨k, hk, rfl, rfl⟩ := hrel
    by_cases hlt : k < 3
    · go_wp2
      go_round
      case rel => exact ⟨k + 1, by omega, by go_num, congrArg (Value.int .u64) (unsh_int y _ 1073741824 30 hy (Mx.unsh_lt 30 y k hy) (by decide))⟩
      case measure => simp [intOf]; omega
    · obtain rfl : k = 3 := by omega
      go_wp2
      go_ret
      exact ⟨rfl, rfl⟩

/-- a product of two words -/
theorem mul_int (a b : Nat) : IntKind.u64.wrap ((a : Int) * (b : Int)) = ((a * b % 18446744073709551616 : Nat) : Int) := by
  rw [IntKind.wrap_u64, Int.natCast_emod, Int.natCast_mul]
  rfl

/-- zzs1646bunmix. -/
theorem unmix_any (y : Nat) (hy : y < 18446744073709551616) (w : World) :
    Calls Yba.prog 5 #[.int .u64 y] w fun e w' => e = .returned (.int .u64 (Mx.unmix y : Nat)) ∧ w' = w := by
  have l2 : Mx.un2 y < 18446744073709551616 := Nat.mod_lt _ (by decide)
  have l4 : Mx.un4 y < 18446744073709551616 := Nat.mod_lt _ (by decide)
  have e2 : IntKind.u64.wrap (((Mx.unsh 31 y 3 : Nat) : Int) * ((Mx.I2 : Nat) : Int)) = ((Mx.un2 y : Nat) : Int) := mul_int _ _
  have e4 : IntKind.u64.wrap (((Mx.unsh 27 (Mx.un2 y) 3 : Nat) : Int) * ((Mx.I1 : Nat) : Int)) = ((Mx.un4 y : Nat) : Int) := mul_int _ _
  have E2 : Hid (_ = _) := e2
  have E4 : Hid (_ = _) := e4
  clear e2 e4
  go_enter Yba.func5, Yba.ntmps5
  go_wp2_with fail
  refine (unsh31 y hy _).mono ?_
  rintro e w1 ⟨rfl, rfl⟩
  go_wp2_with fail
  refine (inv_any _ _).mono ?_
  rintro e w1 ⟨rfl, rfl⟩
  rw [inv2]
  go_wp2_with fail
  rw [E2.out]
  refine (unsh27 (Mx.un2 y) l2 _).mono ?_
  rintro e w1 ⟨rfl, rfl⟩
  go_wp2_with fail
  refine (inv_any _ _).mono ?_
  rintro e w1 ⟨rfl, rfl⟩
  rw [inv1]
  go_wp2_with fail
  rw [E4.out]
  refine (unsh30 (Mx.un4 y) l4 _).mono ?_
  rintro e w1 ⟨rfl, rfl⟩
  go_wp2
  go_ret
  exact ⟨rfl, rfl⟩
end Go.Proofs.Ybulkahbi
