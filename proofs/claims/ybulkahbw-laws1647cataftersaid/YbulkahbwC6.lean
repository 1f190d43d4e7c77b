/-
  Package engine: the walk of LawS1647CClearsAll.
-/
import Derived.Test.YbulkahbwC5
namespace Go.Proofs.Ybulkahbw
open Go.RowKit Go.Deep

/-- the model's test ahead of '==' lets two messages by -/
theorem guard_neq (i j : Tmp) (a b : Option Nat) (w : World) : (eqGuard .neq 66 (.tmp i) (.tmp j) (mv a) (mv b)).run Yba.prog w = .ok () w := by
  cases a with
  | none =>
    cases b with
    | none => kernel_rfl
    | some _ => rfl
  | some _ => cases b <;> rfl
theorem guard_eql (i j : Tmp) (a b : Option Nat) (w : World) : (eqGuard .eql 66 (.tmp i) (.tmp j) (mv a) (mv b)).run Yba.prog w = .ok () w := by
  cases a with
  | none =>
    cases b with
    | none => kernel_rfl
    | some _ => rfl
  | some _ => cases b <;> rfl

set_option maxRecDepth 100000 in
set_option maxHeartbeats 1600000 in
/-- LawS1647CClearsAll. -/
theorem clears_law (z : Nat) (hz : z < 256) (a : Option Addr) (len cap : Nat) (O V : Nat → Nat) (X : Nat → Int) (w : World) (h : RowOp w a len O V X) :
    Calls Yba.prog 6 #[.int .u8 z, .slice a len cap] w fun e w' => e = .returned (.bool true) ∧ Below w.heap.size w w' := by
  by_cases hlen : len ≤ 1024
  · obtain ⟨n, hn⟩ : ∃ n, n = z % 40 := ⟨_, rfl⟩
    have en : (z : Int) % 40 = (n : Int) := by omega
    have hn40 : n ≤ 40 := by omega
    have HN : Hid (n = z % 40) := hn
    clear hn
    have nsm := neq_same
    have gok := guard_neq
    go_enter Yba.func6, Yba.ntmps6
    go_wp2_with fail
    refine (build_any z hz a len cap O V X w hlen h).mono ?_
    rintro e w1 ⟨B, M, A, H, rfl, ⟨all, at', has, v, ids, hms, hi⟩, hb1⟩
    rw [← HN.out] at hms hi
    have c0 : w1.cell? ⟨M, 0, none⟩ = some (mv all) := hms.m.cell (i := 0) (by omega)
    go_wp2_with fail
    refine (clear_any _ B M A H n all at' has v ids w1 hms hi hn40).mono ?_
    rintro e w2 ⟨rfl, ⟨v', hm2⟩, hb2⟩
    have hb3 := hb1.trans hb2
    clear c0 hms hi hb1 hb2
    have c0 : w2.cell? ⟨M, 0, none⟩ = some (mv all) := hm2.m.cell (i := 0) (by omega)
    have c1 : w2.cell? ⟨M, 1, none⟩ = some (.slice (some ⟨A, 0, none⟩) n n) := hm2.m.cell (i := 1) (by omega)
    have c2 : w2.cell? ⟨M, 2, none⟩ = some (.slice (some ⟨H, 0, none⟩) n n) := hm2.m.cell (i := 2) (by omega)
    have c4 : w2.cell? ⟨M, 4, none⟩ = some (.pointer none) := hm2.m.cell (i := 4) (by omega)
    obtain ⟨ao, cp, hv⟩ : ∃ ao cp, v' = .slice ao 0 cp := by
      rcases hm2.own.2 with ⟨rfl, h0⟩ | ⟨g, cap, cur, rfl, _⟩
      · exact ⟨none, 0, rfl⟩
      · exact ⟨_, _, rfl⟩
    subst hv
    have c3 : w2.cell? ⟨M, 3, none⟩ = some (.slice ao 0 cp) := hm2.m.cell (i := 3) (by omega)
    have g1 : ((n : Int) != (n : Int)) = false := by simp
    go_wp2
    go_loop [8] (fun i => ∃ k : Nat, k ≤ n ∧ i = .int .i64 k) (fun i => n - (intOf i).toNat)
    case atStart => exact ⟨0, by omega, rfl⟩
    case round =>
      obtain ⟨k, hk, rfl⟩ := hrel
      by_cases hlt : k < n
      · have d1 : w2.cell? ⟨A, k, none⟩ = some .nilIface := hm2.a.cell hlt
        have d2 := hm2.h.cell hlt
        have hk0 : (0 : Int) ≤ (k : Int) := by omega
        have hk1 : (k : Int) < (n : Int) := by omega
        go_wp2
        go_round
        case rel => exact ⟨k + 1, by omega, by go_num⟩
        case measure => simp [intOf]; omega
      · go_wp2
        go_ret
        exact ⟨rfl, hb3⟩
  · go_enter Yba.func6, Yba.ntmps6
    go_wp2
    go_ret
    exact ⟨rfl, Below.refl _ _⟩
end Go.Proofs.Ybulkahbw
