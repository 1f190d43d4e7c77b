/-
  Package engine: the walks of (*Messages).own, (*Messages).At and LawS1647CAtAfter.
-/
import Derived.Test.YbulkahbwC7
namespace Go.Proofs.Ybulkahbw
open Go.RowKit Go.Deep

/-- (*Messages).own. -/
theorem own_any (N B M A H n : Nat) (all : Option Nat) (at' : Nat → Option Nat) (has : Nat → Bool) (v : Value) (ids : List Nat) (k : Nat) (w : World) (h : Ms w N B M A H n all at' has v ids) (hn : n ≤ 40) (hk : k < n) (r : Option Nat) (hr : (if has k then at' k else all) = r) :
    Calls Yba.prog 26 #[.pointer (some ⟨M, 0, none⟩), .int .i64 ((k : Int) + 1)] w fun e w' => e = .returned (mv r) ∧ w' = w := by
  have c0 : w.cell? ⟨M, 0, none⟩ = some (mv all) := h.m.cell (i := 0) (by omega)
  have c1 : w.cell? ⟨M, 1, none⟩ = some (.slice (some ⟨A, 0, none⟩) n n) := h.m.cell (i := 1) (by omega)
  have c2 : w.cell? ⟨M, 2, none⟩ = some (.slice (some ⟨H, 0, none⟩) n n) := h.m.cell (i := 2) (by omega)
  have c3 := h.h.cell hk
  have c4 := h.a.cell hk
  have hk0 : (0 : Int) ≤ (k : Int) := by omega
  have hk1 : (k : Int) < (n : Int) := by omega
  clear h
  cases hh : has k with
  | true =>
    rw [hh] at c3
    rw [hh, if_pos rfl] at hr
    subst hr
    go_enter Yba.func26, Yba.ntmps26
    go_wp2
    go_ret
    exact ⟨rfl, rfl⟩
  | false =>
    rw [hh] at c3
    rw [hh, if_neg (by simp)] at hr
    subst hr
    go_enter Yba.func26, Yba.ntmps26
    go_wp2
    go_ret
    exact ⟨rfl, rfl⟩

set_option maxHeartbeats 800000 in
/-- (*Messages).At, nothing lying under m and nothing lent. -/
theorem at_any (N B M A H n : Nat) (all : Option Nat) (at' : Nat → Option Nat) (has : Nat → Bool) (v : Value) (ids : List Nat) (k : Nat) (w : World) (h : Ms w N B M A H n all at' has v ids) (hn : n ≤ 40) (hk : k < n) (r : Option Nat) (hr : (if has k then at' k else all) = r) :
    Calls Yba.prog 18 #[.pointer (some ⟨M, 0, none⟩), .int .i64 ((k : Int) + 1)] w fun e w' => e = .returned (mv r) ∧ w' = w := by
  have c4 : w.cell? ⟨M, 4, none⟩ = some (.pointer none) := h.m.cell (i := 4) (by omega)
  have c5 : w.cell? ⟨M, 5, none⟩ = some (.pointer none) := h.m.cell (i := 5) (by omega)
  have HM : Hid (Ms w N B M A H n all at' has v ids) := h
  have HR : Hid (_ = r) := hr
  clear h hr
  go_enter Yba.func18, Yba.ntmps18
  go_wp2
  refine wp_loop_rounds 1 ?_
  rw [rounds_succ]
  go_wp2_with fail
  refine (own_any N B M A H n all at' has v ids k _ HM.out hn hk r HR.out).mono ?_
  rintro e w1 ⟨rfl, rfl⟩
  go_wp2
  go_ret
  exact ⟨rfl, rfl⟩

set_option maxRecDepth 100000 in
set_option maxHeartbeats 1600000 in
/-- LawS1647CAtAfter. -/
theorem after_law (z : Nat) (hz : z < 256) (a : Option Addr) (len cap : Nat) (O V : Nat → Nat) (X : Nat → Int) (id : Int) (y : Nat) (hy : y < 256) (w : World) (h : RowOp w a len O V X) :
    Calls Yba.prog 7 #[.int .u8 z, .slice a len cap, .int .i64 id, .int .u8 y] w fun e w' => e = .returned (.bool true) ∧ Below w.heap.size w w' := by
  by_cases hlen : len ≤ 1024
  · obtain ⟨n, hn⟩ : ∃ n, n = z % 40 := ⟨_, rfl⟩
    have en : (z : Int) % 40 = (n : Int) := by omega
    have hn40 : n ≤ 40 := by omega
    have HN : Hid (n = z % 40) := hn
    clear hn
    have nsm := neq_same
    have gok := guard_neq
    go_enter Yba.func7, Yba.ntmps7
    go_wp2_with fail
    refine (build_any z hz a len cap O V X w hlen h).mono ?_
    rintro e w1 ⟨B, M, A, H, rfl, ⟨all, at', has, v, ids, hms, hi⟩, hb1⟩
    rw [← HN.out] at hms hi
    have c0 : w1.cell? ⟨M, 0, none⟩ = some (mv all) := hms.m.cell (i := 0) (by omega)
    go_wp2_with fail
    refine (clear_any _ B M A H n all at' has v ids w1 hms hi hn40).mono ?_
    rintro e w2 ⟨rfl, ⟨v', hm2⟩, hb2⟩
    have hb3 := hb1.trans hb2
    have HM : Hid (Ms w2 _ _ _ _ _ _ _ _ _ _ _) := hm2
    clear c0 hms hi hb1 hb2 hm2
    go_wp2
    go_loop [12] (fun i => ∃ k : Nat, k ≤ n ∧ i = .int .i64 ((k : Int) + 1)) (fun i => n + 1 - (intOf i).toNat)
    case atStart => exact ⟨0, by omega, by simp⟩
    case round =>
      obtain ⟨k, hk, rfl⟩ := hrel
      by_cases hlt : k < n
      · go_wp2_with fail
        refine (at_any _ B M A H n all _ _ v' _ k _ HM.out hn40 hlt all rfl).mono ?_
        rintro e w3 ⟨rfl, rfl⟩
        go_wp2
        go_round
        case rel => exact ⟨k + 1, by omega, by go_num⟩
        case measure => simp [intOf]; omega
      · by_cases hn0 : n = 0
        · subst hn0
          go_wp2
          go_ret
          exact ⟨rfl, hb3⟩
        · have hne : ((n : Int) == 0) = false := beq_eq_false_iff_ne.2 (by omega)
          obtain ⟨q, hqn, hq⟩ := place id n (by omega)
          have eq1 : (1 : Int) + (q : Int) = (q : Int) + 1 := by omega
          have hset := set_new _ B M A H n all _ _ v' [] q (some (y + 1)) w2 HM.out hn40 (by simp) hqn rfl (fun h => by cases h)
          rw [show mv (some (y + 1)) = .iface 3 (.int .i64 ((y : Int) + 1)) from rfl] at hset
          have HS : Hid (Calls _ _ _ _ _) := hset
          clear hset
          have heq : ∀ w, (binOp .eql 66 (mv (some (y + 1))) (.iface 3 (.int .i64 ((y : Int) + 1)))).run Yba.prog w = .ok (.bool true) w := fun w => eql_same (some (y + 1)) w
          have heg : ∀ i j w, (eqGuard .eql 66 (.tmp i) (.tmp j) (mv (some (y + 1))) (.iface 3 (.int .i64 ((y : Int) + 1)))).run Yba.prog w = .ok () w := fun i j w => guard_eql i j (some (y + 1)) (some (y + 1)) w
          go_wp2_with fail
          refine HS.out.mono ?_
          rintro e w3 ⟨rfl, ⟨v2, hm3⟩, hb4⟩
          have hb5 := hb3.trans hb4
          obtain ⟨g, cp, hv⟩ : ∃ g cp, v2 = .slice (some ⟨g, 0, none⟩) 1 cp := by
            rcases hm3.own.2 with ⟨rfl, h0⟩ | ⟨g, cap, cur, rfl, _⟩
            · simp at h0
            · exact ⟨_, _, rfl⟩
          subst hv
          have c3 : w3.cell? ⟨M, 3, none⟩ = some (.slice (some ⟨g, 0, none⟩) 1 cp) := hm3.m.cell (i := 3) (by omega)
          have cg : w3.cell? ⟨g, 0, none⟩ = some (.int .i64 ((q : Int) + 1)) := by
            have := hm3.own.cellAt 0 (by simp)
            simpa using this
          have g2 : (((q : Int) + 1) != ((q : Int) + 1)) = false := by simp
          have HM3 : Hid (Ms w3 _ _ _ _ _ _ _ _ _ _ _) := hm3
          clear hm3 hb4 HS
          go_wp2_with fail
          refine (at_any _ B M A H n all _ _ _ _ q _ HM3.out hn40 hqn (some (y + 1)) (by simp [upd])).mono ?_
          rintro e w4 ⟨rfl, rfl⟩
          go_wp2
          go_ret
          exact ⟨rfl, hb5⟩
  · go_enter Yba.func7, Yba.ntmps7
    go_wp2
    go_ret
    exact ⟨rfl, Below.refl _ _⟩
end Go.Proofs.Ybulkahbw
