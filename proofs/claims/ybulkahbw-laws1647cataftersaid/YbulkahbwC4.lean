/-
  Package engine: the walks of (*Messages).Broadcast and zzs1647cbuild.
-/
import Derived.Test.YbulkahbwC3
namespace Go.Proofs.Ybulkahbw
open Go.RowKit Go.Deep

/-- Messages, whatever they hold -/
def Msx (w : World) (N B M A H n : Nat) : Prop := ∃ all at' has v ids, Ms w N B M A H n all at' has v ids ∧ Inv n at' has ids

/-- Set, whatever was there. -/
theorem set_any (N B M A H n : Nat) (all : Option Nat) (at' : Nat → Option Nat) (has : Nat → Bool) (v : Value) (ids : List Nat) (k : Nat) (x : Option Nat) (w : World) (h : Ms w N B M A H n all at' has v ids) (hi : Inv n at' has ids) (hn : n ≤ 40) (hk : k < n) :
    Calls Yba.prog 19 #[.pointer (some ⟨M, 0, none⟩), .int .i64 ((k : Int) + 1), mv x] w fun e w' => e = .returned (.tuple #[]) ∧ (∃ at2 has2 v2 ids2, Ms w' N B M A H n all at2 has2 v2 ids2 ∧ Inv n at2 has2 ids2) ∧ Below N w w' := by
  cases hh : has k with
  | true =>
    refine (set_hit N B M A H n all at' has v ids k x w h hn hk hh).mono ?_
    rintro e w' ⟨rfl, hm, hb⟩
    exact ⟨rfl, ⟨_, _, _, _, hm, hi.hit k hh x⟩, hb⟩
  | false =>
    by_cases hx : x = none ∧ all = none
    · obtain ⟨rfl, rfl⟩ := hx
      refine (set_idle N B M A H n at' has v ids k w h hn hk hh).mono ?_
      rintro e w' ⟨rfl, rfl⟩
      exact ⟨rfl, ⟨_, _, _, _, h, hi⟩, Below.refl _ _⟩
    · refine (set_new N B M A H n all at' has v ids k x w h hn hi.len hk hh (fun e e2 => hx ⟨e, e2⟩)).mono ?_
      rintro e w' ⟨rfl, ⟨v', hm⟩, hb⟩
      exact ⟨rfl, ⟨_, _, _, _, hm, hi.new k hk hh x⟩, hb⟩

/-- all = msg -/
theorem all_set {w : World} {N B M A H n : Nat} {all : Option Nat} {at' : Nat → Option Nat} {has : Nat → Bool} {v : Value} {ids : List Nat} (h : Ms w N B M A H n all at' has v ids) (x : Option Nat) :
    Ms (w.setCell ⟨M, 0, none⟩ (mv x)) N B M A H n x at' has v ids ∧ Below N w (w.setCell ⟨M, 0, none⟩ (mv x)) := by
  refine ⟨⟨(h.m.set 0 (mv x)).congr (fun i _ => ?_), h.a.setOther h.ma.symm _, h.h.setOther h.mh.symm _, ownsRow_setCell_below h.own (a := ⟨M, 0, none⟩) h.mB _, h.ma, h.mh, h.ah, h.mB, h.aB, h.hB, h.nM, h.nA, h.nH, by simpa using h.sz⟩, (Below.refl N w).setCell (p := ⟨M, 0, none⟩) h.nM _⟩
  unfold msCells
  by_cases h0 : i = 0
  · subst h0; rfl
  · simp [h0]

set_option maxRecDepth 100000 in
set_option maxHeartbeats 1600000 in
/-- Broadcast. -/
theorem broadcast_any (N B M A H n : Nat) (all : Option Nat) (at' : Nat → Option Nat) (has : Nat → Bool) (v : Value) (ids : List Nat) (x : Option Nat) (w : World) (h : Ms w N B M A H n all at' has v ids) (hi : Inv n at' has ids) (hn : n ≤ 40) :
    Calls Yba.prog 25 #[.pointer (some ⟨M, 0, none⟩), mv x] w fun e w' => e = .returned (.tuple #[]) ∧ Msx w' N B M A H n ∧ Below N w w' := by
  have c0 : w.cell? ⟨M, 0, none⟩ = some (mv all) := h.m.cell (i := 0) (by omega)
  have c3 : w.cell? ⟨M, 3, none⟩ = some v := h.m.cell (i := 3) (by omega)
  obtain ⟨ao, cap, hv⟩ : ∃ ao cap, v = .slice ao ids.length cap := by
    rcases h.own.2 with ⟨rfl, h0⟩ | ⟨g, cap, cur, rfl, _⟩
    · exact ⟨none, 0, by rw [h0]⟩
    · exact ⟨_, _, rfl⟩
  subst hv
  have eqn := eql_nil
  have HM : Hid (Ms w N B M A H n all at' has (.slice ao ids.length cap) ids) := h
  clear h
  have rest : ∀ (y : Value), y = mv x → (all = none → ids.length = 0) → Calls Yba.prog 25 #[.pointer (some ⟨M, 0, none⟩), y] w fun e w' => e = .returned (.tuple #[]) ∧ Msx w' N B M A H n ∧ Below N w w' := by
    intro y hy hc
    have fz : ∀ w1 all' at2 has2 v2 ids2, Ms w1 N B M A H n all' at2 has2 v2 ids2 → w1.cell? ⟨M, 0, none⟩ = some (mv all') ∧ w1.frozen? ⟨M, 0, none⟩ = false := fun w1 all' at2 has2 v2 ids2 h => ⟨h.m.cell (i := 0) (by omega), h.m.frozen 0⟩
    have go : ∀ al : Option Nat, all = al → Calls Yba.prog 25 #[.pointer (some ⟨M, 0, none⟩), y] w fun e w' => e = .returned (.tuple #[]) ∧ Msx w' N B M A H n ∧ Below N w w' := by
      intro al hal
      cases x with
      | none =>
        subst hy hal
        cases all with
        | none =>
          have hl0 := hc rfl
          have c0' : w.cell? ⟨M, 0, none⟩ = some .nilIface := c0
          clear c0
          unfold mv
          go_enter Yba.func25, Yba.ntmps25
          go_wp2_with fail
          refine (clear_any N B M A H n none at' has _ ids w HM.out hi hn).mono ?_
          rintro e w1 ⟨rfl, ⟨v', hms⟩, hb1⟩
          obtain ⟨z1, z2⟩ := fz _ _ _ _ _ _ hms
          have R := all_set hms none
          have HR : Hid (_ ∧ _) := R
          clear R hms
          go_wp2
          go_end0
          exact ⟨rfl, ⟨_, _, _, _, _, HR.out.1, Inv.start n⟩, hb1.trans HR.out.2⟩
        | some a =>
          have c0' : w.cell? ⟨M, 0, none⟩ = some (.iface 3 (.int .i64 (a : Nat))) := c0
          clear c0
          unfold mv
          go_enter Yba.func25, Yba.ntmps25
          go_wp2_with fail
          refine (clear_any N B M A H n (some a) at' has _ ids w HM.out hi hn).mono ?_
          rintro e w1 ⟨rfl, ⟨v', hms⟩, hb1⟩
          obtain ⟨z1, z2⟩ := fz _ _ _ _ _ _ hms
          have R := all_set hms none
          have HR : Hid (_ ∧ _) := R
          clear R hms
          go_wp2
          go_end0
          exact ⟨rfl, ⟨_, _, _, _, _, HR.out.1, Inv.start n⟩, hb1.trans HR.out.2⟩
      | some b =>
        subst hy hal
        cases all with
        | none =>
          have hl0 := hc rfl
          have c0' : w.cell? ⟨M, 0, none⟩ = some .nilIface := c0
          clear c0
          unfold mv
          go_enter Yba.func25, Yba.ntmps25
          go_wp2_with fail
          refine (clear_any N B M A H n none at' has _ ids w HM.out hi hn).mono ?_
          rintro e w1 ⟨rfl, ⟨v', hms⟩, hb1⟩
          obtain ⟨z1, z2⟩ := fz _ _ _ _ _ _ hms
          have R := all_set hms (some b)
          have HR : Hid (_ ∧ _) := R
          clear R hms
          go_wp2
          go_end0
          exact ⟨rfl, ⟨_, _, _, _, _, HR.out.1, Inv.start n⟩, hb1.trans HR.out.2⟩
        | some a =>
          have c0' : w.cell? ⟨M, 0, none⟩ = some (.iface 3 (.int .i64 (a : Nat))) := c0
          clear c0
          unfold mv
          go_enter Yba.func25, Yba.ntmps25
          go_wp2_with fail
          refine (clear_any N B M A H n (some a) at' has _ ids w HM.out hi hn).mono ?_
          rintro e w1 ⟨rfl, ⟨v', hms⟩, hb1⟩
          obtain ⟨z1, z2⟩ := fz _ _ _ _ _ _ hms
          have R := all_set hms (some b)
          have HR : Hid (_ ∧ _) := R
          clear R hms
          go_wp2
          go_end0
          exact ⟨rfl, ⟨_, _, _, _, _, HR.out.1, Inv.start n⟩, hb1.trans HR.out.2⟩
    exact go _ rfl
  cases all with
  | some al => exact rest _ rfl (fun h => by cases h)
  | none =>
    by_cases hl : ids.length = 0
    · exact rest _ rfl (fun _ => hl)
    · clear rest
      have c0' : w.cell? ⟨M, 0, none⟩ = some .nilIface := c0
      have hl' : 0 < ids.length := by omega
      have hd : decide (0 < ids.length) = true := by simp; omega
      clear c0
      go_enter Yba.func25, Yba.ntmps25
      go_wp2
      go_loopg [4] n (fun g i wr => ∃ k : Nat, g = n - k ∧ k ≤ n ∧ i = .int .i64 ((k : Int) + 1) ∧ (∃ at2 has2 v2 ids2, Ms wr N B M A H n none at2 has2 v2 ids2 ∧ Inv n at2 has2 ids2) ∧ Below N w wr)
      case atStart => exact ⟨0, by omega, by omega, by simp, ⟨_, _, _, _, HM.out, hi⟩, Below.refl _ _⟩
      case round =>
        obtain ⟨k, rfl, hk, rfl, ⟨at2, has2, v2, ids2, hms, hi2⟩, hbel⟩ := hrel
        have c1 : wr.cell? ⟨M, 1, none⟩ = some (.slice (some ⟨A, 0, none⟩) n n) := hms.m.cell (i := 1) (by omega)
        by_cases hlt : k < n
        · go_wp2_with fail
          refine (set_any N B M A H n none at2 has2 v2 ids2 k x wr hms hi2 hn hlt).mono ?_
          rintro e w1 ⟨rfl, hx, hb1⟩
          have hb2 := hbel.trans hb1
          clear hms hi2 hbel hb1 c1 wr
          go_wp2
          go_roundg (n - (k + 1))
          case rel => exact ⟨k + 1, rfl, by omega, by go_num, hx, hb2⟩
          case measure => omega
        · have HX : Hid (Msx wr N B M A H n) := ⟨_, _, _, _, _, hms, hi2⟩
          clear hms hi2
          go_wp2
          exact bodyPost_ret (results_none rfl _ _ _) rfl ⟨rfl, HX.out, hbel⟩
end Go.Proofs.Ybulkahbw
