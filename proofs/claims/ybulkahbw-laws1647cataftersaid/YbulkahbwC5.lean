/-
  Package engine: the walk of zzs1647cbuild.
-/
import Derived.Test.YbulkahbwC4
namespace Go.Proofs.Ybulkahbw
open Go.RowKit Go.Deep

/-- A slice of ops as a walk is told of it. -/
def RowOp (w : World) (a : Option Addr) (len : Nat) (O V : Nat → Nat) (X : Nat → Int) : Prop :=
  (∀ i, O i < 256 ∧ V i < 256) ∧ (len = 0 ∨ ∃ b off, a = some ⟨b, off, none⟩ ∧ b < w.heap.size ∧
    ∀ i, i < len → w.cell? ⟨b, off + i * 3, none⟩ = some (.int .u8 (O i : Nat)) ∧ w.cell? ⟨b, off + i * 3 + 1, none⟩ = some (.int .i64 (X i)) ∧ w.cell? ⟨b, off + i * 3 + 2, none⟩ = some (.int .u8 (V i : Nat)))
theorem RowOp.below {w w' : World} {a : Option Addr} {len : Nat} {O V : Nat → Nat} {X : Nat → Int} (h : RowOp w a len O V X) (hb : Below w.heap.size w w') : RowOp w' a len O V X := by
  obtain ⟨hz, h⟩ := h
  refine ⟨hz, ?_⟩
  rcases h with h | ⟨b, off, ha, hlt, hc⟩
  · exact .inl h
  · exact .inr ⟨b, off, ha, Nat.lt_of_lt_of_le hlt hb.size, fun i hi => by
      rw [hb.cell (p := ⟨b, off + i * 3, none⟩) hlt, hb.cell (p := ⟨b, off + i * 3 + 1, none⟩) hlt, hb.cell (p := ⟨b, off + i * 3 + 2, none⟩) hlt]; exact hc i hi⟩

theorem Ms.alloc {w : World} {N B M A H n : Nat} {all : Option Nat} {at' : Nat → Option Nat} {has : Nat → Bool} {v : Value} {ids : List Nat} (h : Ms w N B M A H n all at' has v ids) (o : Obj) : Ms (w.alloc o) N B M A H n all at' has v ids :=
  ⟨h.m.alloc o, h.a.alloc o, h.h.alloc o, h.own.alloc o, h.ma, h.mh, h.ah, h.mB, h.aB, h.hB, h.nM, h.nA, h.nH, by have := h.sz; simp; omega⟩
/-- 'uint64(x) % uint64(n)' -/
theorem place (x : Int) (n : Nat) (h : 0 < n) : ∃ q : Nat, q < n ∧ (IntKind.u64.wrap x).tmod (n : Int) = (q : Int) := by
  have h0 : 0 ≤ IntKind.u64.wrap x := by simp only [IntKind.wrap, IntKind.bits, IntKind.signed]; exact Int.emod_nonneg _ (by decide)
  refine ⟨(IntKind.u64.wrap x % (n : Int)).toNat, ?_, ?_⟩
  · have := Int.emod_lt_of_pos (IntKind.u64.wrap x) (show (0 : Int) < n by omega)
    omega
  · rw [Int.tmod_eq_emod_of_nonneg h0]
    have := Int.emod_nonneg (IntKind.u64.wrap x) (show (n : Int) ≠ 0 by omega)
    omega

set_option maxRecDepth 100000 in
set_option maxHeartbeats 1600000 in
/-- zzs1647cbuild. -/
theorem build_any (z : Nat) (hz : z < 256) (a : Option Addr) (len cap : Nat) (O V : Nat → Nat) (X : Nat → Int) (w : World) (hlen : len ≤ 1024) (h : RowOp w a len O V X) :
    Calls Yba.prog 16 #[.int .u8 z, .slice a len cap] w fun e w' => ∃ B M A H, e = .returned (.pointer (some ⟨M, 0, none⟩)) ∧ Msx w' w.heap.size B M A H (z % 40) ∧ Below w.heap.size w w' := by
  obtain ⟨n, hn⟩ : ∃ n, n = z % 40 := ⟨_, rfl⟩
  have en : (z : Int) % 40 = (n : Int) := by omega
  have hn40 : n ≤ 40 := by omega
  have HN : Hid (n = z % 40) := hn
  rw [← hn]
  clear hn
  go_enter Yba.func16, Yba.ntmps16
  go_wp2_with fail
  refine (new_any n hn40 w).mono ?_
  rintro e w1 ⟨rfl, A, H, hms, hfr⟩
  go_wp2
  go_loopg [7] len (fun g i wr => ∃ k : Nat, g = len - k ∧ k ≤ len ∧ i = .int .i64 k ∧ Msx wr w.heap.size (w.heap.size + 3) (w.heap.size + 2) A H n ∧ Below w.heap.size w wr)
  case atStart => exact ⟨0, by omega, by omega, rfl, ⟨_, _, _, _, _, hms, Inv.start n⟩, hfr.below (Nat.le_refl _) (fun _ _ => id)⟩
  case round =>
    clear hms hfr w1
    obtain ⟨k, rfl, hk, rfl, ⟨all, at', has, v, ids, hms, hi⟩, hbel⟩ := hrel
    by_cases hlt : k < len
    · have h' := h.below hbel
      rcases h'.2 with h2 | ⟨b, off, rfl, hbl, hc⟩
      · omega
      obtain ⟨x0, x1, x2⟩ := hc k hlt
      have hO := (h.1 k).1
      have hV := (h.1 k).2
      have hk0 : (0 : Int) ≤ (k : Int) := by omega
      have hk1 : (k : Int) < (len : Int) := by omega
      clear hc h'
      have hbA : ∀ o, Below w.heap.size w (wr.alloc o) := fun o => hbel.alloc hbel.size o
      have hmA : ∀ o, Ms (wr.alloc o) w.heap.size (w.heap.size + 3) (w.heap.size + 2) A H n all at' has v ids := fun o => hms.alloc o
      have HA : Hid (∀ o, Ms (wr.alloc o) w.heap.size (w.heap.size + 3) (w.heap.size + 2) A H n all at' has v ids) := hmA
      have HB : Hid (∀ o, Below w.heap.size w (wr.alloc o)) := hbA
      clear hbA hmA hms hbel
      by_cases hn0 : n = 0
      · subst hn0
        go_wp2
        go_roundg (len - (k + 1))
        case measure => omega
        case rel => exact ⟨k + 1, rfl, by omega, by go_num, ⟨_, _, _, _, _, HA.out _, hi⟩, HB.out _⟩
      · have hne : ((n : Int) == 0) = false := beq_eq_false_iff_ne.2 (by omega)
        by_cases h2 : O k % 3 = 2
        · have e0 : ((O k : Nat) : Int) % 3 = 2 := by omega
          go_wp2_with fail
          refine (msg_any _ hV _).mono ?_
          rintro e w1 ⟨rfl, rfl⟩
          go_wp2_with fail
          refine (broadcast_any _ _ _ A H n all at' has v ids (msgOf (V k)) _ (HA.out _) hi hn40).mono ?_
          rintro e w1 ⟨rfl, hx, hb1⟩
          have hb2 := (HB.out _).trans hb1
          have HX : Hid (Msx w1 _ _ _ _ _ _) := hx
          clear hb1 hx
          go_wp2
          go_roundg (len - (k + 1))
          case measure => omega
          case rel => exact ⟨k + 1, rfl, by omega, by go_num, HX.out, hb2⟩
        · obtain ⟨q, hqn, hq⟩ := place (X k) n (by omega)
          have eq1 : (1 : Int) + (q : Int) = (q : Int) + 1 := by omega
          rcases (show O k % 3 = 0 ∨ O k % 3 = 1 from by omega) with h0 | h0
          · have e0 : ((O k : Nat) : Int) % 3 = 0 := by omega
            go_wp2_with fail
            refine (msg_any _ hV _).mono ?_
            rintro e w1 ⟨rfl, rfl⟩
            go_wp2_with fail
            refine (set_any _ _ _ A H n all at' has v ids q (msgOf (V k)) _ (HA.out _) hi hn40 hqn).mono ?_
            rintro e w1 ⟨rfl, hx, hb1⟩
            have hb2 := (HB.out _).trans hb1
            have HX : Hid (∃ at2 has2 v2 ids2, Ms w1 _ _ _ _ _ _ _ at2 has2 v2 ids2 ∧ Inv n at2 has2 ids2) := hx
            clear hb1 hx
            go_wp2
            go_roundg (len - (k + 1))
            case measure => omega
            case rel => exact ⟨k + 1, rfl, by omega, by go_num, ⟨_, HX.out⟩, hb2⟩
          · have e0 : ((O k : Nat) : Int) % 3 = 1 := by omega
            go_wp2_with fail
            refine (msg_any _ hV _).mono ?_
            rintro e w1 ⟨rfl, rfl⟩
            go_wp2_with fail
            refine (set_any _ _ _ A H n all at' has v ids q (msgOf (V k)) _ (HA.out _) hi hn40 hqn).mono ?_
            rintro e w1 ⟨rfl, hx, hb1⟩
            have hb2 := (HB.out _).trans hb1
            have HX : Hid (∃ at2 has2 v2 ids2, Ms w1 _ _ _ _ _ _ _ at2 has2 v2 ids2 ∧ Inv n at2 has2 ids2) := hx
            clear hb1 hx
            go_wp2
            go_roundg (len - (k + 1))
            case measure => omega
            case rel => exact ⟨k + 1, rfl, by omega, by go_num, ⟨_, HX.out⟩, hb2⟩
    · have HX : Hid (Msx wr w.heap.size (w.heap.size + 3) (w.heap.size + 2) A H n) := ⟨_, _, _, _, _, hms, hi⟩
      clear hms hi
      go_wp2
      go_ret
      exact ⟨_, _, _, _, rfl, HX.out, hbel⟩
end Go.Proofs.Ybulkahbw
