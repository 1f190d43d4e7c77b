/-
  Package server: the walk of LawS1651CBody.
-/
import Derived.Test.YbulkaheaW3
namespace Go.Proofs.Ybulkahea
open Go.RowKit Go.Deep

/-- the argument's variable -/
structure In7 (w : World) (I : Nat) (b10 : Bool) (hosts : Int) (host : ByteArray) (L : Int) (hl nilc : Bool) (v : Value) : Prop where
  c0 : w.cell? ⟨I, 0, none⟩ = some (.bool b10)
  c1 : w.cell? ⟨I, 1, none⟩ = some (.int .i64 hosts)
  c2 : w.cell? ⟨I, 2, none⟩ = some (.string host)
  c3 : w.cell? ⟨I, 3, none⟩ = some (.int .i64 L)
  c4 : w.cell? ⟨I, 4, none⟩ = some (.bool hl)
  c5 : w.cell? ⟨I, 5, none⟩ = some (.bool nilc)
  c6 : w.cell? ⟨I, 6, none⟩ = some v
theorem In7.fr {w w' : World} {I : Nat} {b10 : Bool} {hosts : Int} {host : ByteArray} {L : Int} {hl nilc : Bool} {v : Value} (h : In7 w I b10 hosts host L hl nilc v) (f : Fr (fun _ => False) w w') : In7 w' I b10 hosts host L hl nilc v := by
  have g : ∀ j x, w.cell? ⟨I, j, none⟩ = some x → w'.cell? ⟨I, j, none⟩ = some x := fun j x hx => by rw [f.cell (p := ⟨I, j, none⟩) (World.block_lt_of_cell? _ _ hx) id]; exact hx
  exact ⟨g _ _ h.c0, g _ _ h.c1, g _ _ h.c2, g _ _ h.c3, g _ _ h.c4, g _ _ h.c5, g _ _ h.c6⟩
theorem Frm.fr {w w' : World} {I : Nat} {b10 : Bool} {hosts : Int} {host : ByteArray} {L : Int} {hl : Bool} {v : Value} (h : Frm w I b10 hosts host L hl v) (f : Fr (fun _ => False) w w') : Frm w' I b10 hosts host L hl v := by
  have g : ∀ j x, w.cell? ⟨I, j, none⟩ = some x → w'.cell? ⟨I, j, none⟩ = some x := fun j x hx => by rw [f.cell (p := ⟨I, j, none⟩) (World.block_lt_of_cell? _ _ hx) id]; exact hx
  exact ⟨g _ _ h.c0, g _ _ h.c1, g _ _ h.c2, g _ _ h.c3, g _ _ h.c4, g _ _ h.c5⟩
theorem in7_new (w : World) (b10 : Bool) (hosts : Int) (host : ByteArray) (L : Int) (hl nilc : Bool) (v : Value) : In7 (w.alloc (.cells #[.bool b10, .int .i64 hosts, .string host, .int .i64 L, .bool hl, .bool nilc, v] 30)) w.heap.size b10 hosts host L hl nilc v := by
  constructor <;> simp
theorem frm_new (w : World) (b10 : Bool) (hosts : Int) (host : ByteArray) (L : Int) (hl : Bool) (v : Value) : Frm (w.alloc (.cells #[.bool b10, .int .i64 hosts, .string host, .int .i64 L, .bool hl, v] 35)) w.heap.size b10 hosts host L hl v := by
  constructor <;> simp
theorem Cods.fr {w w' : World} {v : Value} {nilc : Bool} {len : Nat} {Z : Nat → Nat} (h : Cods w v nilc len Z) (f : Fr (fun _ => False) w w') : Cods w' v nilc len Z := by
  rcases h with h | ⟨h1, g, cap, h2, hg, h3, h4, h5⟩
  · exact .inl h
  · exact .inr ⟨h1, g, cap, h2, Nat.lt_of_lt_of_le hg f.size, h3, h4, fun i hi => by rw [f.cell (p := ⟨g, i, none⟩) hg id]; exact h5 i hi⟩

set_option maxRecDepth 100000 in
set_option maxHeartbeats 3200000 in
/-- the law where the codings are nil -/
theorem law_nil (b10 : Bool) (hosts : Int) (host : ByteArray) (L : Int) (hl : Bool) (a : Option Addr) (len cap : Nat) (Z : Nat → Nat) (w : World) (hlen : len ≤ 1024) :
    Calls Yba.prog 4 #[.agg #[.bool b10, .int .i64 hosts, .string host, .int .i64 L, .bool hl, .bool true, .slice a len cap]] w fun e w' => e = .returned (.bool true) ∧ Below w.heap.size w w' := by
  have hnn := nil_slice
  have hn0 := nil_slice0
  generalize hO : spec b10 hosts L hl true len Z = o
  have HO : Hid (_ = o) := hO
  clear hO
  obtain ⟨ch, n, ro⟩ := o
  go_enter Yba.func4, Yba.ntmps4
  go_wp2_with fail
  have hI := (in7_new w b10 hosts host L hl true (.slice a len cap)).fr ((Fr.refl _ _).alloc (.cells #[.bool b10, .int .i64 hosts, .string host, .int .i64 L, .bool hl, .slice none 0 0] 35))
  have hF := frm_new (w.alloc (.cells #[.bool b10, .int .i64 hosts, .string host, .int .i64 L, .bool hl, .bool true, .slice a len cap] 30)) b10 hosts host L hl (.slice none 0 0)
  rw [World.size_alloc] at hF
  have bel : Below w.heap.size w ((w.alloc (.cells #[.bool b10, .int .i64 hosts, .string host, .int .i64 L, .bool hl, .bool true, .slice a len cap] 30)).alloc (.cells #[.bool b10, .int .i64 hosts, .string host, .int .i64 L, .bool hl, .slice none 0 0] 35)) := ((Below.refl _ w).alloc (Nat.le_refl _) _).alloc (by simp) _
  have hB := body_any (w.heap.size + 1) b10 hosts host L hl true len Z (.slice none 0 0) _ hF (.inl ⟨rfl, rfl⟩)
  rw [HO.out] at hB
  refine hB.mono ?_
  rintro e w1 ⟨p, rfl, hp0, hp1, hfr⟩
  have hI1 := hI.fr hfr
  have hF1 := hF.fr hfr
  have bel1 := bel.trans (hfr.below (B := w.heap.size) (by simp; omega) (fun _ _ => id))
  clear hI hF bel hB hfr
  obtain ⟨i0, i1, i2, i3, i4, i5, i6⟩ := hI1
  obtain ⟨f0, f1, f2, f3, f4, f5⟩ := hF1
  have hWt := want_any b10 hosts L hl true len Z (.slice none 0 0) w1 (.inl ⟨rfl, rfl⟩)
  rw [HO.out] at hWt
  unfold Wants at hWt
  have HW : Hid (Calls _ _ _ _ _) := hWt
  clear hWt
  cases ro with
  | none =>
    obtain rfl := hp0 rfl
    clear hp0 hp1
    go_wp2_with fail
    refine HW.out.mono ?_
    rintro e w2 ⟨rfl, rfl⟩
    clear HW
    go_wp2
    go_quiet (fail)
    go_wp2
    refine wp_loop_rounds 1 ?_
    rw [rounds_succ]
    go_wp2
    go_ret
    exact ⟨rfl, below_drewN' bel1 nq⟩
  | some r =>
    obtain ⟨R, rfl, q0, q1⟩ := hp1 r rfl
    clear hp0 hp1
    go_wp2_with fail
    refine HW.out.mono ?_
    rintro e w2 ⟨rfl, rfl⟩
    clear HW
    go_wp2
    go_quiet (fail)
    go_wp2
    refine wp_loop_rounds 1 ?_
    rw [rounds_succ]
    go_wp2
    go_ret
    exact ⟨rfl, below_drewN' bel1 nq⟩
end Go.Proofs.Ybulkahea
