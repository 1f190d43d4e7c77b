/-
  Package engine: the walk of (*Messages).Set.
-/
import Derived.Test.YbulkahbwC1
namespace Go.Proofs.Ybulkahbw
open Go.RowKit Go.Deep

def upd {α : Type} (f : Nat → α) (k : Nat) (y : α) (i : Nat) : α := if i = k then y else f i

/-- '==' of a message and nil, of two messages -/
theorem eql_nil (x : Option Nat) (w : World) : (binOp .eql 66 (mv x) .nilIface).run Yba.prog w = .ok (.bool x.isNone) w := by
  cases x with
  | none => exact run_eql_nil_nil _ 66 (by kernel_rfl)
  | some k => exact run_eql_held_nil _ 66 _ _ (by kernel_rfl)
theorem neq_nil (x : Option Nat) (w : World) : (binOp .neq 66 (mv x) .nilIface).run Yba.prog w = .ok (.bool x.isSome) w := by
  cases x with
  | none => exact run_neq_nil_nil _ 66 (by kernel_rfl)
  | some k => exact run_neq_held_nil _ 66 _ _ (by kernel_rfl)
theorem neq_same (x : Option Nat) (w : World) : (binOp .neq 66 (mv x) (mv x)).run Yba.prog w = .ok (.bool false) w := by
  cases x with
  | none => exact run_neq_nil_nil _ 66 (by kernel_rfl)
  | some k =>
    have := Lib.run_neq_iface_int (P := Yba.prog) w (t := 66) (tx := 3) (k := .i64) (q := .i64) (k : Nat) (k : Nat) (ms := #[]) (by kernel_rfl) (by kernel_rfl) Yba.underlying3
    simpa [mv] using this
theorem eql_same (x : Option Nat) (w : World) : (binOp .eql 66 (mv x) (mv x)).run Yba.prog w = .ok (.bool true) w := by
  cases x with
  | none => exact run_eql_nil_nil _ 66 (by kernel_rfl)
  | some k =>
    have := Lib.run_eql_iface_int (P := Yba.prog) w (t := 66) (tx := 3) (k := .i64) (q := .i64) (k : Nat) (k : Nat) (ms := #[]) (by kernel_rfl) (by kernel_rfl) Yba.underlying3
    simpa [mv] using this

set_option maxHeartbeats 800000 in
/-- Set where the process has a message already. -/
theorem set_hit (N B M A H n : Nat) (all : Option Nat) (at' : Nat → Option Nat) (has : Nat → Bool) (v : Value) (ids : List Nat) (k : Nat) (x : Option Nat) (w : World) (h : Ms w N B M A H n all at' has v ids) (hn : n ≤ 40) (hk : k < n) (hh : has k = true) :
    Calls Yba.prog 19 #[.pointer (some ⟨M, 0, none⟩), .int .i64 ((k : Int) + 1), mv x] w fun e w' => e = .returned (.tuple #[]) ∧ Ms w' N B M A H n all (upd at' k x) has v ids ∧ Below N w w' := by
  have c1 : w.cell? ⟨M, 1, none⟩ = some (.slice (some ⟨A, 0, none⟩) n n) := h.m.cell (i := 1) (by omega)
  have c2 : w.cell? ⟨M, 2, none⟩ = some (.slice (some ⟨H, 0, none⟩) n n) := h.m.cell (i := 2) (by omega)
  have c3 : w.cell? ⟨H, k, none⟩ = some (.bool true) := by rw [← hh]; exact h.h.cell hk
  have c4 := h.a.cell hk
  have f4 := h.a.frozen k
  have hk0 : (0 : Int) ≤ (k : Int) := by omega
  have hk1 : (k : Int) < (n : Int) := by omega
  have R : Hid (Ms (w.setCell ⟨A, k, none⟩ (mv x)) N B M A H n all (upd at' k x) has v ids ∧ Below N w (w.setCell ⟨A, k, none⟩ (mv x))) := by
    refine ⟨⟨h.m.setOther h.ma _, (h.a.set k (mv x)).congr (fun i _ => ?_), h.h.setOther (by simpa using h.ah.symm) _, ownsRow_setCell_below h.own (by simpa using h.aB) _, h.ma, h.mh, h.ah, h.mB, h.aB, h.hB, h.nM, h.nA, h.nH, by simpa using h.sz⟩, (Below.refl N w).setCell (p := ⟨A, k, none⟩) h.nA _⟩
    unfold upd; split <;> rfl
  clear h hh
  cases x with
  | none =>
    unfold mv at R ⊢
    go_enter Yba.func19, Yba.ntmps19
    go_wp2
    go_end0
    exact ⟨rfl, R.out⟩
  | some y =>
    unfold mv at R ⊢
    go_enter Yba.func19, Yba.ntmps19
    go_wp2
    go_end0
    exact ⟨rfl, R.out⟩

/-- Set of nil where neither the process nor the broadcast has a message: nothing. -/
theorem set_idle (N B M A H n : Nat) (at' : Nat → Option Nat) (has : Nat → Bool) (v : Value) (ids : List Nat) (k : Nat) (w : World) (h : Ms w N B M A H n none at' has v ids) (hn : n ≤ 40) (hk : k < n) (hh : has k = false) :
    Calls Yba.prog 19 #[.pointer (some ⟨M, 0, none⟩), .int .i64 ((k : Int) + 1), mv none] w fun e w' => e = .returned (.tuple #[]) ∧ w' = w := by
  have c0 : w.cell? ⟨M, 0, none⟩ = some .nilIface := h.m.cell (i := 0) (by omega)
  have c2 : w.cell? ⟨M, 2, none⟩ = some (.slice (some ⟨H, 0, none⟩) n n) := h.m.cell (i := 2) (by omega)
  have c3 : w.cell? ⟨H, k, none⟩ = some (.bool false) := by rw [← hh]; exact h.h.cell hk
  have hk0 : (0 : Int) ≤ (k : Int) := by omega
  have hk1 : (k : Int) < (n : Int) := by omega
  clear h hh
  unfold mv
  go_enter Yba.func19, Yba.ntmps19
  go_wp2
  exact bodyPost_ret (results_none rfl _ _ _) rfl ⟨rfl, rfl⟩

theorem ms_own_ne {w : World} {N B M A H n : Nat} {all : Option Nat} {at' : Nat → Option Nat} {has : Nat → Bool} {v : Value} {ids : List Nat} (h : Ms w N B M A H n all at' has v ids) (j : Nat) (hj : j < B) : v.ownBlock ≠ some j := by
  intro e
  rcases h.own.2 with ⟨rfl, _⟩ | ⟨g, cap', cur, rfl, hb, _⟩
  · simp [Value.ownBlock] at e
  · simp [Value.ownBlock] at e; omega

/-- behind the append, the rows -/
theorem set_rows {w w1 : World} {N B M A H n : Nat} {all : Option Nat} {at' : Nat → Option Nat} {has : Nat → Bool} {v : Value} {ids : List Nat} {k : Nat} {o : Obj} (h : Ms w N B M A H n all at' has v ids)
    (hgrow : ((w.setCell ⟨H, k, none⟩ (.bool true)).alloc o).grownBy w1 v.ownBlock) :
    w1.rowIs M 70 6 (msCells all A H n v) ∧ w1.rowIs A 66 n (fun i => mv (at' i)) ∧ w1.rowIs H 4 n (fun i => .bool (upd has k true i)) ∧ Below N w w1 := by
  have r1 := (h.m.setOther (a := ⟨H, k, none⟩) h.mh (.bool true)).alloc o
  have r2 := (h.a.setOther (a := ⟨H, k, none⟩) h.ah (.bool true)).alloc o
  have r3 := ((h.h.set k (.bool true)).congr (g := fun i => .bool (upd has k true i)) (fun i _ => by unfold upd; split <;> rfl)).alloc o
  have q : ∀ j, j < B → w1.heap[j]? = ((w.setCell ⟨H, k, none⟩ (.bool true)).alloc o).heap[j]? := fun j hj => hgrow.block j (by have := h.sz; simp; omega) (ms_own_ne h j hj).symm
  refine ⟨r1.of_block (q M h.mB), r2.of_block (q A h.aB), r3.of_block (q H h.hB), ?_⟩
  have hN : N ≤ w.heap.size := by have := h.sz; have := h.nM; have := h.mB; omega
  refine ((((Below.refl N w).setCell (p := ⟨H, k, none⟩) h.nH _).alloc (by simpa using hN) o)).grown hgrow (by simp; omega) (fun j hj => ?_)
  rcases Nat.lt_or_ge j B with hl | hl
  · exact absurd hj (ms_own_ne h j hl)
  · have := h.nM; have := h.mB; omega
theorem set_facts {w w1 : World} {N B M A H n : Nat} {all : Option Nat} {at' : Nat → Option Nat} {has : Nat → Bool} {v : Value} {ids : List Nat} {k : Nat} {o : Obj} (h : Ms w N B M A H n all at' has v ids) (hk : k < n)
    (hgrow : ((w.setCell ⟨H, k, none⟩ (.bool true)).alloc o).grownBy w1 v.ownBlock) :
    w1.cell? ⟨M, 3, none⟩ = some v ∧ w1.frozen? ⟨M, 3, none⟩ = false ∧ w1.cell? ⟨M, 1, none⟩ = some (.slice (some ⟨A, 0, none⟩) n n) ∧ w1.cell? ⟨A, k, none⟩ = some (mv (at' k)) ∧ w1.frozen? ⟨A, k, none⟩ = false := by
  obtain ⟨r1, r2, r3, bel⟩ := set_rows h hgrow
  exact ⟨r1.cell (i := 3) (by omega), r1.frozen 3, r1.cell (i := 1) (by omega), r2.cell hk, r2.frozen k⟩
/-- and behind the last two stores -/
theorem set_end {w w1 : World} {N B M A H n : Nat} {all : Option Nat} {at' : Nat → Option Nat} {has : Nat → Bool} {v v' : Value} {ids : List Nat} {k : Nat} (x : Option Nat) {o : Obj} (h : Ms w N B M A H n all at' has v ids)
    (hgrow : ((w.setCell ⟨H, k, none⟩ (.bool true)).alloc o).grownBy w1 v.ownBlock) (hown : w1.ownsRow B 3 1 v' (ids.length + 1) (ids.map (fun (i : Nat) => Value.int .i64 (i : Nat)) ++ [.int .i64 ((k : Int) + 1)])) :
    Ms ((w1.setCell ⟨M, 3, none⟩ v').setCell ⟨A, k, none⟩ (mv x)) N B M A H n all (upd at' k x) (upd has k true) v' (ids ++ [k + 1]) ∧ Below N w ((w1.setCell ⟨M, 3, none⟩ v').setCell ⟨A, k, none⟩ (mv x)) := by
  obtain ⟨r1, r2, r3, bel⟩ := set_rows h hgrow
  refine ⟨⟨((r1.set 3 v').congr (fun i _ => ?_)).setOther h.ma _, ((r2.setOther (a := ⟨M, 3, none⟩) h.ma.symm _).set k (mv x)).congr (fun i _ => ?_), (r3.setOther (a := ⟨M, 3, none⟩) h.mh.symm _).setOther h.ah.symm _, ?_, h.ma, h.mh, h.ah, h.mB, h.aB, h.hB, h.nM, h.nA, h.nH, ?_⟩, (bel.setCell (p := ⟨M, 3, none⟩) h.nM _).setCell (p := ⟨A, k, none⟩) h.nA _⟩
  · unfold msCells
    by_cases h3 : i = 3
    · subst h3; rfl
    · simp [h3]
  · unfold upd; split <;> rfl
  · have := ownsRow_setCell_below (ownsRow_setCell_below hown (a := ⟨M, 3, none⟩) h.mB v') (a := ⟨A, k, none⟩) h.aB (mv x)
    simpa using this
  · have := bel.size; have := h.sz; simp; omega

set_option maxRecDepth 100000 in
set_option maxHeartbeats 1600000 in
/-- Set where the process has none yet. -/
theorem set_new (N B M A H n : Nat) (all : Option Nat) (at' : Nat → Option Nat) (has : Nat → Bool) (v : Value) (ids : List Nat) (k : Nat) (x : Option Nat) (w : World) (h : Ms w N B M A H n all at' has v ids) (hn : n ≤ 40) (hl : ids.length ≤ n) (hk : k < n) (hh : has k = false) (hx : x = none → ¬ all = none) :
    Calls Yba.prog 19 #[.pointer (some ⟨M, 0, none⟩), .int .i64 ((k : Int) + 1), mv x] w fun e w' => e = .returned (.tuple #[]) ∧ (∃ v', Ms w' N B M A H n all (upd at' k x) (upd has k true) v' (ids ++ [k + 1])) ∧ Below N w w' := by
  obtain ⟨i0, hi0, hz0, hz1, hz2⟩ := info_parts Yba.info3c
  have c0 : w.cell? ⟨M, 0, none⟩ = some (mv all) := h.m.cell (i := 0) (by omega)
  have c1 : w.cell? ⟨M, 1, none⟩ = some (.slice (some ⟨A, 0, none⟩) n n) := h.m.cell (i := 1) (by omega)
  have c2 : w.cell? ⟨M, 2, none⟩ = some (.slice (some ⟨H, 0, none⟩) n n) := h.m.cell (i := 2) (by omega)
  have cv : w.cell? ⟨M, 3, none⟩ = some v := h.m.cell (i := 3) (by omega)
  have c3 : w.cell? ⟨H, k, none⟩ = some (.bool false) := by rw [← hh]; exact h.h.cell hk
  have f3 := h.h.frozen k
  have c4 := h.a.cell hk
  have f4 := h.a.frozen k
  have fM := h.m.frozen 3
  have hk0 : (0 : Int) ≤ (k : Int) := by omega
  have hk1 : (k : Int) < (n : Int) := by omega
  have eqn := eql_nil
  have mh : ¬ M = H := h.mh
  have hm : ¬ H = M := h.mh.symm
  have ma : ¬ M = A := h.ma
  have am : ¬ A = M := h.ma.symm
  have ah : ¬ A = H := h.ah
  have ha : ¬ H = A := h.ah.symm
  have hsz := h.sz
  have hMB := h.mB
  have hAB := h.aB
  have hnews : ((w.setCell ⟨H, k, none⟩ (.bool true)).alloc (.cells #[.int .i64 ((k : Int) + 1)] 3)).heap[w.heap.size]? = some (.cells #[.int .i64 ((k : Int) + 1)] 3 (0, 0)) := by
    have := heap_alloc_new (w.setCell ⟨H, k, none⟩ (.bool true)) (.cells #[.int .i64 ((k : Int) + 1)] 3)
    rwa [World.size_setCell] at this
  have HN : Hid (_ = _) := hnews
  have HO : Hid (((w.setCell ⟨H, k, none⟩ (.bool true)).alloc (.cells #[.int .i64 ((k : Int) + 1)] 3)).ownsRow B 3 1 v ids.length (ids.map fun (i : Nat) => Value.int .i64 (i : Nat))) := (ownsRow_setCell_below h.own (a := ⟨H, k, none⟩) h.hB _).alloc _
  have hml : ids.length + 1 ≤ maxLen := by unfold maxLen; omega
  have hl2 : (ids.length + 1) * 8 ≤ 140737488355328 := by omega
  have HM : Hid (Ms w N B M A H n all at' has v ids) := h
  clear hnews h hh
  cases x with
  | none =>
    obtain ⟨al, rfl⟩ : ∃ al, all = some al := by
      cases all with
      | none => exact absurd rfl (hx rfl)
      | some al => exact ⟨al, rfl⟩
    have c0' : w.cell? ⟨M, 0, none⟩ = some (.iface 3 (.int .i64 (al : Nat))) := c0
    clear c0
    unfold mv at ⊢
    go_enter Yba.func19, Yba.ntmps19
    go_wp2_with (at_builtin; refine wpList_append_lies _ rfl _ _ _ rfl B 3 i0 _ 1 8 Yba.underlying27 hi0 hz0 hz1 hz2 rfl (by omega) v ids.length (ids.map fun (i : Nat) => Value.int .i64 (i : Nat)) (by rfl) HO.out ⟨w.heap.size, 0, none⟩ 1 1 [.int .i64 ((k : Int) + 1)] (by rfl) (by rfl) (World.news_of_block (cs := #[.int .i64 ((k : Int) + 1)]) (t := 3) (fr := (0, 0)) HN.out) (by simp [Value.oneCell']) (by omega) hml hl2 (by simp; omega) (w.heap.size + 1) (by simp) ?_; intro g cap w1 hown1 hgrow hat hlt1; obtain ⟨d1, d2, d3, d4, d5⟩ := set_facts HM.out hk hgrow)
    go_end0
    have R := set_end none HM.out hgrow hown1
    exact ⟨rfl, ⟨_, R.1⟩, R.2⟩
  | some y =>
    unfold mv at ⊢
    go_enter Yba.func19, Yba.ntmps19
    go_wp2_with (at_builtin; refine wpList_append_lies _ rfl _ _ _ rfl B 3 i0 _ 1 8 Yba.underlying27 hi0 hz0 hz1 hz2 rfl (by omega) v ids.length (ids.map fun (i : Nat) => Value.int .i64 (i : Nat)) (by rfl) HO.out ⟨w.heap.size, 0, none⟩ 1 1 [.int .i64 ((k : Int) + 1)] (by rfl) (by rfl) (World.news_of_block (cs := #[.int .i64 ((k : Int) + 1)]) (t := 3) (fr := (0, 0)) HN.out) (by simp [Value.oneCell']) (by omega) hml hl2 (by simp; omega) (w.heap.size + 1) (by simp) ?_; intro g cap w1 hown1 hgrow hat hlt1; obtain ⟨d1, d2, d3, d4, d5⟩ := set_facts HM.out hk hgrow)
    go_end0
    have R := set_end (some y) HM.out hgrow hown1
    exact ⟨rfl, ⟨_, R.1⟩, R.2⟩
end Go.Proofs.Ybulkahbw
