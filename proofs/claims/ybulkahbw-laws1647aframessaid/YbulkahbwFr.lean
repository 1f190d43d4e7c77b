/-
  'Fr S w w'': the blocks of w are in w' as they were, but for those of which S says yes; new blocks may have come. Laws of the world alone: no program in sight.
-/
import Derived.Below
import Derived.Deep.OwnRows
import Derived.Laws.AppendOwn
import Derived.Deep.Draws
namespace Go.Proofs.Ybulkahbw
open Go.RowKit Go.Deep

structure Fr (S : Nat → Prop) (w w' : World) : Prop where
  os : w'.os = w.os
  tape : w'.tape = w.tape
  output : w'.output = w.output
  size : w.heap.size ≤ w'.heap.size
  block : ∀ k, k < w.heap.size → ¬ S k → w'.heap[k]? = w.heap[k]?

theorem heap_drewN (w : World) (n : Nat) : (w.drewN n).heap = w.heap := rfl
theorem row_drewN {w : World} {b n : Nat} {t : TypeId} {f : Nat → Value} (h : w.rowIs b t n f) (q : Nat) : (w.drewN q).rowIs b t n f := h.of_block rfl
theorem below_drewN' {B : Nat} {a w : World} (h : Below B a w) (q : Nat) : Below B a (w.drewN q) := ⟨h.os, h.tape, h.output, h.size, h.block⟩

namespace Fr
variable {S T : Nat → Prop} {a w w' : World}

theorem refl (S : Nat → Prop) (w : World) : Fr S w w := ⟨rfl, rfl, rfl, Nat.le_refl _, fun _ _ _ => rfl⟩
theorem trans (h : Fr S a w) (k : Fr S w w') : Fr S a w' :=
  ⟨k.os.trans h.os, k.tape.trans h.tape, k.output.trans h.output, Nat.le_trans h.size k.size, fun i hi hs => (k.block i (Nat.lt_of_lt_of_le hi h.size) hs).trans (h.block i hi hs)⟩
/-- what is let go in the second step may lie among the new blocks -/
theorem trans' (h : Fr S a w) (k : Fr T w w') (hT : ∀ i, i < a.heap.size → T i → S i) : Fr S a w' :=
  ⟨k.os.trans h.os, k.tape.trans h.tape, k.output.trans h.output, Nat.le_trans h.size k.size, fun i hi hs => (k.block i (Nat.lt_of_lt_of_le hi h.size) (fun t => hs (hT i hi t))).trans (h.block i hi hs)⟩
theorem mono (h : Fr S w w') (hS : ∀ k, k < w.heap.size → S k → T k) : Fr T w w' := ⟨h.os, h.tape, h.output, h.size, fun k hk hs => h.block k hk (fun s => hs (hS k hk s))⟩
theorem drew (h : Fr S a w) : Fr S a w.drew := ⟨h.os, h.tape, h.output, h.size, h.block⟩
theorem drewN (h : Fr S a w) (q : Nat) : Fr S a (w.drewN q) := ⟨h.os, h.tape, h.output, h.size, h.block⟩
theorem alloc (h : Fr S a w) (o : Obj) : Fr S a (w.alloc o) :=
  h.trans ⟨rfl, rfl, rfl, by simp, fun k hk _ => Below.heap_alloc _ _ _ hk⟩
theorem setCell (h : Fr S a w) {p : Addr} (hp : p.block < a.heap.size → S p.block) (u : Value) : Fr S a (w.setCell p u) :=
  ⟨h.os, h.tape, h.output, by simpa using h.size, fun k hk hs => (Below.heap_setCell w p u k (fun e => hs (by rw [e]; exact hp (by rw [← e]; exact hk)))).trans (h.block k hk hs)⟩
theorem grown {row : Option Nat} (h : Fr S a w) (hg : w.grownBy w' row) (hr : ∀ k, row = some k → k < a.heap.size → S k) : Fr S a w' :=
  h.trans' (T := fun k => row = some k) ⟨hg.os, hg.tape, hg.output, hg.size, fun k hk hs => hg.block k hk (fun e => hs e.symm)⟩ (fun i hi e => hr i e hi)
theorem cell (h : Fr S w w') {p : Addr} (hp : p.block < w.heap.size) (hs : ¬ S p.block) : w'.cell? p = w.cell? p := World.cell?_of_block (w := w) (h.block p.block hp hs)
theorem frozen (h : Fr S w w') {p : Addr} (hp : p.block < w.heap.size) (hs : ¬ S p.block) : w'.frozen? p = w.frozen? p := World.frozen?_of_block (w := w) (h.block p.block hp hs)
theorem row (h : Fr S w w') {b n : Nat} {t : TypeId} {f : Nat → Value} (hr : w.rowIs b t n f) (hs : ¬ S b) : w'.rowIs b t n f := hr.of_block (h.block b hr.lt hs)
theorem below (h : Fr S w w') {B : Nat} (hB : B ≤ w.heap.size) (hs : ∀ k, k < B → ¬ S k) : Below B w w' :=
  ⟨h.os, h.tape, h.output, h.size, fun k hk => h.block k (Nat.lt_of_lt_of_le hk hB) (hs k hk)⟩
theorem ofBelow {B : Nat} (h : Below B w w') : Fr (fun k => B ≤ k) w w' := ⟨h.os, h.tape, h.output, h.size, fun k _ hs => h.block k (by omega)⟩
end Fr
end Go.Proofs.Ybulkahbw
