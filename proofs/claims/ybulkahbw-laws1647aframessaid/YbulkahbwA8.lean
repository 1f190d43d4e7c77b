/-
  Package attack: the arguments of LawS1647AFrames as the walk is told of them.
-/
import Derived.Test.YbulkahbwFr
namespace Go.Proofs.Ybulkahbw
open Go.RowKit Go.Deep

/-- the argument 'steps []ZzS1647AStep' -/
def RowSt (w : World) (a : Option Addr) (len : Nat) (V : Nat → Nat → Nat) : Prop :=
  (∀ i j, V i j < 256) ∧ (len = 0 ∨ ∃ b off, a = some ⟨b, off, none⟩ ∧ b < w.heap.size ∧ ∀ i j, i < len → j < 5 → w.cell? ⟨b, off + i * 5 + j, none⟩ = some (.int .u8 (V i j : Nat)))
/-- the argument 'byz []bool' -/
def RowBo (w : World) (a : Option Addr) (len : Nat) (f : Nat → Bool) : Prop :=
  len = 0 ∨ ∃ b off, a = some ⟨b, off, none⟩ ∧ b < w.heap.size ∧ ∀ i, i < len → w.cell? ⟨b, off + i, none⟩ = some (.bool (f i))
theorem RowSt.fr {w w' : World} {S : Nat → Prop} {a : Option Addr} {len : Nat} {V : Nat → Nat → Nat} (h : RowSt w a len V) (hf : Fr S w w') (hs : ∀ k, S k → w.heap.size ≤ k) : RowSt w' a len V := by
  refine ⟨h.1, ?_⟩
  rcases h.2 with h | ⟨b, off, ha, hlt, hc⟩
  · exact .inl h
  · exact .inr ⟨b, off, ha, Nat.lt_of_lt_of_le hlt hf.size, fun i j hi hj => by rw [hf.cell (p := ⟨b, off + i * 5 + j, none⟩) hlt (fun e => by have := hs b e; omega)]; exact hc i j hi hj⟩

end Go.Proofs.Ybulkahbw
