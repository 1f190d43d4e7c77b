/-
  Package engine: Messages as they lie in memory; the walks of NewMessages and zzs1647cmsg.
-/
import Derived.Test.YbulkahbwRows
import Derived.Test.YbulkahbwFr
import Derived.WalkKit
import Derived.WalkSpells
import Derived.OwnWalk
import Derived.Outline
import Derived.RegionTactic
import Derived.Deep.LoopGhost
import Derived.Lib.SliceRun
import Derived.Lib.IfaceEq
import Derived.Lib.IfaceNeq
import Derived.Deep.AppendLies
namespace Go.Proofs.Ybulkahbw
open Go.RowKit Go.Deep

/-- a message: nil, or an int -/
def mv : Option Nat → Value
  | none => .nilIface
  | some k => .iface 3 (.int .i64 (k : Nat))

/-- what the six cells of a Messages hold -/
def msCells (all : Option Nat) (A H n : Nat) (v : Value) (j : Nat) : Value :=
  if j = 0 then mv all else if j = 1 then .slice (some ⟨A, 0, none⟩) n n else if j = 2 then .slice (some ⟨H, 0, none⟩) n n else if j = 3 then v else .pointer none

/-- Messages as they lie in memory: the struct in block M, 'at' in A, 'has' in H, 'ids' the value v, which owns a row behind B. -/
structure Ms (w : World) (N B M A H n : Nat) (all : Option Nat) (at' : Nat → Option Nat) (has : Nat → Bool) (v : Value) (ids : List Nat) : Prop where
  m : w.rowIs M 70 6 (msCells all A H n v)
  a : w.rowIs A 66 n (fun i => mv (at' i))
  h : w.rowIs H 4 n (fun i => .bool (has i))
  own : w.ownsRow B 3 1 v ids.length (ids.map fun (i : Nat) => Value.int .i64 (i : Nat))
  ma : M ≠ A
  mh : M ≠ H
  ah : A ≠ H
  mB : M < B
  aB : A < B
  hB : H < B
  nM : N ≤ M
  nA : N ≤ A
  nH : N ≤ H
  sz : B ≤ w.heap.size

theorem Yba.info3c : (Yba.prog.info? 3).map (fun i => (i.zero, i.size, i.bytes)) = some (some (.int .i64 0), 1, 8) := by kernel_rfl
theorem Yba.info66 : (Yba.prog.info? 66).map (fun i => (i.zero, i.size, i.bytes)) = some (some .nilIface, 1, 16) := by kernel_rfl
theorem Yba.info4 : (Yba.prog.info? 4).map (fun i => (i.zero, i.size, i.bytes)) = some (some (.bool false), 1, 1) := by kernel_rfl

/-- zzs1647cmsg. -/
def msgOf (z : Nat) : Option Nat := if z = 0 then none else some z
theorem msg_any (z : Nat) (hz : z < 256) (w : World) : Calls Yba.prog 24 #[.int .u8 z] w fun e w' => e = .returned (mv (msgOf z)) ∧ w' = w := by
  by_cases h : z = 0
  · subst h
    go_enter Yba.func24, Yba.ntmps24
    go_wp2
    go_ret
    exact ⟨rfl, rfl⟩
  · have e : msgOf z = some z := by simp [msgOf, h]
    rw [e]
    have h' : ((z : Int) == 0) = false := beq_eq_false_iff_ne.2 (by omega)
    go_enter Yba.func24, Yba.ntmps24
    go_wp2
    go_ret
    exact ⟨rfl, rfl⟩

theorem made2 (w : World) (z1 z2 : Value) (t1 t2 : TypeId) (n : Nat) (cs : Array Value) :
    ((((w.alloc (.cells (madeCells #[z1] n) t1)).alloc (.cells (madeCells #[z2] n) t2)).alloc (.cells cs 70)).drew).rowIs w.heap.size t1 n (fun _ => z1) ∧
    ((((w.alloc (.cells (madeCells #[z1] n) t1)).alloc (.cells (madeCells #[z2] n) t2)).alloc (.cells cs 70)).drew).rowIs (w.heap.size + 1) t2 n (fun _ => z2) := by
  refine ⟨(((World.rowIs_made w z1 n t1).alloc _).alloc _).drew, ?_⟩
  have := ((World.rowIs_made (w.alloc (.cells (madeCells #[z1] n) t1)) z2 n t2).alloc (.cells cs 70)).drew
  rwa [World.size_alloc] at this
theorem made3 (w : World) (o1 o2 : Obj) (A H n : Nat) :
    (((w.alloc o1).alloc o2).alloc (.cells #[.nilIface, .slice (some ⟨A, 0, none⟩) n n, .slice (some ⟨H, 0, none⟩) n n, .slice none 0 0, .pointer none, .pointer none] 70)).drew.rowIs (w.heap.size + 2) 70 6 (msCells none A H n (.slice none 0 0)) := by
  have := (World.rowIs_alloc ((w.alloc o1).alloc o2) #[.nilIface, .slice (some ⟨A, 0, none⟩) n n, .slice (some ⟨H, 0, none⟩) n n, .slice none 0 0, .pointer none, .pointer none] 70 (msCells none A H n (.slice none 0 0)) (fun i hi => by
    match i, hi with
    | 0, _ => rfl
    | 1, _ => rfl
    | 2, _ => rfl
    | 3, _ => rfl
    | 4, _ => rfl
    | 5, _ => rfl)).drew
  rwa [World.size_alloc, World.size_alloc] at this

set_option maxHeartbeats 800000 in
/-- NewMessages. -/
theorem new_any (n : Nat) (hn : n ≤ 40) (w : World) : Calls Yba.prog 23 #[.int .i64 n] w fun e w' => e = .returned (.pointer (some ⟨w.heap.size + 2, 0, none⟩)) ∧
    ∃ A H, Ms w' w.heap.size (w.heap.size + 3) (w.heap.size + 2) A H n none (fun _ => none) (fun _ => false) (.slice none 0 0) [] ∧ Fr (fun _ => False) w w' := by
  have hmk := run_make_row' (P := Yba.prog) 67 66 .nilIface 16 Yba.underlying67 Yba.info66 rfl .i64 .i64 n (by omega) (by omega)
  have hmk2 := run_make_row' (P := Yba.prog) 22 4 (.bool false) 1 Yba.underlying22 Yba.info4 rfl .i64 .i64 n (by omega) (by omega)
  go_enter Yba.func23, Yba.ntmps23
  go_wp2
  go_region
  all_goals go_wp2
  all_goals go_ret
  · obtain ⟨r1, r2⟩ := made2 w .nilIface (.bool false) 66 4 n #[.nilIface, .slice (some ⟨w.heap.size, 0, none⟩) n n, .slice (some ⟨w.heap.size + 1, 0, none⟩) n n, .slice none 0 0, .pointer none, .pointer none]
    exact ⟨rfl, w.heap.size, w.heap.size + 1, ⟨made3 _ _ _ _ _ _, r1, r2, ⟨by simp, .inl ⟨rfl, rfl⟩⟩, by omega, by omega, by omega, by omega, by omega, by omega, by omega, by omega, by omega, by simp⟩, ((((Fr.refl _ w).alloc _).alloc _).alloc _).drew⟩
  · obtain ⟨r1, r2⟩ := made2 w (.bool false) .nilIface 4 66 n #[.nilIface, .slice (some ⟨w.heap.size + 1, 0, none⟩) n n, .slice (some ⟨w.heap.size, 0, none⟩) n n, .slice none 0 0, .pointer none, .pointer none]
    exact ⟨rfl, w.heap.size + 1, w.heap.size, ⟨made3 _ _ _ _ _ _, r2, r1, ⟨by simp, .inl ⟨rfl, rfl⟩⟩, by omega, by omega, by omega, by omega, by omega, by omega, by omega, by omega, by omega, by simp⟩, ((((Fr.refl _ w).alloc _).alloc _).alloc _).drew⟩
end Go.Proofs.Ybulkahbw
