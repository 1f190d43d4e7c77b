/-
  Package engine: the argument 'ops []ZzS1647COp' as the form reads it, told as the walks are told of it.
-/
import Derived.Test.YbulkahbwC6
import Derived.ProofKit
import Derived.OpenShut
import Derived.Deep.Slices
import Derived.Deep.Strs
namespace Go.Proofs.Ybulkahbw
open Go.ChangeShapes Go.WideShapes Go.ChangeAt Go.RowKit Go.Deep

theorem Yba.cells89 : Yba.prog.cellsOf 89 = 3 := by kernel_rfl
theorem Yba.cells5 : Yba.prog.cellsOf 5 = 1 := by kernel_rfl
theorem Yba.cells3 : Yba.prog.cellsOf 3 = 1 := by kernel_rfl

theorem add_none (b off i : Nat) : (⟨b, off, none⟩ : Addr).add i = ⟨b, off + i, none⟩ := by unfold Addr.add; split <;> simp_all

set_option maxRecDepth 100000 in
theorem rowOp_of {H : Type} {enc : TypeId × Value → H} {W : World} {a : Option Addr} {len cap fuel : Nat} {x : DataW H × List MemPlace}
    (h : DataW.trod enc Yba.prog W 0 (fun _ => true) true fuel 63 [.slice a len cap] = some x) : ∃ O V X, RowOp W a len O V X := by
  rcases open_slice Yba.underlying63 h with ⟨hcs, _⟩ | ⟨ad, len', cap', m, n, D, Pl, hcs, _, hl, _, hm, _, hx⟩
  · simp at hcs
    obtain ⟨rfl, rfl, rfl⟩ := hcs
    exact ⟨fun _ => 0, fun _ => 0, fun _ => 0, fun _ => ⟨show 0 < 256 by decide, show 0 < 256 by decide⟩, .inl rfl⟩
  · simp at hcs
    obtain ⟨rfl, rfl, rfl⟩ := hcs
    simp only [if_true] at hm
    rw [hm, Yba.cells89] at hx
    clear hm
    have each : ∀ i, i < cap → ∃ o v, o < 256 ∧ v < 256 ∧ ∃ y : Int, W.cell? (ad.add (i * 3)) = some (.int .u8 (o : Nat)) ∧ W.cell? ((ad.add (i * 3)).add 1) = some (.int .i64 y) ∧ W.cell? ((ad.add (i * 3)).add 2) = some (.int .u8 (v : Nat)) := by
      intro i hi
      obtain ⟨cs', h1, h2⟩ := hx i hi
      obtain ⟨_, hlen, hcell⟩ := World.cells?_some h1
      obtain ⟨y0, y1, y2, q, _, _, t0, t1, t2⟩ := trod_struct3 Yba.underlying89 h2
      match cs', hlen with
      | [c0, c1, c2], _ =>
        rw [show Yba.prog.cellsOf 5 = 1 from Yba.cells5] at t0 t2
        rw [show Yba.prog.cellsOf 3 = 1 from Yba.cells3] at t1
        obtain ⟨n0, e0, _, w0⟩ := DataW.trod_int Yba.underlying5 t0
        obtain ⟨n1, e1, _, w1⟩ := DataW.trod_int Yba.underlying3 t1
        obtain ⟨n2, e2, _, w2⟩ := DataW.trod_int Yba.underlying5 t2
        have b0 := bounds_u8 w0
        have b2 := bounds_u8 w2
        simp at e0 e1 e2
        subst e0 e1 e2
        refine ⟨n0.toNat, n2.toNat, by omega, by omega, n1, ?_, ?_, ?_⟩
        · have := hcell 0 (by omega)
          rw [show ((n0.toNat : Nat) : Int) = n0 from by omega]
          simpa [Addr.add] using this
        · exact hcell 1 (by omega)
        · have := hcell 2 (by omega)
          rw [show ((n2.toNat : Nat) : Int) = n2 from by omega]
          exact this
    by_cases h0 : len = 0
    · exact ⟨fun _ => 0, fun _ => 0, fun _ => 0, fun _ => ⟨show 0 < 256 by decide, show 0 < 256 by decide⟩, .inl h0⟩
    obtain ⟨b, off, spot⟩ := ad
    have hs : spot = none := by
      obtain ⟨o, v, _, _, y, q0, _⟩ := each 0 (by omega)
      simpa [Addr.add] using World.cell?_spot q0
    subst hs
    obtain ⟨o0, v0, _, _, y0, q0, _⟩ := each 0 (by omega)
    have hbl := World.block_lt_of_cell? _ _ q0
    obtain ⟨O, hO⟩ := choose_lt (n := cap) (p := fun i (t : Nat × Nat × Int) => t.1 < 256 ∧ t.2.1 < 256 ∧ W.cell? ⟨b, off + i * 3, none⟩ = some (.int .u8 (t.1 : Nat)) ∧ W.cell? ⟨b, off + i * 3 + 1, none⟩ = some (.int .i64 t.2.2) ∧ W.cell? ⟨b, off + i * 3 + 2, none⟩ = some (.int .u8 (t.2.1 : Nat))) (fun i hi => by
      obtain ⟨o, v, ho, hv, y, q0, q1, q2⟩ := each i hi
      rw [add_none] at q0 q1 q2
      rw [add_none] at q1 q2
      exact ⟨(o, v, y), ho, hv, q0, q1, q2⟩)
    refine ⟨fun i => if i < cap then (O i).1 else 0, fun i => if i < cap then (O i).2.1 else 0, fun i => (O i).2.2, fun i => ?_, .inr ⟨b, off, rfl, ?_, fun i hi => ?_⟩⟩
    · by_cases hi : i < cap
      · simp only [if_pos hi]; exact ⟨(hO i hi).1, (hO i hi).2.1⟩
      · simp only [if_neg hi]; exact ⟨by omega, by omega⟩
    · simpa [Addr.add] using hbl
    · have hi' : i < cap := by omega
      simp only [if_pos hi']
      exact (hO i hi').2.2
end Go.Proofs.Ybulkahbw
