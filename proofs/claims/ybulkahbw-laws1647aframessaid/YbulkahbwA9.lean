/-
  Package attack: the arguments of LawS1647AFrames as the form reads them, told as the walk is told of them.
-/
import Derived.Test.YbulkahbwRows
import Derived.Test.YbulkahbwA8
import Derived.ProofKit
import Derived.OpenShut
import Derived.Deep.Slices
import Derived.Deep.Strs
namespace Go.Proofs.Ybulkahbw
open Go.ChangeShapes Go.WideShapes Go.ChangeAt Go.RowKit Go.Deep

theorem Yba.cells48f : Yba.prog.cellsOf 48 = 5 := by kernel_rfl
theorem Yba.cells5f : Yba.prog.cellsOf 5 = 1 := by kernel_rfl
theorem Yba.cells4f : Yba.prog.cellsOf 4 = 1 := by kernel_rfl
theorem add_noneF (b off i : Nat) : (⟨b, off, none⟩ : Addr).add i = ⟨b, off + i, none⟩ := by unfold Addr.add; split <;> simp_all

set_option maxRecDepth 100000 in
theorem rowSt_of {H : Type} {enc : TypeId × Value → H} {W : World} {a : Option Addr} {len cap fuel : Nat} {x : DataW H × List MemPlace}
    (h : DataW.trod enc Yba.prog W 0 (fun _ => true) true fuel 23 [.slice a len cap] = some x) : ∃ V, RowSt W a len V := by
  rcases open_slice Yba.underlying23 h with ⟨hcs, _⟩ | ⟨ad, len', cap', m, n, D, Pl, hcs, _, hl, _, hm, _, hx⟩
  · simp at hcs
    obtain ⟨rfl, rfl, rfl⟩ := hcs
    exact ⟨fun _ _ => 0, fun _ _ => show 0 < 256 by decide, .inl rfl⟩
  · simp at hcs
    obtain ⟨rfl, rfl, rfl⟩ := hcs
    simp only [if_true] at hm
    rw [hm, Yba.cells48f] at hx
    clear hm
    have each : ∀ i, i < cap → ∃ V : Nat → Nat, (∀ j, V j < 256) ∧ ∀ j, j < 5 → W.cell? ((ad.add (i * 5)).add j) = some (.int .u8 (V j : Nat)) := by
      intro i hi
      obtain ⟨cs', h1, h2⟩ := hx i hi
      obtain ⟨_, hlen, hcell⟩ := World.cells?_some h1
      obtain ⟨xs, q, _, _, _, hxl, hf⟩ := DataW.trod_struct Yba.underlying48 h2
      match cs', hlen with
      | [c0, c1, c2, c3, c4], _ =>
        have xl : xs.length = 5 := hxl
        have get : ∀ (j : Nat) (c : Value), j < 5 → DataW.trod enc Yba.prog W 0 (fun _ => true) true q 5 [c] = xs[j]? → ∃ v : Nat, v < 256 ∧ c = .int .u8 (v : Nat) := by
          intro j c hj ht
          rw [List.getElem?_eq_getElem (by omega)] at ht
          obtain ⟨n0, e0, _, w0⟩ := DataW.trod_int Yba.underlying5 ht
          have b0 := bounds_u8 w0
          simp at e0
          exact ⟨n0.toNat, by omega, by rw [e0, show ((n0.toNat : Nat) : Int) = n0 from by omega]⟩
        have t0 : DataW.trod enc Yba.prog W 0 (fun _ => true) true q 5 (List.take (Yba.prog.cellsOf 5) (List.drop 0 [c0, c1, c2, c3, c4])) = xs[0]? := hf 0 _ rfl
        have t1 : DataW.trod enc Yba.prog W 0 (fun _ => true) true q 5 (List.take (Yba.prog.cellsOf 5) (List.drop 1 [c0, c1, c2, c3, c4])) = xs[1]? := hf 1 _ rfl
        have t2 : DataW.trod enc Yba.prog W 0 (fun _ => true) true q 5 (List.take (Yba.prog.cellsOf 5) (List.drop 2 [c0, c1, c2, c3, c4])) = xs[2]? := hf 2 _ rfl
        have t3 : DataW.trod enc Yba.prog W 0 (fun _ => true) true q 5 (List.take (Yba.prog.cellsOf 5) (List.drop 3 [c0, c1, c2, c3, c4])) = xs[3]? := hf 3 _ rfl
        have t4 : DataW.trod enc Yba.prog W 0 (fun _ => true) true q 5 (List.take (Yba.prog.cellsOf 5) (List.drop 4 [c0, c1, c2, c3, c4])) = xs[4]? := hf 4 _ rfl
        rw [show Yba.prog.cellsOf 5 = 1 from Yba.cells5f] at t0 t1 t2 t3 t4
        obtain ⟨v0, b0, rfl⟩ := get 0 c0 (by omega) t0
        obtain ⟨v1, b1, rfl⟩ := get 1 c1 (by omega) t1
        obtain ⟨v2, b2, rfl⟩ := get 2 c2 (by omega) t2
        obtain ⟨v3, b3, rfl⟩ := get 3 c3 (by omega) t3
        obtain ⟨v4, b4, rfl⟩ := get 4 c4 (by omega) t4
        refine ⟨fun j => if j = 0 then v0 else if j = 1 then v1 else if j = 2 then v2 else if j = 3 then v3 else if j = 4 then v4 else 0, fun j => ?_, fun j hj => ?_⟩
        · dsimp only
          repeat' split
          all_goals omega
        · match j, hj with
          | 0, _ => exact hcell 0 (by omega)
          | 1, _ => exact hcell 1 (by omega)
          | 2, _ => exact hcell 2 (by omega)
          | 3, _ => exact hcell 3 (by omega)
          | 4, _ => exact hcell 4 (by omega)
    by_cases h0 : len = 0
    · exact ⟨fun _ _ => 0, fun _ _ => show 0 < 256 by decide, .inl h0⟩
    obtain ⟨b, off, spot⟩ := ad
    have hs : spot = none := by
      obtain ⟨V, _, q0⟩ := each 0 (by omega)
      simpa [Addr.add] using World.cell?_spot (q0 0 (by omega))
    subst hs
    obtain ⟨V0, _, q0⟩ := each 0 (by omega)
    have hbl := World.block_lt_of_cell? _ _ (q0 0 (by omega))
    obtain ⟨O, hO⟩ := choose_lt (n := cap) (p := fun i (V : Nat → Nat) => (∀ j, V j < 256) ∧ ∀ j, j < 5 → W.cell? ⟨b, off + i * 5 + j, none⟩ = some (.int .u8 (V j : Nat))) (fun i hi => by
      obtain ⟨V, hV, hc⟩ := each i hi
      refine ⟨V, hV, fun j hj => ?_⟩
      have := hc j hj
      rw [add_noneF, add_noneF] at this
      exact this)
    refine ⟨fun i j => if i < cap then O i j else 0, fun i j => ?_, .inr ⟨b, off, rfl, ?_, fun i j hi hj => ?_⟩⟩
    · by_cases hi : i < cap
      · simp only [if_pos hi]; exact (hO i hi).1 j
      · simp only [if_neg hi]; omega
    · simpa [Addr.add] using hbl
    · have hi' : i < cap := by omega
      simp only [if_pos hi']
      exact (hO i hi').2 j hj

set_option maxRecDepth 100000 in
theorem rowBo_of {H : Type} {enc : TypeId × Value → H} {W : World} {a : Option Addr} {len cap fuel : Nat} {x : DataW H × List MemPlace}
    (h : DataW.trod enc Yba.prog W 0 (fun _ => true) true fuel 22 [.slice a len cap] = some x) : ∃ f, RowBo W a len f := by
  rcases open_slice Yba.underlying22 h with ⟨hcs, _⟩ | ⟨ad, len', cap', m, n, D, Pl, hcs, _, hl, _, hm, _, hx⟩
  · simp at hcs
    obtain ⟨rfl, rfl, rfl⟩ := hcs
    exact ⟨fun _ => false, .inl rfl⟩
  · simp at hcs
    obtain ⟨rfl, rfl, rfl⟩ := hcs
    simp only [if_true] at hm
    rw [hm, Yba.cells4f] at hx
    clear hm
    have each : ∀ i, i < cap → ∃ v : Bool, W.cell? (ad.add (i * 1)) = some (.bool v) := by
      intro i hi
      obtain ⟨cs', h1, h2⟩ := hx i hi
      obtain ⟨_, hlen, hcell⟩ := World.cells?_some h1
      obtain ⟨v, e, _⟩ := DataW.trod_bool Yba.underlying4 h2
      subst e
      have := hcell 0 (by simp)
      exact ⟨v, by simpa [Addr.add] using this⟩
    by_cases h0 : len = 0
    · exact ⟨fun _ => false, .inl h0⟩
    obtain ⟨b, off, spot⟩ := ad
    have hs : spot = none := by
      obtain ⟨v, q0⟩ := each 0 (by omega)
      simpa [Addr.add] using World.cell?_spot q0
    subst hs
    obtain ⟨v0, q0⟩ := each 0 (by omega)
    have hbl := World.block_lt_of_cell? _ _ q0
    obtain ⟨O, hO⟩ := choose_lt (n := cap) (p := fun i (v : Bool) => W.cell? ⟨b, off + i, none⟩ = some (.bool v)) (fun i hi => by
      obtain ⟨v, hv⟩ := each i hi
      rw [add_noneF, Nat.mul_one] at hv
      exact ⟨v, hv⟩)
    refine ⟨O, .inr ⟨b, off, rfl, ?_, fun i hi => hO i (by omega)⟩⟩
    simpa [Addr.add] using hbl
end Go.Proofs.Ybulkahbw
