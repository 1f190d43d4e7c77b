/-
  Package server: the argument 'in ZzS1651CFrame' as the form reads it, told as the walk is told of it.
-/
import Derived.Test.YbulkaheaW5
import Derived.ProofKit
import Derived.OpenShut
import Derived.ShutString
namespace Go.Proofs.Ybulkahea
open Go.ChangeShapes Go.WideShapes Go.ChangeAt Go.RowKit Go.Deep

theorem array7 {cs : Array Value} (h : cs.size = 7) : ∃ c0 c1 c2 c3 c4 c5 c6, cs = #[c0, c1, c2, c3, c4, c5, c6] := by
  obtain ⟨l⟩ := cs
  match l, h with
  | [c0, c1, c2, c3, c4, c5, c6], _ => exact ⟨c0, c1, c2, c3, c4, c5, c6, rfl⟩
theorem Yba.cells30 : Yba.prog.cellsOf 30 = 7 := by kernel_rfl
theorem Yba.cells2 : Yba.prog.cellsOf 2 = 1 := by kernel_rfl
theorem Yba.cells3 : Yba.prog.cellsOf 3 = 1 := by kernel_rfl
theorem Yba.cells4 : Yba.prog.cellsOf 4 = 1 := by kernel_rfl
theorem Yba.cells5 : Yba.prog.cellsOf 5 = 1 := by kernel_rfl
theorem Yba.cells9 : Yba.prog.cellsOf 9 = 1 := by kernel_rfl
theorem Yba.cells28 : Yba.prog.cellsOf 28 = 1 := by kernel_rfl
theorem add_none (b off i : Nat) : (⟨b, off, none⟩ : Addr).add i = ⟨b, off + i, none⟩ := by unfold Addr.add; split <;> simp_all

theorem row8_of {H : Type} {enc : TypeId × Value → H} {W : World} {a : Option Addr} {len cap fuel : Nat} {x : DataW H × List MemPlace}
    (h : DataW.trod enc Yba.prog W 0 (fun _ => true) true fuel 28 [.slice a len cap] = some x) : ∃ Z, Row8 W a len Z := by
  rcases open_ints Yba.underlying28 Yba.underlying5 Yba.cells5 h with ⟨hcs, _⟩ | ⟨ad, l, c, zs, hcs, _, hl, hm, hz, _, hcell, hwz⟩
  · simp at hcs
    obtain ⟨rfl, rfl, rfl⟩ := hcs
    exact ⟨fun _ => 0, fun _ => show 0 < 256 by decide, .inl rfl⟩
  · simp at hcs
    obtain ⟨rfl, rfl, rfl⟩ := hcs
    have hz' : zs.length = cap := by simpa using hz
    have hb : ∀ i, 0 ≤ zs.getD i 0 ∧ zs.getD i 0 ≤ 255 := by
      intro i
      by_cases hi : i < zs.length
      · simp only [List.getD_eq_getElem?_getD, List.getElem?_eq_getElem hi, Option.getD_some]; exact bounds_u8 (hwz _ (List.getElem_mem hi))
      · simp only [List.getD_eq_getElem?_getD, List.getElem?_eq_none (Nat.le_of_not_lt hi), Option.getD_none]; omega
    refine ⟨fun i => (zs.getD i 0).toNat, fun i => by have := hb i; show (zs.getD i 0).toNat < 256; omega, ?_⟩
    by_cases h0 : len = 0
    · exact .inl h0
    obtain ⟨b, off, spot⟩ := ad
    have hs : spot = none := by simpa [Addr.add] using World.cell?_spot (hcell 0 (by omega))
    subst hs
    refine .inr ⟨b, off, rfl, World.block_lt_of_cell? _ _ (hcell 0 (by omega)), fun i hi => ?_⟩
    have := hcell i (by omega)
    rw [add_none] at this
    rw [show ((zs.getD i 0).toNat : Int) = zs.getD i 0 from by have := hb i; omega]
    exact this

set_option maxRecDepth 100000 in
theorem in_of {H : Type} {enc : TypeId × Value → H} {W : World} {r : Reach} {b0 : Nat} {v : Value} {d : DataW H} {p : List MemPlace} (hv : Value.okWide Yba.prog W r b0 30 v)
    (h : DataW.Trod enc Yba.prog W 0 (fun _ => true) true 30 v d p) :
    ∃ b10 hosts host L hl nilc a len cap Z, v = .agg #[.bool b10, .int .i64 hosts, .string host, .int .i64 L, .bool hl, .bool nilc, .slice a len cap] ∧ Row8 W a len Z := by
  obtain ⟨cs, rfl, hsz⟩ := okWide_struct Yba.underlying30 hv
  obtain ⟨c0, c1, c2, c3, c4, c5, c6, rfl⟩ := array7 (hsz.trans Yba.cells30)
  obtain ⟨fuel, hf⟩ := h
  obtain ⟨xs, n, _, _, _, hlen, hall⟩ := DataW.trod_struct Yba.underlying30 hf
  have hx : ∀ i, i < 7 → ∃ y, xs[i]? = some y := fun i hi => ⟨xs[i]'(by simp at hlen; omega), List.getElem?_eq_getElem _⟩
  obtain ⟨y0, e0⟩ := hx 0 (by omega)
  obtain ⟨y1, e1⟩ := hx 1 (by omega)
  obtain ⟨y2, e2⟩ := hx 2 (by omega)
  obtain ⟨y3, e3⟩ := hx 3 (by omega)
  obtain ⟨y4, e4⟩ := hx 4 (by omega)
  obtain ⟨y5, e5⟩ := hx 5 (by omega)
  obtain ⟨y6, e6⟩ := hx 6 (by omega)
  have t0 : DataW.trod enc Yba.prog W 0 (fun _ => true) true n 4 [c0] = some y0 := by
    have := (hall 0 _ rfl).trans e0
    simpa [Yba.cells4, Value.cells] using this
  have t1 : DataW.trod enc Yba.prog W 0 (fun _ => true) true n 3 [c1] = some y1 := by
    have := (hall 1 _ rfl).trans e1
    simpa [Yba.cells3, Value.cells] using this
  have t2 : DataW.trod enc Yba.prog W 0 (fun _ => true) true n 9 [c2] = some y2 := by
    have := (hall 2 _ rfl).trans e2
    simpa [Yba.cells9, Value.cells] using this
  have t3 : DataW.trod enc Yba.prog W 0 (fun _ => true) true n 2 [c3] = some y3 := by
    have := (hall 3 _ rfl).trans e3
    simpa [Yba.cells2, Value.cells] using this
  have t4 : DataW.trod enc Yba.prog W 0 (fun _ => true) true n 4 [c4] = some y4 := by
    have := (hall 4 _ rfl).trans e4
    simpa [Yba.cells4, Value.cells] using this
  have t5 : DataW.trod enc Yba.prog W 0 (fun _ => true) true n 4 [c5] = some y5 := by
    have := (hall 5 _ rfl).trans e5
    simpa [Yba.cells4, Value.cells] using this
  have t6 : DataW.trod enc Yba.prog W 0 (fun _ => true) true n 28 [c6] = some y6 := by
    have := (hall 6 _ rfl).trans e6
    simpa [Yba.cells28, Value.cells] using this
  clear hall hx hlen hf
  obtain ⟨b10, q0, _⟩ := DataW.trod_bool Yba.underlying4 t0
  obtain ⟨hosts, q1, _, _⟩ := DataW.trod_int Yba.underlying3 t1
  obtain ⟨host, q2, _⟩ := DataW.trod_string Yba.underlying9 t2
  obtain ⟨L, q3, _, _⟩ := DataW.trod_int Yba.underlying2 t3
  obtain ⟨hl, q4, _⟩ := DataW.trod_bool Yba.underlying4 t4
  obtain ⟨nilc, q5, _⟩ := DataW.trod_bool Yba.underlying4 t5
  simp at q0 q1 q2 q3 q4 q5
  subst q0 q1 q2 q3 q4 q5
  obtain ⟨a, len, cap, rfl⟩ : ∃ a len cap, c6 = .slice a len cap := by
    rcases open_ints Yba.underlying28 Yba.underlying5 Yba.cells5 t6 with ⟨hcs, _⟩ | ⟨ad, l, c, zs, hcs, _⟩
    · simp at hcs; exact ⟨_, _, _, hcs⟩
    · simp at hcs; exact ⟨_, _, _, hcs⟩
  obtain ⟨Z, hr⟩ := row8_of t6
  exact ⟨b10, hosts, host, L, hl, nilc, a, len, cap, Z, rfl, hr⟩
end Go.Proofs.Ybulkahea
