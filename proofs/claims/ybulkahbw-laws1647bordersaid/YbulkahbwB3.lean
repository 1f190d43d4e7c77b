import Derived.Test.YbulkahbwB2
import Derived.StillTactics
import Derived.OwnWalk
import Derived.Laws.Pointers
import Derived.Deep.RegionHeld3
import Derived.Deep.AppendLies
import Derived.Deep.RegionLaw
import Derived.Deep.DrawnRows
namespace Go.Proofs.Ybulkahbw
open Go.RowKit Go.Deep
theorem Yba.info86 : (Yba.prog.info? 86).map (fun i => (i.zero, i.size, i.bytes)) = some (some (.agg #[.string ⟨#[]⟩, .slice none 0 0, .string ⟨#[]⟩, .slice none 0 0]), 4, 80) := by kernel_rfl
theorem Yba.info125 : (Yba.prog.info? 125).map (fun i => (i.zero, i.size, i.bytes)) = some (some (.agg #[.slice none 0 0, .pointer none, .pointer none]), 3, 40) := by kernel_rfl

def mkz (q : Nat) : Array Value := madeCells #[.slice none 0 0, .pointer none, .pointer none] (q * 3)
theorem mk_axis (z : Nat) (w : World) : (Instr.makeSlice 83 (.int .i64 (IntKind.i64.wrap ((z : Int).tmod 4))) (.int .i64 (IntKind.i64.wrap ((z : Int).tmod 4)))).run Yba.prog w
    = .ok (.slice (some ⟨w.heap.size, 0, none⟩) (z % 4) (z % 4)) (w.alloc (.cells (mkz (z % 4)) 125)) := by
  obtain ⟨i0, hi, hz0, hz1, hz2⟩ := info_parts Yba.info125
  have e : IntKind.i64.wrap ((z : Int).tmod 4) = ((z % 4 : Nat) : Int) := by
    rw [Int.tmod_eq_emod_of_nonneg (by omega), IntKind.wrap_i64]; omega
  rw [e]
  have := run_make (P := Yba.prog) w 83 125 i0 _ Yba.underlying83 hi hz0 .i64 .i64 ((z % 4 : Nat) : Int) ((z % 4 : Nat) : Int) (by omega) (by omega) (by rw [hz2]; omega) (by omega)
  rw [this, hz1]
  simp only [Int.toNat_natCast]
  rfl

/-- the cells of an axis whose values lie in block b -/
def axisCells (b q : Nat) : List Value := [.string ⟨#[]⟩, .slice none 0 0, .string ⟨#[]⟩, .slice (some ⟨b, 0, none⟩) q q]

/-- what the Sweep's four cells hold -/
def swpCells (v : Value) (j : Nat) : Value := if j = 0 then .pointer none else if j = 1 then .map none else if j = 2 then .slice none 0 0 else v
theorem own_ne {wr : World} {N : Nat} {v : Value} {k : Nat} {xs : List Value} (hown : wr.ownsRow (N + 1) 86 4 v k xs) (j : Nat) (hj : j ≤ N) : v.ownBlock ≠ some j := by
  intro e
  rcases hown.2 with ⟨rfl, _⟩ | ⟨g, cap', cur, rfl, hb, _⟩
  · simp [Value.ownBlock] at e
  · simp [Value.ownBlock] at e; omega
theorem sweep_step {w wr w1 : World} {v v' : Value} {k m : Nat} {xs ys : List Value} {o1 o2 : Obj} (hrow : wr.rowIs w.heap.size 82 4 (swpCells v)) (hown : wr.ownsRow (w.heap.size + 1) 86 4 v k xs) (hfr : Fr (fun _ => False) w wr)
    (hgrow : ((wr.alloc o1).alloc o2).drew.grownBy w1 v.ownBlock) (hown1 : w1.ownsRow (w.heap.size + 1) 86 4 v' m ys) :
    (w1.setCell ⟨w.heap.size, 3, none⟩ v').rowIs w.heap.size 82 4 (swpCells v') ∧ (w1.setCell ⟨w.heap.size, 3, none⟩ v').ownsRow (w.heap.size + 1) 86 4 v' m ys ∧ Fr (fun _ => False) w (w1.setCell ⟨w.heap.size, 3, none⟩ v') := by
  have hsz := hrow.lt
  have r1 : w1.rowIs w.heap.size 82 4 (swpCells v) := by
    refine (((hrow.alloc o1).alloc o2).drew).of_block (hgrow.block _ (by simp; omega) ?_)
    exact (own_ne hown _ (Nat.le_refl _)).symm
  refine ⟨(r1.set 3 v').congr (fun i hi => ?_), ownsRow_setCell_below hown1 (by simp) _, ?_⟩
  · match i, hi with
    | 0, _ => rfl
    | 1, _ => rfl
    | 2, _ => rfl
    | 3, _ => rfl
  · refine Fr.setCell ((((hfr.alloc o1).alloc o2).drew).grown hgrow (fun j hj hl => own_ne hown j (by omega) hj)) (fun h => ?_) _
    exact absurd h (Nat.lt_irrefl _)

/-- what zzs1647bsweep leaves: the sweep at the block S -/
def SwpMade (w' : World) (S : Nat) (n : Nat) (Z : Nat → Nat) : Prop :=
  ∃ ao cap G, w'.cell? ⟨S, 3, none⟩ = some (.slice ao n cap) ∧ (n = 0 ∨ ao = some ⟨G, 0, none⟩) ∧ S < w'.heap.size ∧ S ≤ G ∧ G < w'.heap.size ∧
    ∀ i, i < n → ∃ vo vc, w'.cell? ⟨G, i * 4 + 3, none⟩ = some (.slice vo (Z i % 4) vc)

set_option maxRecDepth 100000 in
set_option maxHeartbeats 800000 in
theorem sweep_any (a : Option Addr) (len cap : Nat) (Z : Nat → Nat) (w : World) (hlen : len ≤ 1024) (h : Row8 w a len Z) :
    Calls Yba.prog 11 #[.slice a len cap] w fun e w' => e = .returned (.pointer (some ⟨w.heap.size, 0, none⟩)) ∧ SwpMade w' w.heap.size len Z ∧ Fr (fun _ => False) w w' := by
  obtain ⟨i0, hi0, hz0, hz1, hz2⟩ := info_parts Yba.info86
  go_enter Yba.func11, Yba.ntmps11
  go_wp2
  go_loopg [10] len (fun g i wr => ∃ (k : Nat) (v : Value) (xs : List Value), g = len - k ∧ k ≤ len ∧ i = .int .i64 k ∧ wr.rowIs w.heap.size 82 4 (swpCells v)
    ∧ wr.ownsRow (w.heap.size + 1) 86 4 v k xs ∧ xs.length = k * 4 ∧ (∀ j, j < k → ∃ b, xs[j * 4 + 3]? = some (.slice (some ⟨b, 0, none⟩) (Z j % 4) (Z j % 4))) ∧ Fr (fun _ => False) w wr)
  case atStart =>
    refine ⟨0, .slice none 0 0, [], by omega, by omega, rfl, (World.rowIs_alloc w #[.pointer none, .map none, .slice none 0 0, .slice none 0 0] 82 _ (fun i hi => ?_)), ?_, rfl, fun j hj => by omega, (Fr.refl _ _).alloc _⟩
    · match i, hi with
      | 0, _ => rfl
      | 1, _ => rfl
      | 2, _ => rfl
      | 3, _ => rfl
    · exact ⟨by simp, .inl ⟨rfl, rfl⟩⟩
  case round =>
    obtain ⟨k, v, xs, rfl, hk, rfl, hrow, hown, hxl, hxs, hfr⟩ := hrel
    by_cases hlt : k < len
    · have h' := h.below (hfr.below (Nat.le_refl _) (fun _ _ => id))
      rcases h'.2 with h'' | ⟨b, off, rfl, hbl, hc⟩
      · omega
      have hck := hc k hlt
      have hzk := h.1 k
      have hmk := mk_axis (Z k)
      have hsz := hrow.lt
      have c3 : wr.cell? ⟨w.heap.size, 3, none⟩ = some v := by simpa [swpCells] using hrow.cell (i := 3) (by omega)
      have f3 := hrow.frozen 3
      clear hc
      have hne : v.ownBlock ≠ some w.heap.size := by
        intro e
        rcases hown.2 with ⟨rfl, _⟩ | ⟨g, cap', cur, rfl, hb, _⟩
        · simp [Value.ownBlock] at e
        · simp [Value.ownBlock] at e; omega
      have hn1 : k + 1 ≤ maxLen := by unfold maxLen; omega
      have hsm : w.heap.size < wr.heap.size := hsz
      have hblk : ((wr.alloc (.cells (mkz (Z k % 4)) 125)).alloc (.cells (axisCells wr.heap.size (Z k % 4)).toArray 86)).drew.heap[wr.heap.size + 1]? = some (.cells (axisCells wr.heap.size (Z k % 4)).toArray 86 (0, 0)) := by
        have := heap_alloc_new (wr.alloc (.cells (mkz (Z k % 4)) 125)) (.cells (axisCells wr.heap.size (Z k % 4)).toArray 86)
        rw [World.size_alloc] at this
        exact this
      have HB : Hid (_ = _) := hblk
      have hfz2 : ((wr.alloc (.cells (mkz (Z k % 4)) 125)).alloc (.cells (axisCells wr.heap.size (Z k % 4)).toArray 86)).drew.frozen? ⟨w.heap.size, 3, none⟩ = false := by
        rw [World.frozen?_drew, World.frozen?_alloc_old _ _ _ (by simp; omega), World.frozen?_alloc_old _ _ _ (by simp; omega)]
        exact f3
      have HZ : Hid (_ = _) := hfz2
      clear hfz2
      have hcl2 : ((wr.alloc (.cells (mkz (Z k % 4)) 125)).alloc (.cells (axisCells wr.heap.size (Z k % 4)).toArray 86)).drew.cell? ⟨w.heap.size, 3, none⟩ = some v := by
        rw [World.cell?_drew, World.cell?_alloc_old _ _ _ (by simp; omega), World.cell?_alloc_old _ _ _ (by simp; omega)]
        exact c3
      have HC : Hid (_ = _) := hcl2
      clear hcl2
      clear hblk
      have hx1 : ¬ w.heap.size = wr.heap.size := by omega
      have hx2 : ¬ w.heap.size = wr.heap.size + 1 := by omega
      go_wp2
      go_region_law
        ((refine step_append_lies _ (by rfl) _ _ _ (by rfl) (w.heap.size + 1) 86 i0 _ 4 80 Yba.underlying80 hi0 hz0 hz1 hz2 rfl (by omega) v k xs (by rfl) (((hown.alloc _).alloc _).drew) ⟨wr.heap.size + 1, 0, none⟩ 1 1 (axisCells wr.heap.size (Z k % 4)) (by rfl) (by rfl) (World.news_of_block (cs := (axisCells wr.heap.size (Z k % 4)).toArray) (t := 86) (fr := (0, 0)) HB.out) (by simp [Value.oneCell', axisCells]) (by omega) hn1 (by omega) (by simp; omega) (wr.heap.size + 2) (by simp) ?_;intro gg cap' w1 hown1 hgrow hat hlt1; have hfz1 : w1.frozen? ⟨w.heap.size, 3, none⟩ = false := (hgrow.frozen_far _ (by simp; omega) (Ne.symm hne)).trans HZ.out; have hcl1 : w1.cell? ⟨w.heap.size, 3, none⟩ = some v := (hgrow.cell_far _ (by simp; omega) (Ne.symm hne)).trans HC.out))
      all_goals
        have R := sweep_step hrow hown hfr hgrow hown1
        have RE : ∀ j, j < k + 1 → ∃ b, (xs ++ axisCells wr.heap.size (Z k % 4))[j * 4 + 3]? = some (.slice (some ⟨b, 0, none⟩) (Z j % 4) (Z j % 4)) := by
          intro j hj
          by_cases hjk : j < k
          · rw [List.getElem?_append_left (by omega)]; exact hxs j hjk
          · obtain rfl : j = k := by omega
            rw [List.getElem?_append_right (by omega), hxl, show j * 4 + 3 - j * 4 = 3 from by omega]
            exact ⟨_, rfl⟩
        have HR : Hid (_ ∧ _ ∧ _) := R
        clear R hgrow hown1 hfr hown hrow hat hlt1 hfz1 hcl1 hmk HB HZ HC hck c3 f3
        go_wp2
        go_roundg (len - (k + 1))
        case measure => omega
        case rel => exact ⟨k + 1, _, _, rfl, by omega, by go_num, HR.out.1, HR.out.2.1, by simp [axisCells, hxl]; omega, RE, HR.out.2.2⟩
    · obtain rfl : k = len := by omega
      have M : SwpMade wr w.heap.size k Z := by
        have c3 : wr.cell? ⟨w.heap.size, 3, none⟩ = some v := by simpa [swpCells] using hrow.cell (i := 3) (by omega)
        rcases hown.2 with ⟨rfl, rfl⟩ | ⟨g, cap', cur, rfl, hb, hg, hkc, hcm, hcs, htk⟩
        · exact ⟨none, 0, w.heap.size, c3, .inl rfl, hrow.lt, Nat.le_refl _, hrow.lt, fun i hi => by omega⟩
        · refine ⟨_, cap', g, c3, .inr rfl, hrow.lt, by omega, lt_of_block hg, fun i hi => ?_⟩
          obtain ⟨b, hb'⟩ := hxs i hi
          refine ⟨some ⟨b, 0, none⟩, Z i % 4, ?_⟩
          simp only [World.cell?, hg]
          rw [← htk, List.getElem?_take_of_lt (by omega)] at hb'
          simpa using hb'
      clear hxs hown hrow
      go_wp2
      go_ret
      exact ⟨rfl, M, hfr⟩
end Go.Proofs.Ybulkahbw
