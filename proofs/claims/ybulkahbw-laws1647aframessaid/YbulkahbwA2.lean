/-
  Package attack: the walk of (*frame).enter.
-/
import Derived.Test.YbulkahbwRows
import Derived.Test.YbulkahbwA1
import Derived.WalkKit
import Derived.WalkSpells
import Derived.OwnWalk
import Derived.Outline
import Derived.RegionTactic
import Derived.Deep.LoopGhost
import Derived.Lib.SliceRun
import Derived.BigQuiet
import Derived.Deep.QuietTactic
import Derived.Deep.RegionHeld3
namespace Go.Proofs.Ybulkahbw
open Go.RowKit Go.Deep

/-- the form of a list's value -/
theorem own_form {w : World} {v : Value} {l : List Nat} (h : w.ownsRow 0 3 1 v l.length (ints l)) : ∃ ao cap, v = .slice ao l.length cap ∧ ((ao = none ∧ cap = 0 ∧ l = []) ∨ ∃ g, ao = some ⟨g, 0, none⟩ ∧ l.length ≤ cap ∧ cap ≤ maxLen) := by
  rcases h.2 with ⟨rfl, h0⟩ | ⟨g, cap, cur, rfl, _, _, hk, hm, _⟩
  · have : l = [] := List.eq_nil_of_length_eq_zero h0
    subst this
    exact ⟨none, 0, rfl, .inl ⟨rfl, rfl, rfl⟩⟩
  · exact ⟨_, _, rfl, .inr ⟨g, rfl, hk, hm⟩⟩
theorem cut_run (ao : Option Addr) (k cap : Nat) (h : (ao = none ∧ cap = 0 ∧ k = 0) ∨ ∃ g, ao = some ⟨g, 0, none⟩ ∧ k ≤ cap ∧ cap ≤ maxLen) (w : World) : (Instr.slice 27 (.slice ao k cap) none (some (.int .i64 0)) none).run Yba.prog w = .ok (.slice ao 0 cap) w := by
  rcases h with ⟨rfl, rfl, rfl⟩ | ⟨g, rfl, h1, h2⟩
  · kernel_rfl
  · unfold maxLen at h2
    go_simp

/-- the state at the loop's head -/
theorem enter_start {n p : Nat} {ft : Nat → Prop} {F0 L0 bd0 F L bd : Nat} {ha ba : Option Addr} {hk hc bk bc : Nat} {cv gv : Value} {hl bl : List Nat} {cam : Nat → Bool} {w : World} (h : FrRaw w n p ft F0 L0 bd0 (.slice ha hk hc) (.slice ba bk bc) cv gv hl bl cam) (hft : ∀ k, ft k → k < w.heap.size)
    (h1 : w.ownsRow 0 3 1 (.slice ha 0 hc) 0 []) (h2 : w.ownsRow 0 3 1 (.slice ba 0 bc) 0 []) (W : World)
    (hW : W = ((((((w.setCell ⟨p, 0, none⟩ (.int .i64 (F : Nat))).setCell ⟨p, 1, none⟩ (.int .i64 (L : Nat))).setCell ⟨p, 2, none⟩ (.int .i64 (bd : Nat))).setCell ⟨p, 3, none⟩ (.slice ha 0 hc)).setCell ⟨p, 4, none⟩ (.slice ba 0 bc)).alloc (.cells #[.int .i64 (F : Nat), .int .i64 (L : Nat)] 26)).drew) :
    FrRaw W n p (fun k => ft k ∨ w.heap.size ≤ k) F L bd (.slice ha 0 hc) (.slice ba 0 bc) cv gv [] [] cam ∧ W.rowIs w.heap.size 26 2 (fun j => if j = 0 then .int .i64 (F : Nat) else .int .i64 (L : Nat)) ∧ Fr ft w W := by
  have o1 : ∀ (x : World) (v : Value) (xs : List Value) (k j : Nat) (y : Value), x.ownsRow 0 3 1 v k xs → v.ownBlock ≠ some p → (x.setCell ⟨p, j, none⟩ y).ownsRow 0 3 1 v k xs := fun x v xs k j y hx hne => ownsRow_setCell_other hx (a := ⟨p, j, none⟩) hne y
  have eh : (Value.slice ha 0 hc).ownBlock = (Value.slice ha hk hc).ownBlock := by cases ha <;> rfl
  have eb : (Value.slice ba 0 bc).ownBlock = (Value.slice ba bk bc).ownBlock := by cases ba <;> rfl
  have nh := own_ne_row h1 h.row (by decide)
  have nb := own_ne_row h2 h.row (by decide)
  have s0 := h.cell (F' := F) (L' := L0) (bd' := bd0) (gv' := gv) 0 (.int .i64 (F : Nat)) (fun i _ => frCells_set0 _ _ _ _ _ _ _ _ i)
  have s1 := s0.cell (F' := F) (L' := L) (bd' := bd0) (gv' := gv) 1 (.int .i64 (L : Nat)) (fun i _ => frCells_set1 _ _ _ _ _ _ _ _ i)
  have s2 := s1.cell (F' := F) (L' := L) (bd' := bd) (gv' := gv) 2 (.int .i64 (bd : Nat)) (fun i _ => frCells_set2 _ _ _ _ _ _ _ _ i)
  have s3 := s2.putH (hv' := .slice ha 0 hc) (hl' := []) (o1 _ _ _ _ _ _ (o1 _ _ _ _ _ _ (o1 _ _ _ _ _ _ h1 nh) nh) nh) (fun g hg => h.hb g (eh ▸ hg)) (fun g hg => h.fh g (eh ▸ hg))
  have s4 := s3.putB (bv' := .slice ba 0 bc) (bl' := []) (o1 _ _ _ _ _ _ (o1 _ _ _ _ _ _ (o1 _ _ _ _ _ _ (o1 _ _ _ _ _ _ h2 nb) nb) nb) nb) (fun g hg e => h.hb g (eh ▸ hg) (eb ▸ e)) (fun g hg => h.fb g (eb ▸ hg))
  subst hW
  refine ⟨s4.stays (fun k hk => ?_) (fun k hk => .inl hk), ?_, ?_⟩
  · exact Below.heap_alloc _ _ _ (by simpa using hft k hk)
  · have := (World.rowIs_alloc (((((w.setCell ⟨p, 0, none⟩ (.int .i64 (F : Nat))).setCell ⟨p, 1, none⟩ (.int .i64 (L : Nat))).setCell ⟨p, 2, none⟩ (.int .i64 (bd : Nat))).setCell ⟨p, 3, none⟩ (.slice ha 0 hc)).setCell ⟨p, 4, none⟩ (.slice ba 0 bc)) #[.int .i64 (F : Nat), .int .i64 (L : Nat)] 26 (fun j => if j = 0 then .int .i64 (F : Nat) else .int .i64 (L : Nat)) (fun i hi => by
      match i, hi with
      | 0, _ => rfl
      | 1, _ => rfl)).drew
    simpa using this
  · have hp : ∀ (x : Prop), (x → ft p) := fun _ _ => h.fp
    exact ((((((((Fr.refl ft w).setCell (p := ⟨p, 0, none⟩) (fun _ => h.fp) _).setCell (p := ⟨p, 1, none⟩) (fun _ => h.fp) _).setCell (p := ⟨p, 2, none⟩) (fun _ => h.fp) _).setCell (p := ⟨p, 3, none⟩) (fun _ => h.fp) _).setCell (p := ⟨p, 4, none⟩) (fun _ => h.fp) _)).alloc _).drew
theorem cut_own {w : World} {ao : Option Addr} {cap : Nat} {l : List Nat} (h : w.ownsRow 0 3 1 (.slice ao l.length cap) l.length (ints l)) : w.ownsRow 0 3 1 (.slice ao 0 cap) 0 [] := by
  rcases h.2 with ⟨e, h0⟩ | ⟨g, cp, cur, e, hb, hg, hk, hm, hs, _⟩
  · simp only [Value.slice.injEq] at e; obtain ⟨rfl, _, rfl⟩ := e; exact ⟨rfl, .inl ⟨rfl, rfl⟩⟩
  · simp only [Value.slice.injEq] at e; obtain ⟨rfl, _, rfl⟩ := e; exact ⟨rfl, .inr ⟨_, _, cur, rfl, hb, hg, Nat.zero_le _, hm, hs, by simp⟩⟩
theorem Yba.info4a : (Yba.prog.info? 4).map (fun i => (i.zero, i.size, i.bytes)) = some (some (.bool false), 1, 1) := by kernel_rfl
theorem Yba.info3a : (Yba.prog.info? 3).map (fun i => (i.zero, i.size, i.bytes)) = some (some (.int .i64 0), 1, 8) := by kernel_rfl

/-- one of the first j -/
def inCamp (l : List Nat) (j : Nat) (id : Nat) : Bool := decide (id ∈ l.take j)
theorem FrRaw.two {w : World} {n p : Nat} {ft : Nat → Prop} {F L bd : Nat} {hv bv cv gv : Value} {hl bl : List Nat} {cam : Nat → Bool} (h : FrRaw w n p ft F L bd hv bv cv gv hl bl cam) (o1 o2 : Obj) : FrRaw (((w.alloc o1).alloc o2).drew) n p ft F L bd hv bv cv gv hl bl cam :=
  ⟨((h.row.alloc o1).alloc o2).drew, (h.ho.alloc o1).alloc o2, (h.bo.alloc o1).alloc o2, h.hb, h.fp, h.fh, h.fb, by
    rcases h.ca with e | ⟨cb, e, h2, h3⟩
    · exact .inl e
    · exact .inr ⟨cb, e, h2, ((h3.alloc o1).alloc o2).drew⟩⟩
theorem zero4a (w : World) : (zeroValue 4).run Yba.prog w = .ok (.bool false) w := by kernel_rfl
theorem clearA {w : World} {b n : Nat} {f : Nat → Value} (h : w.rowIs b 4 (n + 1) f) (ty : TypeId) : (Builtin.clear_ #[22] ty #[.slice (some ⟨b, 0, none⟩) (n + 1) (n + 1)]).run Yba.prog w = .ok (.tuple #[]) (wpA w b (n + 1) (.bool false)) :=
  Lib.run_clear_slice w 22 4 ty (.bool false) Yba.underlying22 zero4a rfl rfl b 0 (n + 1) (n + 1) (by omega) (fun j hj => by rw [Nat.zero_add, h.cell hj]; rfl) (fun j hj => by rw [Nat.zero_add]; exact h.frozen j)
/-- (Set).Size. -/
theorem size_any (F L s : Nat) (hF : F ≤ 100) (hL : L ≤ 100) (hs : F + s = L + 1) (w : World) : Calls Yba.prog 28 #[.agg #[.int .i64 (F : Nat), .int .i64 (L : Nat)]] w fun e w' => e = .returned (.int .i64 (s : Nat)) ∧ w' = w.alloc (.cells #[.int .i64 (F : Nat), .int .i64 (L : Nat)] 26) := by
  have e : (s : Int) = (L : Int) - (F : Int) + 1 := by omega
  rw [e]
  clear e hs
  go_enter Yba.func28, Yba.ntmps28
  go_wp2
  go_ret
  exact ⟨rfl, rfl⟩
theorem cutK_run (ao : Option Addr) (k cap K : Nat) (h : (ao = none ∧ cap = 0 ∧ k = 0) ∨ ∃ g, ao = some ⟨g, 0, none⟩ ∧ k ≤ cap ∧ cap ≤ maxLen) (hK : K ≤ k) (w : World) : (Instr.slice 27 (.slice ao k cap) none (some (.int .i64 (K : Nat))) none).run Yba.prog w = .ok (.slice ao K cap) w := by
  rcases h with ⟨rfl, rfl, rfl⟩ | ⟨g, rfl, h1, h2⟩
  · obtain rfl : K = 0 := by omega
    kernel_rfl
  · unfold maxLen at h2
    have a1 : (K : Int) ≤ (cap : Int) := by omega
    go_simp
/-- the numbers of 'max(set.Size()-bound-f, (set.Size()-f+1)/2)' -/
theorem campNums (h f k bd : Nat) (hk : h + f = k) (hs : k ≤ 100) (hb : bd ≤ 100) : ∃ (K : Nat) (x y : Int), K = camp h bd ∧ K ≤ h ∧
    IntKind.i64.wrap ((k : Int) - (bd : Int)) = (k : Int) - (bd : Int) ∧ IntKind.i64.wrap ((k : Int) - (f : Int)) = (h : Int) ∧ IntKind.i64.wrap ((h : Int) + 1) = (h : Int) + 1 ∧
    ((h : Int) + 1).tdiv 2 = y ∧ IntKind.i64.wrap y = y ∧ IntKind.i64.wrap ((k : Int) - (bd : Int) - (f : Int)) = x ∧ (if x < y then y else x) = (K : Int) := by
  have e : ((h : Int) + 1).tdiv 2 = ((h + 1) / 2 : Nat) := by rw [Int.tdiv_eq_ediv_of_nonneg (by omega)]; omega
  refine ⟨camp h bd, (k : Int) - (bd : Int) - (f : Int), ((h + 1) / 2 : Nat), rfl, camp_le _ _, by rw [IntKind.wrap_i64]; omega, by rw [IntKind.wrap_i64]; omega, by rw [IntKind.wrap_i64]; omega, e, by rw [IntKind.wrap_i64]; omega, by rw [IntKind.wrap_i64]; omega, ?_⟩
  unfold camp
  split <;> omega

/-- behind 'fr.campA, fr.grade = make(..), make(..)' -/
theorem enter_made {w wr : World} {n p x cb : Nat} {ft ft' : Nat → Prop} {F L bd : Nat} {hv bv gv gv' : Value} {hl bl : List Nat} {cam : Nat → Bool} {f : Nat → Value} {o1 o2 : Obj} (h : FrRaw wr n p ft' F L bd hv bv (.slice none 0 0) gv hl bl cam) (hft : ∀ k, wr.heap.size ≤ k → ft' k) (hx : wr.rowIs x 26 2 f) (hf : Fr ft w wr) (hp : ft p)
    (W : World) (hW : W = ((((wr.setCell ⟨p, 5, none⟩ (.slice (some ⟨cb, 0, none⟩) (n + 1) (n + 1))).setCell ⟨p, 8, none⟩ gv').alloc o1).alloc o2).drew)
    (hcb : (cb = wr.heap.size ∧ o1 = .cells (madeCells #[.bool false] (n + 1)) 4) ∨ (cb = wr.heap.size + 1 ∧ o2 = .cells (madeCells #[.bool false] (n + 1)) 4)) :
    FrRaw W n p ft' F L bd hv bv (.slice (some ⟨cb, 0, none⟩) (n + 1) (n + 1)) gv' hl bl (fun _ => false) ∧ W.rowIs x 26 2 f ∧ Fr ft w W ∧ wr.heap.size ≤ W.heap.size ∧ ft' cb ∧ W.rowIs cb 4 (n + 1) (fun _ => .bool false) := by
  have o : ∀ k, k < wr.heap.size → k ≠ p → W.heap[k]? = wr.heap[k]? := fun k hk hkp => by
    subst hW
    rw [heap_drew, Below.heap_alloc _ _ _ (by simp; omega), Below.heap_alloc _ _ _ (by simpa using hk), Below.heap_setCell _ _ _ _ hkp, Below.heap_setCell _ _ _ _ hkp]
  have rc : W.rowIs cb 4 (n + 1) (fun _ => .bool false) := by
    subst hW
    rcases hcb with ⟨rfl, rfl⟩ | ⟨rfl, rfl⟩
    · have := ((World.rowIs_made ((wr.setCell ⟨p, 5, none⟩ (.slice (some ⟨wr.heap.size, 0, none⟩) (n + 1) (n + 1))).setCell ⟨p, 8, none⟩ gv') (.bool false) (n + 1) 4).alloc o2).drew
      simpa using this
    · have := (World.rowIs_made (((wr.setCell ⟨p, 5, none⟩ (.slice (some ⟨wr.heap.size + 1, 0, none⟩) (n + 1) (n + 1))).setCell ⟨p, 8, none⟩ gv').alloc o1) (.bool false) (n + 1) 4).drew
      simpa using this
  have hcf : ft' cb := hft cb (by omega)
  have rp : W.rowIs p 30 9 (frCells F L bd hv bv (.slice (some ⟨cb, 0, none⟩) (n + 1) (n + 1)) gv') := by
    subst hW
    exact ((((((h.row.set 5 _).congr (fun i _ => frCells_set5 _ _ _ _ _ _ _ _ i)).set 8 _).congr (fun i hi => frCells_set8 _ _ _ _ _ _ _ _ i hi)).alloc o1).alloc o2).drew
  refine ⟨⟨rp, own_stays h.ho (fun g hg => o g (own_block h.ho hg).2.1 (fun e => own_ne_row h.ho h.row (by decide) (e ▸ hg))), own_stays h.bo (fun g hg => o g (own_block h.bo hg).2.1 (fun e => own_ne_row h.bo h.row (by decide) (e ▸ hg))), h.hb, h.fp, h.fh, h.fb, .inr ⟨cb, rfl, hcf, rc⟩⟩, hx.of_block (o x hx.lt (row_ne hx h.row (by decide))), ?_, ?_, hcf, rc⟩
  · subst hW
    exact (((((hf.setCell (p := ⟨p, 5, none⟩) (fun _ => hp) _).setCell (p := ⟨p, 8, none⟩) (fun _ => hp) _).alloc o1).alloc o2)).drew
  · subst hW
    have : (((((wr.setCell ⟨p, 5, none⟩ (.slice (some ⟨cb, 0, none⟩) (n + 1) (n + 1))).setCell ⟨p, 8, none⟩ gv').alloc o1).alloc o2).drew).heap.size = wr.heap.size + 2 := by simp [heap_drew]
    omega

theorem inCamp_step {l : List Nat} {j id : Nat} (h : l[j]? = some id) (i : Nat) : (if i = id then Value.bool true else .bool (inCamp l j i)) = .bool (inCamp l (j + 1) i) := by
  have e : l.take (j + 1) = l.take j ++ [id] := by rw [List.take_add_one, h]; rfl
  unfold inCamp
  rw [e]
  by_cases hi : i = id
  · simp [hi]
  · simp [hi]
theorem FrRaw.trim {w : World} {n p m : Nat} {ft : Nat → Prop} {F L bd : Nat} {hv bv cv gv : Value} {hl bl : List Nat} {cam : Nat → Bool} (h : FrRaw w n p (fun k => ft k ∨ m ≤ k) F L bd hv bv cv gv hl bl cam) : FrRaw w n p (fun k => ft k ∨ (m ≤ k ∧ k < w.heap.size)) F L bd hv bv cv gv hl bl cam :=
  have t : ∀ k, k < w.heap.size → (ft k ∨ m ≤ k) → (ft k ∨ (m ≤ k ∧ k < w.heap.size)) := fun k hk h => h.imp_right (fun h => ⟨h, hk⟩)
  ⟨h.row, h.ho, h.bo, h.hb, t p h.row.lt h.fp, fun g hg => t g (own_block h.ho hg).2.1 (h.fh g hg), fun g hg => t g (own_block h.bo hg).2.1 (h.fb g hg), by
    rcases h.ca with e | ⟨cb, e, h2, h3⟩
    · exact .inl e
    · exact .inr ⟨cb, e, t cb h3.lt h2, h3⟩⟩
/-- what (*frame).enter leaves -/
def EnterPost (n p : Nat) (ft : Nat → Prop) (F L bd : Nat) (bz : Nat → Bool) (w : World) (e : Ending) (w' : World) : Prop :=
  e = .returned (.tuple #[]) ∧ Fr ft w w' ∧ ∃ hv bv cb gv, FrRaw w' n p (fun k => ft k ∨ (w.heap.size ≤ k ∧ k < w'.heap.size)) F L bd hv bv (.slice (some ⟨cb, 0, none⟩) (n + 1) (n + 1)) gv (hs bz F (L + 1 - F)) (bs bz F (L + 1 - F)) (inCamp (hs bz F (L + 1 - F)) (camp (hs bz F (L + 1 - F)).length bd))

set_option maxRecDepth 100000 in
set_option maxHeartbeats 1600000 in
theorem enter_any (n p Bb : Nat) (bz : Nat → Bool) (ft : Nat → Prop) (F0 L0 bd0 F L bd : Nat) (hv bv cv gv : Value) (hl bl : List Nat) (cam : Nat → Bool) (w : World) (h : FrRaw w n p ft F0 L0 bd0 hv bv cv gv hl bl cam) (hft : ∀ k, ft k → k < w.heap.size)
    (hb : w.rowIs Bb 4 (n + 1) (fun i => .bool (bz i))) (hbf : ¬ ft Bb) (hF : 1 ≤ F) (hFL : F ≤ L) (hLn : L ≤ n) (hbd : bd ≤ n) (hn : n ≤ 12) :
    Calls Yba.prog 20 #[.pointer (some ⟨p, 0, none⟩), .agg #[.int .i64 (F : Nat), .int .i64 (L : Nat)], .int .i64 (bd : Nat), .slice (some ⟨Bb, 0, none⟩) (n + 1) (n + 1)] w (EnterPost n p ft F L bd bz w) := by
  obtain ⟨i0, hi0, hz0, hz1, hz2⟩ := info_parts Yba.info3a
  obtain ⟨ha, hc, rfl, hhf⟩ := own_form h.ho
  obtain ⟨ba, bc, rfl, hbf'⟩ := own_form h.bo
  have s1 := cut_run ha hl.length hc (by rcases hhf with ⟨a, b, c⟩ | ⟨g, a, b, c⟩; exact .inl ⟨a, b, by simp [c]⟩; exact .inr ⟨g, a, b, c⟩)
  have s2 := cut_run ba bl.length bc (by rcases hbf' with ⟨a, b, c⟩ | ⟨g, a, b, c⟩; exact .inl ⟨a, b, by simp [c]⟩; exact .inr ⟨g, a, b, c⟩)
  have hpl := hft p h.fp
  have k0 := h.row.cell (i := 0) (by omega)
  have k1 := h.row.cell (i := 1) (by omega)
  have k2 := h.row.cell (i := 2) (by omega)
  have k3 : w.cell? ⟨p, 3, none⟩ = some (.slice ha hl.length hc) := h.row.cell (i := 3) (by omega)
  have k4 : w.cell? ⟨p, 4, none⟩ = some (.slice ba bl.length bc) := h.row.cell (i := 4) (by omega)
  have z0 := h.row.frozen 0
  have z1 := h.row.frozen 1
  have z2 := h.row.frozen 2
  have z3 := h.row.frozen 3
  have z4 := h.row.frozen 4
  have hpx : ¬ p = w.heap.size := by omega
  have hxp : ¬ w.heap.size = p := by omega
  have HS := enter_start (F := F) (L := L) (bd := bd) h hft (cut_own h.ho) (cut_own h.bo) _ rfl
  have HH : Hid (_ ∧ _ ∧ _) := HS
  clear HS
  obtain ⟨s, hs'⟩ : ∃ s, s = L + 1 - F := ⟨_, rfl⟩
  have HSS : Hid (s = L + 1 - F) := hs'
  have eF : F + s = L + 1 := by omega
  clear hs'
  have HEF : Hid (F + s = L + 1) := eF
  have hs12 : s ≤ 12 := by omega
  clear eF h
  go_enter Yba.func20, Yba.ntmps20
  go_wp2
  go_region
  go_wp2
  clear k0 k1 k2 k3 k4 z0 z1 z2 z3 z4 s1 s2
  go_loopg [8] s (fun gg i wr => ∃ (k : Nat) (hv bv : Value), gg = s - k ∧ k ≤ s ∧ i = .int .i64 ((F : Int) + (k : Int)) ∧ FrRaw wr n p (fun k => ft k ∨ w.heap.size ≤ k) F L bd hv bv cv gv (hs bz F k) (bs bz F k) cam ∧ wr.rowIs w.heap.size 26 2 (fun j => if j = 0 then .int .i64 (F : Nat) else .int .i64 (L : Nat)) ∧ Fr ft w wr)
  case atStart => exact ⟨0, _, _, by omega, by omega, by simp, HH.out.1, HH.out.2.1, HH.out.2.2⟩
  case round =>
    clear HH
    obtain ⟨k, hv, bv, rfl, hk, rfl, hms, hx, hfr⟩ := hrel
    have x0 : wr.cell? ⟨w.heap.size, 0, none⟩ = some (.int .i64 (F : Nat)) := hx.cell (i := 0) (by omega)
    have x1 : wr.cell? ⟨w.heap.size, 1, none⟩ = some (.int .i64 (L : Nat)) := hx.cell (i := 1) (by omega)
    have hbl := both_len bz F k
    have hsz := hfr.size
    by_cases hlt : k < s
    · have hb' := hfr.row hb hbf
      have hle : F + k ≤ L := by have := HEF.out; omega
      have hck := hb'.cell (i := F + k) (by omega)
      have hk0 : (0 : Int) ≤ (F : Int) + (k : Int) := by omega
      have hk1 : (F : Int) + (k : Int) < (n : Int) + 1 := by omega
      have hk2 : (F : Int) + (k : Int) ≤ (L : Int) := by omega
      have tn : ((F : Int) + (k : Int)).toNat = F + k := by omega
      have cp3 : wr.cell? ⟨p, 3, none⟩ = some hv := hms.row.cell (i := 3) (by omega)
      have cp4 : wr.cell? ⟨p, 4, none⟩ = some bv := hms.row.cell (i := 4) (by omega)
      have HN : Hid ((wr.alloc (.cells #[.int .i64 ((F : Int) + (k : Int))] 3)).heap[wr.heap.size]? = some (.cells #[.int .i64 ((F : Int) + (k : Int))] 3 (0, 0))) := heap_alloc_new wr _
      have HM : Hid (FrRaw wr n p (fun k => ft k ∨ w.heap.size ≤ k) F L bd hv bv cv gv (hs bz F k) (bs bz F k) cam) := hms
      have HX : Hid (wr.rowIs w.heap.size 26 2 _) := hx
      have HFr : Hid (Fr ft w wr) := hfr
      cases hbz : bz (F + k) with
      | true =>
        rw [hbz] at hck
        have HO : Hid (wr.ownsRow 0 3 1 bv (bs bz F k).length (ints (bs bz F k))) := hms.bo
        have hml : (bs bz F k).length + 1 ≤ maxLen := by unfold maxLen; omega
        have hl2 : ((bs bz F k).length + 1) * 8 ≤ 140737488355328 := by omega
        have HZ : Hid (bz (F + k) = true) := hbz
        clear hms hx hfr hb' hbz
        go_wp2_with (at_builtin; refine wpList_append_lies _ rfl _ _ _ rfl 0 3 i0 _ 1 8 Yba.underlying27 hi0 hz0 hz1 hz2 rfl (by omega) bv (bs bz F k).length (ints (bs bz F k)) (by rfl) (HO.out.alloc _) ⟨wr.heap.size, 0, none⟩ 1 1 [.int .i64 ((F : Int) + (k : Int))] (by rfl) (by rfl) (World.news_of_block (cs := #[.int .i64 ((F : Int) + (k : Int))]) (t := 3) (fr := (0, 0)) HN.out) (by simp [Value.oneCell']) (by omega) hml hl2 (by omega) (wr.heap.size + 1) (by simp) ?_; intro g cap w1 hown1 hgrow hat hlt1; obtain ⟨r1, _, _⟩ := HM.out.grewB hgrow; have d1 : w1.cell? ⟨p, 4, none⟩ = some bv := r1.cell (i := 4) (by omega); have d2 := r1.frozen 4)
        have R1 := HM.out.pushB hgrow (bl' := bs bz F (k + 1)) (by rw [bs_yes _ _ _ HZ.out, List.length_append, ints_snoc]; simpa using hown1) hat (fun x hx => .inr (by omega))
        rw [← hs_yes _ _ _ HZ.out] at R1
        have R2 := row_push (p := p) (j := 4) (x := .slice (some ⟨g, 0, none⟩) ((bs bz F k).length + 1) cap) HX.out HO.out hgrow (by decide) hxp
        have R3 := fr_push (p := p) (j := 4) (x := .slice (some ⟨g, 0, none⟩) ((bs bz F k).length + 1) cap) HFr.out hgrow (fun x hx hxl => (HM.out.fb x hx).resolve_right (by omega)) (HM.out.fp.resolve_right (by omega))
        go_roundg (s - (k + 1))
        case measure => omega
        case rel => exact ⟨k + 1, _, _, rfl, by omega, by go_num, R1, R2, R3⟩
      | false =>
        rw [hbz] at hck
        have HO : Hid (wr.ownsRow 0 3 1 hv (hs bz F k).length (ints (hs bz F k))) := hms.ho
        have hml : (hs bz F k).length + 1 ≤ maxLen := by unfold maxLen; omega
        have hl2 : ((hs bz F k).length + 1) * 8 ≤ 140737488355328 := by omega
        have HZ : Hid (bz (F + k) = false) := hbz
        clear hms hx hfr hb' hbz
        go_wp2_with (at_builtin; refine wpList_append_lies _ rfl _ _ _ rfl 0 3 i0 _ 1 8 Yba.underlying27 hi0 hz0 hz1 hz2 rfl (by omega) hv (hs bz F k).length (ints (hs bz F k)) (by rfl) (HO.out.alloc _) ⟨wr.heap.size, 0, none⟩ 1 1 [.int .i64 ((F : Int) + (k : Int))] (by rfl) (by rfl) (World.news_of_block (cs := #[.int .i64 ((F : Int) + (k : Int))]) (t := 3) (fr := (0, 0)) HN.out) (by simp [Value.oneCell']) (by omega) hml hl2 (by omega) (wr.heap.size + 1) (by simp) ?_; intro g cap w1 hown1 hgrow hat hlt1; obtain ⟨r1, _, _⟩ := HM.out.grewH hgrow; have d1 : w1.cell? ⟨p, 3, none⟩ = some hv := r1.cell (i := 3) (by omega); have d2 := r1.frozen 3)
        have R1 := HM.out.pushH hgrow (hl' := hs bz F (k + 1)) (by rw [hs_no _ _ _ HZ.out, List.length_append, ints_snoc]; simpa using hown1) hat (fun x hx => .inr (by omega))
        rw [← bs_no _ _ _ HZ.out] at R1
        have R2 := row_push (p := p) (j := 3) (x := .slice (some ⟨g, 0, none⟩) ((hs bz F k).length + 1) cap) HX.out HO.out hgrow (by decide) hxp
        have R3 := fr_push (p := p) (j := 3) (x := .slice (some ⟨g, 0, none⟩) ((hs bz F k).length + 1) cap) HFr.out hgrow (fun x hx hxl => (HM.out.fh x hx).resolve_right (by omega)) (HM.out.fp.resolve_right (by omega))
        go_roundg (s - (k + 1))
        case measure => omega
        case rel => exact ⟨k + 1, _, _, rfl, by omega, by go_num, R1, R2, R3⟩
    · obtain rfl : k = s := by omega
      obtain ⟨hao, hcp, hve, hhf2⟩ := own_form hms.ho
      obtain ⟨bao, bcp, bve, hbf2⟩ := own_form hms.bo
      have nil1 : ∀ a n c w, (binOp .eql 22 (.slice (some a) n c) (.slice none 0 0)).run Yba.prog w = .ok (.bool false) w := fun a n c w => Lib.run_eql_slice_nil w 22 4 (some a) n c 0 0 Yba.underlying22
      have nil0 : ∀ w, (binOp .eql 22 (.slice none 0 0) (.slice none 0 0)).run Yba.prog w = .ok (.bool true) w := fun w => Lib.run_eql_slice_nil w 22 4 none 0 0 0 0 Yba.underlying22
      subst hve bve
      rcases hms.ca with rfl | ⟨cb, rfl, hcf, hcr⟩
      · have c5 : wr.cell? ⟨p, 5, none⟩ = some (.slice none 0 0) := hms.row.cell (i := 5) (by omega)
        have c8 : wr.cell? ⟨p, 8, none⟩ = some gv := hms.row.cell (i := 8) (by omega)
        have z5 := hms.row.frozen 5
        have z8 := hms.row.frozen 8
        have hlt' : (L : Int) < (F : Int) + (k : Int) := by have := HEF.out; omega
        have hmk : ∀ w, (Instr.makeSlice 27 (.int .i64 ((n : Int) + 1)) (.int .i64 ((n : Int) + 1))).run Yba.prog w = .ok (.slice (some ⟨w.heap.size, 0, none⟩) (n + 1) (n + 1)) (w.alloc (.cells (madeCells #[.int .i64 0] (n + 1)) 3)) := run_make_row' (P := Yba.prog) 27 3 (.int .i64 0) 8 Yba.underlying27 Yba.info3a rfl .i64 .i64 (n + 1) (by omega) (by omega)
        have hmk2 : ∀ w, (Instr.makeSlice 22 (.int .i64 ((n : Int) + 1)) (.int .i64 ((n : Int) + 1))).run Yba.prog w = .ok (.slice (some ⟨w.heap.size, 0, none⟩) (n + 1) (n + 1)) (w.alloc (.cells (madeCells #[.bool false] (n + 1)) 4)) := run_make_row' (P := Yba.prog) 22 4 (.bool false) 1 Yba.underlying22 Yba.info4a rfl .i64 .i64 (n + 1) (by omega) (by omega)
        have HM : Hid (FrRaw wr _ _ _ _ _ _ _ _ _ _ _ _ _) := hms
        have HX : Hid (wr.rowIs w.heap.size 26 2 _) := hx
        have HFr : Hid (Fr ft w wr) := hfr
        have np := World.new_ne wr _ c5
        have hpr : p < wr.heap.size := by omega
        clear hms hx hfr
        go_wp2
        go_region
        · obtain ⟨hms, hx, hfr, hszW, hcf, hcr⟩ := enter_made (w := w) (ft := ft) (gv' := .slice (some ⟨wr.heap.size + 1, 0, none⟩) (n + 1) (n + 1)) (cb := wr.heap.size) (o1 := (.cells (madeCells #[.bool false] (n + 1)) 4)) (o2 := (.cells (madeCells #[.int .i64 0] (n + 1)) 3)) HM.out (fun k hk => .inr (by omega)) HX.out HFr.out (HM.out.fp.resolve_right (by omega)) _ rfl (.inl ⟨rfl, rfl⟩)
          generalize ((((wr.setCell ⟨p, 5, none⟩ (.slice (some ⟨wr.heap.size, 0, none⟩) (n + 1) (n + 1))).setCell ⟨p, 8, none⟩ (.slice (some ⟨wr.heap.size + 1, 0, none⟩) (n + 1) (n + 1))).alloc (.cells (madeCells #[.bool false] (n + 1)) 4)).alloc (.cells (madeCells #[.int .i64 0] (n + 1)) 3)).drew = wv at *
          generalize (Value.slice (some ⟨wr.heap.size + 1, 0, none⟩) (n + 1) (n + 1)) = gv2 at hms
          clear HM HX HFr c5 c8 z5 z8 hmk hmk2 np x0 x1
          generalize wr.heap.size = cb at *
          have cl : ∀ ty, (Builtin.clear_ #[22] ty #[.slice (some ⟨cb, 0, none⟩) (n + 1) (n + 1)]).run Yba.prog wv = .ok (.tuple #[]) (wpA wv cb (n + 1) (.bool false)) := fun ty => clearA hcr ty
          have hms2 := hms.camped (cam' := fun _ => false) (fun k hk => block_wpA wv cb (n + 1) (.bool false) k hk) (row_wpA hcr _)
          have hx2 := hx.of_block (block_wpA wv cb (n + 1) (.bool false) _ (row_ne hx hcr (by decide)))
          have hfr2 := fr_wpA hfr (b := cb) (fun hl => hcf.resolve_right (by omega)) (n + 1) (.bool false)
          have sz2 := size_wpA wv cb (n + 1) (.bool false)
          have c5 : wv.cell? ⟨p, 5, none⟩ = some (.slice (some ⟨cb, 0, none⟩) (n + 1) (n + 1)) := hms.row.cell (i := 5) (by omega)
          generalize wpA wv cb (n + 1) (.bool false) = wy at *
          have y3 : wy.cell? ⟨p, 3, none⟩ = some (.slice hao (hs bz F k).length hcp) := hms2.row.cell (i := 3) (by omega)
          have y4 : wy.cell? ⟨p, 4, none⟩ = some (.slice bao (bs bz F k).length bcp) := hms2.row.cell (i := 4) (by omega)
          have yx0 : wy.cell? ⟨w.heap.size, 0, none⟩ = some (.int .i64 (F : Nat)) := hx2.cell (i := 0) (by omega)
          have yx1 : wy.cell? ⟨w.heap.size, 1, none⟩ = some (.int .i64 (L : Nat)) := hx2.cell (i := 1) (by omega)
          have HM : Hid (FrRaw wy _ _ _ _ _ _ _ _ _ _ _ _ _) := hms2
          have HX : Hid (wy.rowIs w.heap.size 26 2 _) := hx2
          have HFr : Hid (Fr ft w wy) := hfr2
          have hlt' : (L : Int) < (F : Int) + (k : Int) := by have := HEF.out; omega
          have n1 := World.new_ne wy _ y3
          have n2 := World.new_ne wy _ yx0
          have n3 := World.new_ne wy _ yx1
          clear hms hms2 hx hx2 hfr hfr2 hcr
          obtain ⟨K, x, y, hKe, hKh, m1, m2, m3, m4, m5, m6, m7⟩ := campNums (hs bz F k).length (bs bz F k).length k bd hbl (by omega) (by omega)
          have HKE : Hid (K = camp (hs bz F k).length bd) := hKe
          have hsl := cutK_run hao (hs bz F k).length hcp K (by rcases hhf2 with ⟨a, b, c⟩ | ⟨g, a, b, c⟩; exact .inl ⟨a, b, by simp [c]⟩; exact .inr ⟨g, a, b, c⟩) hKh
          clear hKe hhf hbf' hhf2 hbf2
          go_wp2
          go_region_held3 (fun w' => w'.cell? ⟨p, 3, none⟩ = some (.slice hao (hs bz F k).length hcp) ∧ w'.cell? ⟨w.heap.size, 0, none⟩ = some (.int .i64 (F : Nat)) ∧ w'.cell? ⟨w.heap.size, 1, none⟩ = some (.int .i64 (L : Nat))) (go_keep) ((go_at_call 28; refine (size_any F L k (by omega) (by omega) HEF.out _).mono ?_; rintro e w' ⟨rfl, rfl⟩))
          have HK2 : K ≤ 12 := by omega
          have HF2 := ((HFr.out.alloc (.cells #[.int .i64 (F : Nat), .int .i64 (L : Nat)] 26)).alloc (.cells #[.int .i64 (F : Nat), .int .i64 (L : Nat)] 26)).drew
          have HM2 : FrRaw (((wy.alloc (.cells #[.int .i64 (F : Nat), .int .i64 (L : Nat)] 26)).alloc (.cells #[.int .i64 (F : Nat), .int .i64 (L : Nat)] 26)).drew) n p (fun k => ft k ∨ w.heap.size ≤ k) F L bd (.slice hao (hs bz F k).length hcp) (.slice bao (bs bz F k).length bcp) (.slice (some ⟨cb, 0, none⟩) (n + 1) (n + 1)) gv2 (hs bz F k) (bs bz F k) (fun _ => false) := HM.out.two _ _
          generalize ((wy.alloc (.cells #[.int .i64 (F : Nat), .int .i64 (L : Nat)] 26)).alloc (.cells #[.int .i64 (F : Nat), .int .i64 (L : Nat)] 26)).drew = wz at *
          clear HM HX HFr cl y3 y4 yx0 yx1 n1 n2 n3 m1 m2 m3 m4 m5 m6 m7 hsl nil1 nil0
          go_wp2
          go_loopg [113] K (fun gg i wl => ∃ j : Nat, gg = K - j ∧ j ≤ K ∧ i = .int .i64 j ∧ FrRaw wl n p (fun k => ft k ∨ w.heap.size ≤ k) F L bd (.slice hao (hs bz F k).length hcp) (.slice bao (bs bz F k).length bcp) (.slice (some ⟨cb, 0, none⟩) (n + 1) (n + 1)) gv2 (hs bz F k) (bs bz F k) (inCamp (hs bz F k) j) ∧ Fr ft w wl)
          case atStart => exact ⟨0, by omega, by omega, rfl, HM2.camped (fun _ _ => rfl) (HM2.campRow.2.congr (fun i _ => by simp [inCamp])), HF2⟩
          case round =>
            clear HM2 HF2
            obtain ⟨j, rfl, hj, rfl, hmj, hfj⟩ := hrel
            by_cases hjk : j < K
            · have hjl : j < (hs bz F k).length := by omega
              obtain ⟨hg, ehg⟩ : ∃ g, hao = some ⟨g, 0, none⟩ := by
                rcases own_form hmj.ho with ⟨a, c, e, hh⟩
                simp only [Value.slice.injEq] at e
                obtain ⟨rfl, _, rfl⟩ := e
                rcases hh with ⟨_, _, e⟩ | ⟨g, e, _⟩
                · rw [e] at hjl; exact absurd hjl (by simp)
                · exact ⟨g, e⟩
              obtain ⟨id, hid⟩ : ∃ id, (hs bz F k)[j]? = some id := ⟨_, List.getElem?_eq_getElem hjl⟩
              have hmem := hs_mem bz F k id (List.mem_of_getElem? hid)
              have hidn : id < n + 1 := by have := HEF.out; omega
              have HID : Hid ((hs bz F k)[j]? = some id) := hid
              have q1 : wr.cell? ⟨hg, j, none⟩ = some (.int .i64 (id : Nat)) := by
                subst ehg
                have := hmj.ho.cellAt j (by rw [Nat.mul_one]; exact hjl)
                simpa [ints, hid] using this
              have q2 : wr.cell? ⟨p, 5, none⟩ = some (.slice (some ⟨cb, 0, none⟩) (n + 1) (n + 1)) := hmj.row.cell (i := 5) (by omega)
              have q3 := hmj.campRow.2.cell (i := id) hidn
              have q4 := hmj.campRow.2.frozen id
              have HC : Hid (_ ∧ _) := hmj.campRow
              have HM : Hid (FrRaw wr _ _ _ _ _ _ _ _ _ _ _ _ _) := hmj
              have HFr : Hid (Fr ft w wr) := hfj
              clear hmj hfj hid
              subst ehg
              go_wp2
              have R1 := HM.out.camped (w' := (wr.setCell ⟨cb, id, none⟩ (.bool true))) (cam' := inCamp (hs bz F k) (j + 1)) (fun k hk => Below.heap_setCell _ _ _ _ hk) ((HC.out.2.set id (.bool true)).congr (fun i _ => inCamp_step HID.out i))
              have R2 := HFr.out.setCell (p := ⟨cb, id, none⟩) (fun (hl : cb < w.heap.size) => hcf.resolve_right (by omega)) (.bool true)
              go_roundg (K - (j + 1))
              case measure => omega
              case rel => exact ⟨j + 1, rfl, by omega, by go_num, R1, R2⟩
            · obtain rfl : j = K := by omega
              have HP : EnterPost n p ft F L bd bz w (.returned (.tuple #[])) wr := by
                have hk' := HSS.out
                subst hk'
                have hj' := HKE.out
                subst hj'
                exact ⟨rfl, hfj, _, _, _, _, hmj.trim⟩
              clear hmj hfj
              go_wp2
              go_end0
              exact HP
        · obtain ⟨hms, hx, hfr, hszW, hcf, hcr⟩ := enter_made (w := w) (ft := ft) (gv' := .slice (some ⟨wr.heap.size, 0, none⟩) (n + 1) (n + 1)) (cb := wr.heap.size + 1) (o1 := (.cells (madeCells #[.int .i64 0] (n + 1)) 3)) (o2 := (.cells (madeCells #[.bool false] (n + 1)) 4)) HM.out (fun k hk => .inr (by omega)) HX.out HFr.out (HM.out.fp.resolve_right (by omega)) _ rfl (.inr ⟨rfl, rfl⟩)
          generalize ((((wr.setCell ⟨p, 5, none⟩ (.slice (some ⟨wr.heap.size + 1, 0, none⟩) (n + 1) (n + 1))).setCell ⟨p, 8, none⟩ (.slice (some ⟨wr.heap.size, 0, none⟩) (n + 1) (n + 1))).alloc (.cells (madeCells #[.int .i64 0] (n + 1)) 3)).alloc (.cells (madeCells #[.bool false] (n + 1)) 4)).drew = wv at *
          generalize (Value.slice (some ⟨wr.heap.size, 0, none⟩) (n + 1) (n + 1)) = gv2 at hms
          clear HM HX HFr c5 c8 z5 z8 hmk hmk2 np x0 x1
          generalize hcbe : wr.heap.size + 1 = cb at *
          have cl : ∀ ty, (Builtin.clear_ #[22] ty #[.slice (some ⟨cb, 0, none⟩) (n + 1) (n + 1)]).run Yba.prog wv = .ok (.tuple #[]) (wpA wv cb (n + 1) (.bool false)) := fun ty => clearA hcr ty
          have hms2 := hms.camped (cam' := fun _ => false) (fun k hk => block_wpA wv cb (n + 1) (.bool false) k hk) (row_wpA hcr _)
          have hx2 := hx.of_block (block_wpA wv cb (n + 1) (.bool false) _ (row_ne hx hcr (by decide)))
          have hfr2 := fr_wpA hfr (b := cb) (fun hl => hcf.resolve_right (by omega)) (n + 1) (.bool false)
          have sz2 := size_wpA wv cb (n + 1) (.bool false)
          have c5 : wv.cell? ⟨p, 5, none⟩ = some (.slice (some ⟨cb, 0, none⟩) (n + 1) (n + 1)) := hms.row.cell (i := 5) (by omega)
          generalize wpA wv cb (n + 1) (.bool false) = wy at *
          have y3 : wy.cell? ⟨p, 3, none⟩ = some (.slice hao (hs bz F k).length hcp) := hms2.row.cell (i := 3) (by omega)
          have y4 : wy.cell? ⟨p, 4, none⟩ = some (.slice bao (bs bz F k).length bcp) := hms2.row.cell (i := 4) (by omega)
          have yx0 : wy.cell? ⟨w.heap.size, 0, none⟩ = some (.int .i64 (F : Nat)) := hx2.cell (i := 0) (by omega)
          have yx1 : wy.cell? ⟨w.heap.size, 1, none⟩ = some (.int .i64 (L : Nat)) := hx2.cell (i := 1) (by omega)
          have HM : Hid (FrRaw wy _ _ _ _ _ _ _ _ _ _ _ _ _) := hms2
          have HX : Hid (wy.rowIs w.heap.size 26 2 _) := hx2
          have HFr : Hid (Fr ft w wy) := hfr2
          have hlt' : (L : Int) < (F : Int) + (k : Int) := by have := HEF.out; omega
          have n1 := World.new_ne wy _ y3
          have n2 := World.new_ne wy _ yx0
          have n3 := World.new_ne wy _ yx1
          clear hms hms2 hx hx2 hfr hfr2 hcr
          obtain ⟨K, x, y, hKe, hKh, m1, m2, m3, m4, m5, m6, m7⟩ := campNums (hs bz F k).length (bs bz F k).length k bd hbl (by omega) (by omega)
          have HKE : Hid (K = camp (hs bz F k).length bd) := hKe
          have hsl := cutK_run hao (hs bz F k).length hcp K (by rcases hhf2 with ⟨a, b, c⟩ | ⟨g, a, b, c⟩; exact .inl ⟨a, b, by simp [c]⟩; exact .inr ⟨g, a, b, c⟩) hKh
          clear hKe hhf hbf' hhf2 hbf2
          go_wp2
          go_region_held3 (fun w' => w'.cell? ⟨p, 3, none⟩ = some (.slice hao (hs bz F k).length hcp) ∧ w'.cell? ⟨w.heap.size, 0, none⟩ = some (.int .i64 (F : Nat)) ∧ w'.cell? ⟨w.heap.size, 1, none⟩ = some (.int .i64 (L : Nat))) (go_keep) ((go_at_call 28; refine (size_any F L k (by omega) (by omega) HEF.out _).mono ?_; rintro e w' ⟨rfl, rfl⟩))
          have HK2 : K ≤ 12 := by omega
          have HF2 := ((HFr.out.alloc (.cells #[.int .i64 (F : Nat), .int .i64 (L : Nat)] 26)).alloc (.cells #[.int .i64 (F : Nat), .int .i64 (L : Nat)] 26)).drew
          have HM2 : FrRaw (((wy.alloc (.cells #[.int .i64 (F : Nat), .int .i64 (L : Nat)] 26)).alloc (.cells #[.int .i64 (F : Nat), .int .i64 (L : Nat)] 26)).drew) n p (fun k => ft k ∨ w.heap.size ≤ k) F L bd (.slice hao (hs bz F k).length hcp) (.slice bao (bs bz F k).length bcp) (.slice (some ⟨cb, 0, none⟩) (n + 1) (n + 1)) gv2 (hs bz F k) (bs bz F k) (fun _ => false) := HM.out.two _ _
          generalize ((wy.alloc (.cells #[.int .i64 (F : Nat), .int .i64 (L : Nat)] 26)).alloc (.cells #[.int .i64 (F : Nat), .int .i64 (L : Nat)] 26)).drew = wz at *
          clear HM HX HFr cl y3 y4 yx0 yx1 n1 n2 n3 m1 m2 m3 m4 m5 m6 m7 hsl nil1 nil0
          go_wp2
          go_loopg [113] K (fun gg i wl => ∃ j : Nat, gg = K - j ∧ j ≤ K ∧ i = .int .i64 j ∧ FrRaw wl n p (fun k => ft k ∨ w.heap.size ≤ k) F L bd (.slice hao (hs bz F k).length hcp) (.slice bao (bs bz F k).length bcp) (.slice (some ⟨cb, 0, none⟩) (n + 1) (n + 1)) gv2 (hs bz F k) (bs bz F k) (inCamp (hs bz F k) j) ∧ Fr ft w wl)
          case atStart => exact ⟨0, by omega, by omega, rfl, HM2.camped (fun _ _ => rfl) (HM2.campRow.2.congr (fun i _ => by simp [inCamp])), HF2⟩
          case round =>
            clear HM2 HF2
            obtain ⟨j, rfl, hj, rfl, hmj, hfj⟩ := hrel
            by_cases hjk : j < K
            · have hjl : j < (hs bz F k).length := by omega
              obtain ⟨hg, ehg⟩ : ∃ g, hao = some ⟨g, 0, none⟩ := by
                rcases own_form hmj.ho with ⟨a, c, e, hh⟩
                simp only [Value.slice.injEq] at e
                obtain ⟨rfl, _, rfl⟩ := e
                rcases hh with ⟨_, _, e⟩ | ⟨g, e, _⟩
                · rw [e] at hjl; exact absurd hjl (by simp)
                · exact ⟨g, e⟩
              obtain ⟨id, hid⟩ : ∃ id, (hs bz F k)[j]? = some id := ⟨_, List.getElem?_eq_getElem hjl⟩
              have hmem := hs_mem bz F k id (List.mem_of_getElem? hid)
              have hidn : id < n + 1 := by have := HEF.out; omega
              have HID : Hid ((hs bz F k)[j]? = some id) := hid
              have q1 : wr.cell? ⟨hg, j, none⟩ = some (.int .i64 (id : Nat)) := by
                subst ehg
                have := hmj.ho.cellAt j (by rw [Nat.mul_one]; exact hjl)
                simpa [ints, hid] using this
              have q2 : wr.cell? ⟨p, 5, none⟩ = some (.slice (some ⟨cb, 0, none⟩) (n + 1) (n + 1)) := hmj.row.cell (i := 5) (by omega)
              have q3 := hmj.campRow.2.cell (i := id) hidn
              have q4 := hmj.campRow.2.frozen id
              have HC : Hid (_ ∧ _) := hmj.campRow
              have HM : Hid (FrRaw wr _ _ _ _ _ _ _ _ _ _ _ _ _) := hmj
              have HFr : Hid (Fr ft w wr) := hfj
              clear hmj hfj hid
              subst ehg
              go_wp2
              have R1 := HM.out.camped (w' := (wr.setCell ⟨cb, id, none⟩ (.bool true))) (cam' := inCamp (hs bz F k) (j + 1)) (fun k hk => Below.heap_setCell _ _ _ _ hk) ((HC.out.2.set id (.bool true)).congr (fun i _ => inCamp_step HID.out i))
              have R2 := HFr.out.setCell (p := ⟨cb, id, none⟩) (fun (hl : cb < w.heap.size) => hcf.resolve_right (by omega)) (.bool true)
              go_roundg (K - (j + 1))
              case measure => omega
              case rel => exact ⟨j + 1, rfl, by omega, by go_num, R1, R2⟩
            · obtain rfl : j = K := by omega
              have HP : EnterPost n p ft F L bd bz w (.returned (.tuple #[])) wr := by
                have hk' := HSS.out
                subst hk'
                have hj' := HKE.out
                subst hj'
                exact ⟨rfl, hfj, _, _, _, _, hmj.trim⟩
              clear hmj hfj
              go_wp2
              go_end0
              exact HP
      · have cl : ∀ ty, (Builtin.clear_ #[22] ty #[.slice (some ⟨cb, 0, none⟩) (n + 1) (n + 1)]).run Yba.prog wr = .ok (.tuple #[]) (wpA wr cb (n + 1) (.bool false)) := fun ty => clearA hcr ty
        have hms2 := hms.camped (cam' := fun _ => false) (fun k hk => block_wpA wr cb (n + 1) (.bool false) k hk) (row_wpA hcr _)
        have hx2 := hx.of_block (block_wpA wr cb (n + 1) (.bool false) _ (row_ne hx hcr (by decide)))
        have hfr2 := fr_wpA hfr (b := cb) (fun hl => hcf.resolve_right (by omega)) (n + 1) (.bool false)
        have sz2 := size_wpA wr cb (n + 1) (.bool false)
        have c5 : wr.cell? ⟨p, 5, none⟩ = some (.slice (some ⟨cb, 0, none⟩) (n + 1) (n + 1)) := hms.row.cell (i := 5) (by omega)
        generalize wpA wr cb (n + 1) (.bool false) = wy at *
        have y3 : wy.cell? ⟨p, 3, none⟩ = some (.slice hao (hs bz F k).length hcp) := hms2.row.cell (i := 3) (by omega)
        have y4 : wy.cell? ⟨p, 4, none⟩ = some (.slice bao (bs bz F k).length bcp) := hms2.row.cell (i := 4) (by omega)
        have yx0 : wy.cell? ⟨w.heap.size, 0, none⟩ = some (.int .i64 (F : Nat)) := hx2.cell (i := 0) (by omega)
        have yx1 : wy.cell? ⟨w.heap.size, 1, none⟩ = some (.int .i64 (L : Nat)) := hx2.cell (i := 1) (by omega)
        have HM : Hid (FrRaw wy _ _ _ _ _ _ _ _ _ _ _ _ _) := hms2
        have HX : Hid (wy.rowIs w.heap.size 26 2 _) := hx2
        have HFr : Hid (Fr ft w wy) := hfr2
        have hlt' : (L : Int) < (F : Int) + (k : Int) := by have := HEF.out; omega
        have n1 := World.new_ne wy _ y3
        have n2 := World.new_ne wy _ yx0
        have n3 := World.new_ne wy _ yx1
        clear hms hms2 hx hx2 hfr hfr2 hcr
        obtain ⟨K, x, y, hKe, hKh, m1, m2, m3, m4, m5, m6, m7⟩ := campNums (hs bz F k).length (bs bz F k).length k bd hbl (by omega) (by omega)
        have HKE : Hid (K = camp (hs bz F k).length bd) := hKe
        have hsl := cutK_run hao (hs bz F k).length hcp K (by rcases hhf2 with ⟨a, b, c⟩ | ⟨g, a, b, c⟩; exact .inl ⟨a, b, by simp [c]⟩; exact .inr ⟨g, a, b, c⟩) hKh
        clear hKe hhf hbf' hhf2 hbf2
        go_wp2
        go_region_held3 (fun w' => w'.cell? ⟨p, 3, none⟩ = some (.slice hao (hs bz F k).length hcp) ∧ w'.cell? ⟨w.heap.size, 0, none⟩ = some (.int .i64 (F : Nat)) ∧ w'.cell? ⟨w.heap.size, 1, none⟩ = some (.int .i64 (L : Nat))) (go_keep) ((go_at_call 28; refine (size_any F L k (by omega) (by omega) HEF.out _).mono ?_; rintro e w' ⟨rfl, rfl⟩))
        have HK2 : K ≤ 12 := by omega
        have HF2 := ((HFr.out.alloc (.cells #[.int .i64 (F : Nat), .int .i64 (L : Nat)] 26)).alloc (.cells #[.int .i64 (F : Nat), .int .i64 (L : Nat)] 26)).drew
        have HM2 : FrRaw (((wy.alloc (.cells #[.int .i64 (F : Nat), .int .i64 (L : Nat)] 26)).alloc (.cells #[.int .i64 (F : Nat), .int .i64 (L : Nat)] 26)).drew) n p (fun k => ft k ∨ w.heap.size ≤ k) F L bd (.slice hao (hs bz F k).length hcp) (.slice bao (bs bz F k).length bcp) (.slice (some ⟨cb, 0, none⟩) (n + 1) (n + 1)) gv (hs bz F k) (bs bz F k) (fun _ => false) := HM.out.two _ _
        generalize ((wy.alloc (.cells #[.int .i64 (F : Nat), .int .i64 (L : Nat)] 26)).alloc (.cells #[.int .i64 (F : Nat), .int .i64 (L : Nat)] 26)).drew = wz at *
        clear HM HX HFr cl y3 y4 yx0 yx1 n1 n2 n3 m1 m2 m3 m4 m5 m6 m7 hsl c5 nil1 nil0 x0 x1
        go_wp2
        go_loopg [113] K (fun gg i wl => ∃ j : Nat, gg = K - j ∧ j ≤ K ∧ i = .int .i64 j ∧ FrRaw wl n p (fun k => ft k ∨ w.heap.size ≤ k) F L bd (.slice hao (hs bz F k).length hcp) (.slice bao (bs bz F k).length bcp) (.slice (some ⟨cb, 0, none⟩) (n + 1) (n + 1)) gv (hs bz F k) (bs bz F k) (inCamp (hs bz F k) j) ∧ Fr ft w wl)
        case atStart => exact ⟨0, by omega, by omega, rfl, HM2.camped (fun _ _ => rfl) (HM2.campRow.2.congr (fun i _ => by simp [inCamp])), HF2⟩
        case round =>
          clear HM2 HF2
          obtain ⟨j, rfl, hj, rfl, hmj, hfj⟩ := hrel
          by_cases hjk : j < K
          · have hjl : j < (hs bz F k).length := by omega
            obtain ⟨hg, ehg⟩ : ∃ g, hao = some ⟨g, 0, none⟩ := by
              rcases own_form hmj.ho with ⟨a, c, e, hh⟩
              simp only [Value.slice.injEq] at e
              obtain ⟨rfl, _, rfl⟩ := e
              rcases hh with ⟨_, _, e⟩ | ⟨g, e, _⟩
              · rw [e] at hjl; exact absurd hjl (by simp)
              · exact ⟨g, e⟩
            obtain ⟨id, hid⟩ : ∃ id, (hs bz F k)[j]? = some id := ⟨_, List.getElem?_eq_getElem hjl⟩
            have hmem := hs_mem bz F k id (List.mem_of_getElem? hid)
            have hidn : id < n + 1 := by have := HEF.out; omega
            have HID : Hid ((hs bz F k)[j]? = some id) := hid
            have q1 : wr.cell? ⟨hg, j, none⟩ = some (.int .i64 (id : Nat)) := by
              subst ehg
              have := hmj.ho.cellAt j (by rw [Nat.mul_one]; exact hjl)
              simpa [ints, hid] using this
            have q2 : wr.cell? ⟨p, 5, none⟩ = some (.slice (some ⟨cb, 0, none⟩) (n + 1) (n + 1)) := hmj.row.cell (i := 5) (by omega)
            have q3 := hmj.campRow.2.cell (i := id) hidn
            have q4 := hmj.campRow.2.frozen id
            have HC : Hid (_ ∧ _) := hmj.campRow
            have HM : Hid (FrRaw wr _ _ _ _ _ _ _ _ _ _ _ _ _) := hmj
            have HFr : Hid (Fr ft w wr) := hfj
            clear hmj hfj hid
            subst ehg
            go_wp2
            have R1 := HM.out.camped (w' := (wr.setCell ⟨cb, id, none⟩ (.bool true))) (cam' := inCamp (hs bz F k) (j + 1)) (fun k hk => Below.heap_setCell _ _ _ _ hk) ((HC.out.2.set id (.bool true)).congr (fun i _ => inCamp_step HID.out i))
            have R2 := HFr.out.setCell (p := ⟨cb, id, none⟩) (fun (hl : cb < w.heap.size) => hcf.resolve_right (by omega)) (.bool true)
            go_roundg (K - (j + 1))
            case measure => omega
            case rel => exact ⟨j + 1, rfl, by omega, by go_num, R1, R2⟩
          · obtain rfl : j = K := by omega
            have HP : EnterPost n p ft F L bd bz w (.returned (.tuple #[])) wr := by
              have hk' := HSS.out
              subst hk'
              have hj' := HKE.out
              subst hj'
              exact ⟨rfl, hfj, _, _, _, _, hmj.trim⟩
            clear hmj hfj
            go_wp2
            go_end0
            exact HP

end Go.Proofs.Ybulkahbw
