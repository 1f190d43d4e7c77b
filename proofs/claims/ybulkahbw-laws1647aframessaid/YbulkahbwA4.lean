/-
  Package attack: the walk of (*team).frame.
-/
import Derived.Test.YbulkahbwRows
import Derived.Test.YbulkahbwA3
import Derived.WalkKit
import Derived.WalkSpells
import Derived.OwnWalk
import Derived.Outline
import Derived.RegionTactic
import Derived.Deep.LoopGhost
import Derived.Lib.SliceRun
import Derived.BigQuiet
import Derived.Deep.QuietTactic
import Derived.Deep.RegionHeld3
namespace Go.Proofs.Ybulkahbw
open Go.RowKit Go.Deep

theorem Yba.info24 : (Yba.prog.info? 24).map (fun i => (i.zero, i.size, i.bytes)) = some (some (.pointer none), 1, 8) := by kernel_rfl
theorem Yba.underlying33' : Yba.prog.underlying 33 = some (.slice 24) := by kernel_rfl

set_option maxRecDepth 100000 in
set_option maxHeartbeats 1600000 in
/-- (*team).frame, no set: the frame of everyone -/
theorem frame_none {n T E Bb N : Nat} {bz : Nat → Bool} {ow : Nat → Option Nat} {cv : Value} {ps : List Nat} {st : Nat → Option (Nat × Nat × Nat)} {z : Nat → Value} {bd d : Nat} (w : World) (h : Team w n T E Bb N bz ow cv ps st z 0 0 bd d) :
    Calls Yba.prog 8 #[.pointer (some ⟨T, 0, none⟩)] w fun e w' => e = .returned (.pointer (some ⟨E, 0, none⟩)) ∧ Fr (fun _ => False) w w' := by
  have c4 : w.cell? ⟨T, 4, none⟩ = some (.pointer (some ⟨E, 0, none⟩)) := h.t.cell (i := 4) (by omega)
  have k7 : w.cell? ⟨T, 7, none⟩ = some (.int .i64 0) := h.t.cell (i := 7) (by omega)
  have k8 : w.cell? ⟨T, 8, none⟩ = some (.int .i64 0) := h.t.cell (i := 8) (by omega)
  have k9 : w.cell? ⟨T, 9, none⟩ = some (.int .i64 0) := h.t.cell (i := 9) (by omega)
  have k10 : w.cell? ⟨T, 10, none⟩ = some (.int .i64 0) := h.t.cell (i := 10) (by omega)
  have k11 : w.cell? ⟨T, 11, none⟩ = some (.int .i64 0) := h.t.cell (i := 11) (by omega)
  have k12 : w.cell? ⟨T, 12, none⟩ = some (.int .i64 0) := h.t.cell (i := 12) (by omega)
  have k13 : w.cell? ⟨T, 13, none⟩ = some (.int .i64 0) := h.t.cell (i := 13) (by omega)
  have k14 : w.cell? ⟨T, 14, none⟩ = some (.int .i64 (bd : Nat)) := h.t.cell (i := 14) (by omega)
  have k15 : w.cell? ⟨T, 15, none⟩ = some (.int .i64 (d : Nat)) := h.t.cell (i := 15) (by omega)
  have k16 : w.cell? ⟨T, 16, none⟩ = some (.bool false) := h.t.cell (i := 16) (by omega)
  have k17 : w.cell? ⟨T, 17, none⟩ = some (.int .i64 0) := h.t.cell (i := 17) (by omega)
  have k18 : w.cell? ⟨T, 18, none⟩ = some (.int .i64 0) := h.t.cell (i := 18) (by omega)
  have k19 : w.cell? ⟨T, 19, none⟩ = some (.int .i64 0) := h.t.cell (i := 19) (by omega)
  have k20 : w.cell? ⟨T, 20, none⟩ = some (.int .i64 0) := h.t.cell (i := 20) (by omega)
  have hne := World.new_ne w _ c4
  have hne' : ¬ T = w.heap.size := fun e => hne e.symm
  have c4' : ∀ o, (w.alloc o).cell? ⟨T, 4, none⟩ = some (.pointer (some ⟨E, 0, none⟩)) := fun o => (World.cell?_of_block (w := w) (Below.heap_alloc _ _ _ h.t.lt)).trans c4
  clear h
  go_enter Yba.func8, Yba.ntmps8
  go_wp2
  go_ret
  exact ⟨rfl, (Fr.refl _ w).alloc _⟩

/-- what (*team).frame leaves, a set asked for -/
def FramePost (w : World) (n T E Bb N : Nat) (bz : Nat → Bool) (ow : Nat → Option Nat) (cv : Value) (ps : List Nat) (st : Nat → Option (Nat × Nat × Nat)) (z : Nat → Value) (F L bd d : Nat) (e : Ending) (w' : World) : Prop :=
  ∃ ow' cv' ps' p, e = .returned (.pointer (some ⟨p, 0, none⟩)) ∧ ps'[d]? = some p ∧ ps'.length = max ps.length (d + 1) ∧ Team w' n T E Bb N bz ow' cv' ps' (fun i => if i = d then some (F, L, bd) else st i) z F L bd d ∧ Fr (fun k => k = T ∨ N ≤ k ∧ (cv.ownBlock = some k ∨ ow k ≠ none)) w w'

theorem push_cell {w w1 : World} {n T E Bb N : Nat} {bz : Nat → Bool} {ow : Nat → Option Nat} {cv : Value} {ps : List Nat} {st : Nat → Option (Nat × Nat × Nat)} {z : Nat → Value} {F L bd d : Nat} {o1 o2 : Obj} (h : Team w n T E Bb N bz ow cv ps st z F L bd d) (hg : ((w.alloc o1).alloc o2).grownBy w1 cv.ownBlock) : w1.cell? ⟨T, 5, none⟩ = some cv ∧ w1.frozen? ⟨T, 5, none⟩ = false := by
  have rT : w1.rowIs T 43 32 (tmCells z n E Bb cv F L bd d) := ((h.t.alloc o1).alloc o2).of_block (hg.block T (by have := h.t.lt; simp; omega) (own_ne_row h.c h.t (by decide)).symm)
  exact ⟨rT.cell (i := 5) (by omega), rT.frozen 5⟩
def stCells (F L bd d : Nat) (j : Nat) : Value := if j = 5 then .int .i64 (F : Nat) else if j = 6 then .int .i64 (L : Nat) else if j = 7 then .int .i64 (bd : Nat) else if j = 8 then .int .i64 (d : Nat) else if j = 9 then .bool false else .int .i64 0
theorem st_row (w : World) (F L bd d : Nat) : (w.alloc (.cells #[.int .i64 0, .int .i64 0, .int .i64 0, .int .i64 0, .int .i64 0, .int .i64 (F : Nat), .int .i64 (L : Nat), .int .i64 (bd : Nat), .int .i64 (d : Nat), .bool false, .int .i64 0, .int .i64 0, .int .i64 0, .int .i64 0] 36)).rowIs w.heap.size 36 14 (stCells F L bd d) :=
  World.rowIs_alloc w #[.int .i64 0, .int .i64 0, .int .i64 0, .int .i64 0, .int .i64 0, .int .i64 (F : Nat), .int .i64 (L : Nat), .int .i64 (bd : Nat), .int .i64 (d : Nat), .bool false, .int .i64 0, .int .i64 0, .int .i64 0, .int .i64 0] 36 _ (fun i hi => by
    match i, hi with
    | 0, _ => rfl
    | 1, _ => rfl
    | 2, _ => rfl
    | 3, _ => rfl
    | 4, _ => rfl
    | 5, _ => rfl
    | 6, _ => rfl
    | 7, _ => rfl
    | 8, _ => rfl
    | 9, _ => rfl
    | 10, _ => rfl
    | 11, _ => rfl
    | 12, _ => rfl
    | 13, _ => rfl)
theorem Team.same {w w' : World} {n T E Bb N : Nat} {bz : Nat → Bool} {ow : Nat → Option Nat} {cv : Value} {ps : List Nat} {st : Nat → Option (Nat × Nat × Nat)} {z : Nat → Value} {F L bd d : Nat} (h : Team w n T E Bb N bz ow cv ps st z F L bd d) (hs : w.heap.size ≤ w'.heap.size) (hb : ∀ k, k < w.heap.size → w'.heap[k]? = w.heap[k]?) : Team w' n T E Bb N bz ow cv ps st z F L bd d :=
  ⟨h.t.of_block (hb _ h.t.lt), h.e.of_block (hb _ h.e.lt), h.b.of_block (hb _ h.b.lt), own_stays h.c (fun g hg => hb g (own_block h.c hg).2.1), fun i p hp => (h.fr i p hp).stays (fun k hk => hb k (h.own k i hk).2) (fun _ hk => hk), fun k i hk => ⟨(h.own k i hk).1, Nat.lt_of_lt_of_le (h.own k i hk).2 hs⟩, h.oc, h.oN, ⟨h.lt.1, h.lt.2.1, h.lt.2.2.1, Nat.le_trans h.lt.2.2.2 hs⟩, h.len⟩
theorem Team.drew {w : World} {n T E Bb N : Nat} {bz : Nat → Bool} {ow : Nat → Option Nat} {cv : Value} {ps : List Nat} {st : Nat → Option (Nat × Nat × Nat)} {z : Nat → Value} {F L bd d : Nat} (h : Team w n T E Bb N bz ow cv ps st z F L bd d) : Team w.drew n T E Bb N bz ow cv ps st z F L bd d := h.same (Nat.le_refl _) (fun _ _ => rfl)
theorem ptr_form {w : World} {v : Value} {l : List Nat} (h : w.ownsRow 0 24 1 v l.length (ptrs l)) : ∃ ao cap, v = .slice ao l.length cap ∧ ((ao = none ∧ cap = 0 ∧ l = []) ∨ ∃ g, ao = some ⟨g, 0, none⟩ ∧ l.length ≤ cap ∧ cap ≤ maxLen) := by
  rcases h.2 with ⟨rfl, h0⟩ | ⟨g, cap, cur, rfl, _, _, hk, hm, _⟩
  · have : l = [] := List.eq_nil_of_length_eq_zero h0
    subst this
    exact ⟨none, 0, rfl, .inl ⟨rfl, rfl, rfl⟩⟩
  · exact ⟨_, _, rfl, .inr ⟨g, rfl, hk, hm⟩⟩

theorem frame_call {n T E Bb N : Nat} {bz : Nat → Bool} {ow : Nat → Option Nat} {cv : Value} {ps : List Nat} {st : Nat → Option (Nat × Nat × Nat)} {z : Nat → Value} {F L bd d p : Nat} {F0 L0 bd0 : Nat} {hv bv cv0 gv : Value} {hl bl : List Nat} {cam : Nat → Bool} {w : World} (h : Team w n T E Bb N bz ow cv ps st z F L bd d)
    (_hp : ps[d]? = some p) (hr : FrRaw w n p (fun k => ow k = some d) F0 L0 bd0 hv bv cv0 gv hl bl cam) (hF : 1 ≤ F) (hFL : F ≤ L) (hLn : L ≤ n) (hbd : bd ≤ n) (hn : n ≤ 12) :
    Calls Yba.prog 20 #[.pointer (some ⟨p, 0, none⟩), .agg #[.int .i64 (F : Nat), .int .i64 (L : Nat)], .int .i64 (bd : Nat), .slice (some ⟨Bb, 0, none⟩) (n + 1) (n + 1)] w fun e w' => e = .returned (.tuple #[]) ∧ EnterPost n p (fun k => ow k = some d) F L bd bz w (.returned (.tuple #[])) w' :=
  (enter_any n p Bb bz (fun k => ow k = some d) F0 L0 bd0 F L bd hv bv cv0 gv hl bl cam w hr (fun k hk => (h.own k d hk).2) h.b (fun e => by have := h.own Bb d e; have := h.lt; omega) hF hFL hLn hbd hn).mono (fun e w' h => ⟨h.1, rfl, h.2⟩)
set_option maxRecDepth 100000 in
set_option maxHeartbeats 1600000 in
theorem frame_some {n T E Bb N : Nat} {bz : Nat → Bool} {ow : Nat → Option Nat} {cv : Value} {ps : List Nat} {st : Nat → Option (Nat × Nat × Nat)} {z : Nat → Value} {F L bd d : Nat} (w : World) (h : Team w n T E Bb N bz ow cv ps st z F L bd d)
    (hst : ∀ i, ps.length ≤ i → st i = none) (hd : d < 8) (hF : 1 ≤ F) (hFL : F ≤ L) (hLn : L ≤ n) (hbd : bd ≤ n) (hn : n ≤ 12) :
    Calls Yba.prog 8 #[.pointer (some ⟨T, 0, none⟩)] w (FramePost w n T E Bb N bz ow cv ps st z F L bd d) := by
  obtain ⟨i0, hi0, hz0, hz1, hz2⟩ := info_parts Yba.info24
  have c4 : w.cell? ⟨T, 4, none⟩ = some (.pointer (some ⟨E, 0, none⟩)) := h.t.cell (i := 4) (by omega)
  have k7 : w.cell? ⟨T, 7, none⟩ = some (.int .i64 0) := h.t.cell (i := 7) (by omega)
  have k8 : w.cell? ⟨T, 8, none⟩ = some (.int .i64 0) := h.t.cell (i := 8) (by omega)
  have k9 : w.cell? ⟨T, 9, none⟩ = some (.int .i64 0) := h.t.cell (i := 9) (by omega)
  have k10 : w.cell? ⟨T, 10, none⟩ = some (.int .i64 0) := h.t.cell (i := 10) (by omega)
  have k11 : w.cell? ⟨T, 11, none⟩ = some (.int .i64 0) := h.t.cell (i := 11) (by omega)
  have k12 : w.cell? ⟨T, 12, none⟩ = some (.int .i64 (F : Nat)) := h.t.cell (i := 12) (by omega)
  have k13 : w.cell? ⟨T, 13, none⟩ = some (.int .i64 (L : Nat)) := h.t.cell (i := 13) (by omega)
  have k14 : w.cell? ⟨T, 14, none⟩ = some (.int .i64 (bd : Nat)) := h.t.cell (i := 14) (by omega)
  have k15 : w.cell? ⟨T, 15, none⟩ = some (.int .i64 (d : Nat)) := h.t.cell (i := 15) (by omega)
  have k16 : w.cell? ⟨T, 16, none⟩ = some (.bool false) := h.t.cell (i := 16) (by omega)
  have k17 : w.cell? ⟨T, 17, none⟩ = some (.int .i64 0) := h.t.cell (i := 17) (by omega)
  have k18 : w.cell? ⟨T, 18, none⟩ = some (.int .i64 0) := h.t.cell (i := 18) (by omega)
  have k19 : w.cell? ⟨T, 19, none⟩ = some (.int .i64 0) := h.t.cell (i := 19) (by omega)
  have k20 : w.cell? ⟨T, 20, none⟩ = some (.int .i64 0) := h.t.cell (i := 20) (by omega)
  have hne := World.new_ne w _ c4
  have hne' : ¬ T = w.heap.size := fun e => hne e.symm
  have m0 : ((F : Int) == 0) = false := beq_eq_false_iff_ne.2 (by omega)
  have HT : Hid (Team w n T E Bb N bz ow cv ps st z F L bd d) := h
  clear h
  go_enter Yba.func8, Yba.ntmps8
  go_wp2
  clear c4 k7 k8 k9 k10 k11 k12 k13 k14 k15 k16 k17 k18 k19 k20
  go_loopg [] (8 - ps.length) (fun gg wr => ∃ ow1 cv1 ps1, gg = 8 - List.length ps1 ∧ ps.length ≤ ps1.length ∧ ps1.length ≤ max ps.length (d + 1) ∧ Team wr n T E Bb N bz ow1 cv1 ps1 st z F L bd d ∧ wr.rowIs w.heap.size 36 14 (stCells F L bd d) ∧ Fr (fun k => k = T ∨ N ≤ k ∧ (cv.ownBlock = some k ∨ ow k ≠ none)) w wr ∧ ow1 w.heap.size = none ∧ (∀ k, k < w.heap.size → (cv1.ownBlock = some k → cv.ownBlock = some k) ∧ (ow1 k ≠ none → ow k ≠ none)))
  case atStart => exact ⟨ow, cv, ps, rfl, Nat.le_refl _, by omega, HT.out.same (by simp) (fun k hk => Below.heap_alloc _ _ _ hk), st_row w F L bd d, (Fr.refl _ w).alloc _, by
    cases ho : ow w.heap.size with
    | none => rfl
    | some i => have := HT.out.own _ i ho; omega, fun k _ => ⟨id, id⟩⟩
  case round =>
    obtain ⟨ow1, cv1, ps1, rfl, hp1, hp2, hT, hS, hFr, hoS, hsub⟩ := hrel
    have hlt := hT.lt
    have hwl := HT.out.lt
    obtain ⟨ao, cap, hcv, hcf⟩ := ptr_form hT.c
    subst hcv
    have t5 : wr.cell? ⟨T, 5, none⟩ = some (.slice ao ps1.length cap) := hT.t.cell (i := 5) (by omega)
    have s5 : wr.cell? ⟨w.heap.size, 5, none⟩ = some (.int .i64 (F : Nat)) := hS.cell (i := 5) (by omega)
    have s6 : wr.cell? ⟨w.heap.size, 6, none⟩ = some (.int .i64 (L : Nat)) := hS.cell (i := 6) (by omega)
    have s7 : wr.cell? ⟨w.heap.size, 7, none⟩ = some (.int .i64 (bd : Nat)) := hS.cell (i := 7) (by omega)
    have s8 : wr.cell? ⟨w.heap.size, 8, none⟩ = some (.int .i64 (d : Nat)) := hS.cell (i := 8) (by omega)
    have HTm : Hid (Team wr n T E Bb N bz ow1 _ ps1 st z F L bd d) := hT
    have HS : Hid (wr.rowIs w.heap.size 36 14 (stCells F L bd d)) := hS
    have HFr : Hid (Fr _ w wr) := hFr
    by_cases hlen : ps1.length ≤ d
    · have hb1 : (ps1.length : Int) ≤ (d : Int) := by omega
      have HSub : Hid (∀ k, k < w.heap.size → _) := hsub
      clear hT hS hFr hsub
      have HN : Hid (((wr.drew.alloc (.cells zeroFr 30)).alloc (.cells #[.pointer (some ⟨wr.heap.size, 0, none⟩)] 24)).heap[wr.heap.size + 1]? = some (.cells #[.pointer (some ⟨wr.heap.size, 0, none⟩)] 24 (0, 0))) := by
        have e : wr.heap.size + 1 = (wr.drew.alloc (.cells zeroFr 30)).heap.size := by simp
        rw [e]
        exact heap_alloc_new (wr.drew.alloc (.cells zeroFr 30)) (.cells #[.pointer (some ⟨wr.heap.size, 0, none⟩)] 24)
      have hml : ps1.length + 1 ≤ maxLen := by unfold maxLen; omega
      have hl2 : (ps1.length + 1) * 8 ≤ 140737488355328 := by omega
      go_wp2
      go_region
      go_wp2_with (at_builtin; refine wpList_append_lies _ rfl _ _ _ rfl 0 24 i0 _ 1 8 Yba.underlying33' hi0 hz0 hz1 hz2 rfl (by omega) (.slice ao ps1.length cap) ps1.length (ptrs ps1) (by rfl) ((HTm.out.drew.c.alloc _).alloc _) ⟨wr.heap.size + 1, 0, none⟩ 1 1 [.pointer (some ⟨wr.heap.size, 0, none⟩)] (by rfl) (by rfl) (World.news_of_block (cs := #[.pointer (some ⟨wr.heap.size, 0, none⟩)]) (t := 24) (fr := (0, 0)) HN.out) (by simp [Value.oneCell']) (by omega) hml hl2 (by omega) (wr.heap.size + 2) (by simp) ?_; intro g cap' w1 hown1 hgrow hat hlt1; obtain ⟨d1, d2⟩ := push_cell HTm.out.drew hgrow)
      have R1 := team_push (w := wr.drew) HTm.out.drew hgrow (by rw [ptrs_snoc]; exact hown1) hat (hst _ hp1) (by omega)
      have R2 : (w1.setCell ⟨T, 5, none⟩ (.slice (some ⟨g, 0, none⟩) (ps1.length + 1) cap')).rowIs w.heap.size 36 14 (stCells F L bd d) := by
        refine World.rowIs.setOther ?_ (show w.heap.size ≠ T by omega) _
        exact ((HS.out.drew.alloc (.cells zeroFr 30)).alloc (.cells #[.pointer (some ⟨wr.heap.size, 0, none⟩)] 24)).of_block (hgrow.block _ (by have := HS.out.lt; simp; omega) (own_ne_row HTm.out.c HS.out (by decide)).symm)
      have R3 := ((((HFr.out.drew).alloc (.cells zeroFr 30)).alloc (.cells #[.pointer (some ⟨wr.heap.size, 0, none⟩)] 24)).grown hgrow (fun k hk hkl => .inr ⟨HTm.out.oN k hk, .inl ((HSub.out k hkl).1 hk)⟩)).setCell (p := ⟨T, 5, none⟩) (fun _ => .inl rfl) (.slice (some ⟨g, 0, none⟩) (ps1.length + 1) cap')
      have hSl := HS.out.lt
      go_roundg (8 - (ps1.length + 1))
      case measure => omega
      case rel =>
        refine ⟨_, _, _, by simp, by simp; omega, by simp; omega, R1, R2, R3, ?_, ?_⟩
        · show (if w.heap.size = wr.heap.size then some ps1.length else ow1 w.heap.size) = none
          rw [if_neg (by omega)]; exact hoS
        · intro k hk
          refine ⟨fun hx => ?_, fun hx => ?_⟩
          · have e : g = k := by simpa [Value.ownBlock] using hx
            subst e
            rcases hat with ha | ha
            · exact (HSub.out g hk).1 ha
            · omega
          · have hx' : (if k = wr.heap.size then some ps1.length else ow1 k) ≠ none := hx
            rw [if_neg (by omega)] at hx'
            exact (HSub.out k hk).2 hx'
    · have hb1 : ((ps1.length : Int) ≤ (d : Int)) = False := eq_false (by omega)
      have hpl : ps1.length = max ps.length (d + 1) := by omega
      obtain ⟨g, rfl⟩ : ∃ g, ao = some ⟨g, 0, none⟩ := by
        rcases hcf with ⟨_, _, e⟩ | ⟨g, e, _⟩
        · rw [e] at hlen; exact absurd hlen (by simp)
        · exact ⟨g, e⟩
      obtain ⟨p, hpd⟩ : ∃ p, ps1[d]? = some p := ⟨_, List.getElem?_eq_getElem (by omega)⟩
      have cg : wr.cell? ⟨g, d, none⟩ = some (.pointer (some ⟨p, 0, none⟩)) := by
        have := hT.c.cellAt d (by omega)
        simpa [ptrs, hpd] using this
      obtain ⟨F0, L0, bd0, hv, bv, cv0, gv, hl, bl, cam, hraw, hs0⟩ := (hT.fr d p hpd).raw
      have p0 : wr.cell? ⟨p, 0, none⟩ = some (.int .i64 (F0 : Nat)) := hraw.row.cell (i := 0) (by omega)
      have p1 : wr.cell? ⟨p, 1, none⟩ = some (.int .i64 (L0 : Nat)) := hraw.row.cell (i := 1) (by omega)
      have p2 : wr.cell? ⟨p, 2, none⟩ = some (.int .i64 (bd0 : Nat)) := hraw.row.cell (i := 2) (by omega)
      have t2 : wr.cell? ⟨T, 2, none⟩ = some (.slice (some ⟨Bb, 0, none⟩) (n + 1) (n + 1)) := hT.t.cell (i := 2) (by omega)
      have hd2 : (d : Int) < (ps1.length : Int) := by omega
      have hd0 : (0 : Int) ≤ (d : Int) := by omega
      have HR : Hid (FrRaw wr _ _ _ _ _ _ _ _ _ _ _ _ _) := hraw
      have HS0 : Hid (_ ∨ _) := hs0
      have HSub : Hid (∀ k, k < w.heap.size → _) := hsub
      have HPD : Hid (ps1[d]? = some p) := hpd
      have HPL : Hid (ps1.length = max ps.length (d + 1)) := hpl
      clear hT hS hFr hsub hraw hs0 hpd hpl hcf
      by_cases e0 : F0 = F ∧ L0 = L ∧ bd0 = bd
      · obtain ⟨rfl, rfl, rfl⟩ := e0
        go_wp2
        go_region
        go_wp2
        go_region
        go_wp2
        go_region
        go_wp2
        go_ret
        have hst0 : st d = some (F0, L0, bd0) := by
          rcases HS0.out with ⟨_, e, _⟩ | e
          · omega
          · exact e
        have est : (fun i => if i = d then some (F0, L0, bd0) else st i) = st := by
          funext i
          by_cases hi : i = d
          · subst hi; rw [if_pos rfl, hst0]
          · rw [if_neg hi]
        exact ⟨ow1, _, ps1, p, rfl, HPD.out, HPL.out, by rw [est]; exact HTm.out.drew.drew.drew, HFr.out.drew.drew.drew⟩
      · have e1 : (((F0 : Int) == (F : Int)) = false) ∨ (F = F0 ∧ ((L0 : Int) == (L : Int)) = false) ∨ (F = F0 ∧ L = L0 ∧ ((bd0 : Int) == (bd : Int)) = false) := by
          simp only [beq_eq_false_iff_ne]; omega
        rcases e1 with e1 | ⟨rfl, e1⟩ | ⟨rfl, rfl, e1⟩
        all_goals
          go_wp2
          go_region
          go_wp2
          go_region
          go_wp2
          go_region
          go_wp2
          have HT4 : Hid (Team wr.drew.drew.drew.drew n T E Bb N bz ow1 _ ps1 st z F L bd d) := HTm.out.drew.drew.drew.drew
          have HF4 : Hid (Fr _ w wr.drew.drew.drew.drew) := HFr.out.drew.drew.drew.drew
          have HR4 : Hid (FrRaw wr.drew.drew.drew.drew _ _ _ _ _ _ _ _ _ _ _ _ _) := HR.out.stays (fun _ _ => rfl) (fun _ hk => hk)
          have HS4 : Hid (wr.drew.drew.drew.drew.rowIs w.heap.size 36 14 (stCells F L bd d)) := HS.out.drew.drew.drew.drew
          go_region_held3 (fun w' => w'.cell? ⟨T, 2, none⟩ = some (.slice (some ⟨Bb, 0, none⟩) (n + 1) (n + 1)) ∧ w'.cell? ⟨w.heap.size, 5, none⟩ = some (.int .i64 (F : Nat)) ∧ w'.cell? ⟨w.heap.size, 6, none⟩ = some (.int .i64 (L : Nat)) ∧ w'.cell? ⟨w.heap.size, 7, none⟩ = some (.int .i64 (bd : Nat))) (go_keep) ((go_at_call 20; refine (frame_call HT4.out HPD.out HR4.out hF hFL hLn hbd hn).mono ?_; rintro e w' ⟨rfl, hE⟩; have q1 : w'.cell? ⟨T, 2, none⟩ = some (.slice (some ⟨Bb, 0, none⟩) (n + 1) (n + 1)) := (team_enter HT4.out HPD.out ⟨hF, hFL, hLn, hbd⟩ hE).t.cell (i := 2) (by omega); have r1 := hE.2.1.row HS4.out (by rw [hoS]; simp); have q2 : w'.cell? ⟨w.heap.size, 5, none⟩ = some (.int .i64 (F : Nat)) := r1.cell (i := 5) (by omega); have q3 : w'.cell? ⟨w.heap.size, 6, none⟩ = some (.int .i64 (L : Nat)) := r1.cell (i := 6) (by omega); have q4 : w'.cell? ⟨w.heap.size, 7, none⟩ = some (.int .i64 (bd : Nat)) := r1.cell (i := 7) (by omega)))
          go_wp2
          go_ret
          exact ⟨_, _, ps1, p, rfl, HPD.out, HPL.out, team_enter HT4.out HPD.out ⟨hF, hFL, hLn, hbd⟩ hE, HF4.out.trans' hE.2.1 (fun k hk (e : ow1 k = some d) => .inr ⟨(HT4.out.own k d e).1, .inr ((HSub.out k hk).2 (by rw [e]; simp))⟩)⟩
end Go.Proofs.Ybulkahbw
