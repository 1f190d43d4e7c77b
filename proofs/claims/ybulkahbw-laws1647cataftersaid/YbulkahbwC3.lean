/-
  Package engine: the walk of (*Messages).clearSet.
-/
import Derived.Test.YbulkahbwC2
import Derived.BigQuiet
import Derived.Deep.QuietTactic
import Derived.Deep.RegionHeld3
namespace Go.Proofs.Ybulkahbw
open Go.RowKit Go.Deep

/-- n cells of block b, from the first, hold z -/
def wipe (w : World) (b n : Nat) (z : Value) : World := w.setCells b 0 (List.replicate n z)

theorem setCells_ind (p : World → Prop) (b : Nat) (hp : ∀ w o v, p w → p (w.setCell ⟨b, o, none⟩ v)) : ∀ (vs : List Value) (o : Nat) (w : World), p w → p (w.setCells b o vs)
  | [], _, _, h => h
  | v :: r, o, w, h => setCells_ind p b hp r (o + 1) _ (hp w o v h)
theorem wipe_ind {p : World → Prop} {b : Nat} (hp : ∀ w o v, p w → p (w.setCell ⟨b, o, none⟩ v)) (n : Nat) (z : Value) {w : World} (h : p w) : p (wipe w b n z) := setCells_ind p b hp _ 0 w h
theorem row_cells {b n : Nat} {t : TypeId} (z : Value) : ∀ (m o : Nat) (w : World) (f : Nat → Value), w.rowIs b t n f → (w.setCells b o (List.replicate m z)).rowIs b t n (fun i => if o ≤ i ∧ i < o + m then z else f i)
  | 0, o, w, f, h => h.congr (fun i _ => by rw [if_neg (by omega)])
  | m + 1, o, w, f, h => by
    have := row_cells z m (o + 1) _ _ (h.set o z)
    rw [List.replicate_succ, World.setCells]
    refine this.congr (fun i _ => ?_)
    by_cases h1 : i = o
    · subst h1; rw [if_neg (by omega), if_pos rfl, if_pos (by omega)]
    · by_cases h2 : o + 1 ≤ i ∧ i < o + 1 + m
      · rw [if_pos h2, if_pos (by omega)]
      · rw [if_neg h2, if_neg h1, if_neg (by omega)]
theorem row_wipe {w : World} {b n : Nat} {t : TypeId} {f : Nat → Value} (h : w.rowIs b t n f) (z : Value) : (wipe w b n z).rowIs b t n (fun _ => z) :=
  (row_cells z n 0 w f h).congr (fun i hi => by rw [if_pos (by omega)])
theorem row_wipe_other {w : World} {b b' n m : Nat} {t : TypeId} {f : Nat → Value} (h : w.rowIs b t n f) (hne : b ≠ b') (z : Value) : (wipe w b' m z).rowIs b t n f :=
  wipe_ind (p := fun w => w.rowIs b t n f) (fun _ _ v h => h.setOther hne v) m z h
theorem below_wipe {a w : World} {N b : Nat} (h : Below N a w) (hb : N ≤ b) (n : Nat) (z : Value) : Below N a (wipe w b n z) :=
  wipe_ind (p := fun w => Below N a w) (fun _ o v h => h.setCell (p := ⟨b, o, none⟩) hb v) n z h
theorem own_wipe {w : World} {B b : Nat} {v : Value} {k : Nat} {xs : List Value} (h : w.ownsRow B 3 1 v k xs) (hb : b < B) (n : Nat) (z : Value) : (wipe w b n z).ownsRow B 3 1 v k xs :=
  wipe_ind (p := fun w => w.ownsRow B 3 1 v k xs) (fun _ o v h => ownsRow_setCell_below h (a := ⟨b, o, none⟩) hb v) n z h
theorem size_wipe (w : World) (b n : Nat) (z : Value) : (wipe w b n z).heap.size = w.heap.size :=
  wipe_ind (p := fun w' => w'.heap.size = w.heap.size) (fun w' o v h => by rw [World.size_setCell]; exact h) n z rfl

theorem clear_row {w : World} {b n : Nat} {f : Nat → Value} (t e : TypeId) (z : Value) (ht : Yba.prog.underlying t = some (.slice e)) (hv : ∀ w, (zeroValue e).run Yba.prog w = .ok z w) (hz : z.cells = #[z]) (h1 : z.oneCell' = true) (h : w.rowIs b e n f) (ty : TypeId) :
    (Builtin.clear_ #[t] ty #[.slice (some ⟨b, 0, none⟩) n n]).run Yba.prog w = .ok (.tuple #[]) (wipe w b n z) := by
  rcases Nat.eq_zero_or_pos n with rfl | hn
  · simp [Builtin.clear_, run_underlying ht, wipe, World.setCells]
  · exact Lib.run_clear_slice w t e ty z ht hv hz h1 b 0 n n hn (fun j hj => by rw [Nat.zero_add, h.cell hj]; rfl) (fun j hj => by rw [Nat.zero_add]; exact h.frozen j)

theorem zero66 (w : World) : (zeroValue 66).run Yba.prog w = .ok .nilIface w := by kernel_rfl
theorem zero4 (w : World) : (zeroValue 4).run Yba.prog w = .ok (.bool false) w := by kernel_rfl

/-- how many say yes -/
def cnt (has : Nat → Bool) : Nat → Nat
  | 0 => 0
  | n + 1 => cnt has n + (if has n then 1 else 0)
theorem cnt_le (has : Nat → Bool) (n : Nat) : cnt has n ≤ n := by
  induction n with
  | zero => exact Nat.le_refl _
  | succ n ih => unfold cnt; split <;> omega
theorem cnt_far (has : Nat → Bool) (k n : Nat) (h : n ≤ k) : cnt (upd has k true) n = cnt has n := by
  induction n with
  | zero => rfl
  | succ n ih => unfold cnt; rw [ih (by omega), show upd has k true n = has n from by unfold upd; rw [if_neg (by omega)]]
theorem cnt_upd (has : Nat → Bool) (k n : Nat) (h : k < n) (hk : has k = false) : cnt (upd has k true) n = cnt has n + 1 := by
  induction n with
  | zero => omega
  | succ n ih =>
    unfold cnt
    by_cases e : k = n
    · subst e
      rw [cnt_far has k k (Nat.le_refl _), show upd has k true k = true from by simp [upd], hk]
      simp
    · rw [ih (by omega), show upd has k true n = has n from by unfold upd; rw [if_neg (by omega)]]
      omega
theorem cnt_none (n : Nat) : cnt (fun _ => false) n = 0 := by
  induction n with
  | zero => rfl
  | succ n ih => unfold cnt; rw [ih]; rfl

/-- what holds of the lists at every time -/
structure Inv (n : Nat) (at' : Nat → Option Nat) (has : Nat → Bool) (ids : List Nat) : Prop where
  i1 : ∀ i, i < n → has i = true → (i + 1) ∈ ids
  i2 : ∀ i, i < n → has i = false → at' i = none
  i3 : ∀ d, d ∈ ids → 1 ≤ d ∧ d ≤ n
  i4 : ids.length = cnt has n
theorem Inv.len {n : Nat} {at' : Nat → Option Nat} {has : Nat → Bool} {ids : List Nat} (h : Inv n at' has ids) : ids.length ≤ n := by rw [h.i4]; exact cnt_le _ _
theorem Inv.start (n : Nat) : Inv n (fun _ => none) (fun _ => false) [] := ⟨fun _ _ h => by simp at h, fun _ _ _ => rfl, fun d h => by simp at h, by rw [cnt_none]; rfl⟩
theorem Inv.hit {n : Nat} {at' : Nat → Option Nat} {has : Nat → Bool} {ids : List Nat} (h : Inv n at' has ids) (k : Nat) (hk : has k = true) (x : Option Nat) : Inv n (upd at' k x) has ids :=
  ⟨h.i1, fun i hi hf => by unfold upd; rw [if_neg (fun e => by subst e; rw [hk] at hf; cases hf)]; exact h.i2 i hi hf, h.i3, h.i4⟩
theorem Inv.new {n : Nat} {at' : Nat → Option Nat} {has : Nat → Bool} {ids : List Nat} (h : Inv n at' has ids) (k : Nat) (hkn : k < n) (hk : has k = false) (x : Option Nat) : Inv n (upd at' k x) (upd has k true) (ids ++ [k + 1]) := by
  refine ⟨fun i hi ht => ?_, fun i hi hf => ?_, fun d hd => ?_, ?_⟩
  · by_cases e : i = k
    · subst e; simp
    · unfold upd at ht; rw [if_neg e] at ht; exact List.mem_append_left _ (h.i1 i hi ht)
  · unfold upd at hf ⊢
    by_cases e : i = k
    · rw [if_pos e] at hf; cases hf
    · rw [if_neg e] at hf ⊢; exact h.i2 i hi hf
  · rcases List.mem_append.1 hd with hd | hd
    · exact h.i3 d hd
    · have : d = k + 1 := by simpa using hd
      omega
  · rw [List.length_append, cnt_upd has k n hkn hk, h.i4]; rfl

/-- the state behind 'ids = ids[:0]' -/
theorem clear_end {w w1 : World} {N B M A H n : Nat} {all : Option Nat} {at' : Nat → Option Nat} {has : Nat → Bool} {v v0 : Value} {ids : List Nat} (h : Ms w N B M A H n all at' has v ids)
    (hm : w1.rowIs M 70 6 (msCells all A H n v)) (ha : w1.rowIs A 66 n (fun _ => mv none)) (hh : w1.rowIs H 4 n (fun _ => .bool false)) (hown : w1.ownsRow B 3 1 v0 0 []) (bel : Below N w w1) :
    Ms (w1.setCell ⟨M, 3, none⟩ v0) N B M A H n all (fun _ => none) (fun _ => false) v0 [] ∧ Below N w (w1.setCell ⟨M, 3, none⟩ v0) := by
  refine ⟨⟨(hm.set 3 v0).congr (fun i _ => ?_), ha.setOther h.ma.symm _, hh.setOther h.mh.symm _, ownsRow_setCell_below hown (a := ⟨M, 3, none⟩) h.mB v0, h.ma, h.mh, h.ah, h.mB, h.aB, h.hB, h.nM, h.nA, h.nH, ?_⟩, bel.setCell (p := ⟨M, 3, none⟩) h.nM _⟩
  · unfold msCells
    by_cases h3 : i = 3
    · subst h3; rfl
    · simp [h3]
  · have := bel.size; have := h.sz; simp; omega
/-- .. by way of the two clears -/
theorem clear_end1 {w : World} {N B M A H n : Nat} {all : Option Nat} {at' : Nat → Option Nat} {has : Nat → Bool} {v v0 : Value} {ids : List Nat} (h : Ms w N B M A H n all at' has v ids) (q : Nat) (hown : w.ownsRow B 3 1 v0 0 []) :
    Ms ((wipe (wipe (w.drewN q) A n .nilIface) H n (.bool false)).setCell ⟨M, 3, none⟩ v0) N B M A H n all (fun _ => none) (fun _ => false) v0 [] ∧ Below N w ((wipe (wipe (w.drewN q) A n .nilIface) H n (.bool false)).setCell ⟨M, 3, none⟩ v0) := by
  refine clear_end h (row_wipe_other (row_wipe_other (row_drewN h.m q) h.ma _) h.mh _) (row_wipe_other (row_wipe (row_drewN h.a q) _) h.ah _) (row_wipe (row_wipe_other (row_drewN h.h q) h.ah.symm _) _) ?_ ?_
  · refine own_wipe (own_wipe ?_ h.aB _ _) h.hB _ _
    exact hown
  · exact below_wipe (below_wipe (below_drewN' (Below.refl N w) q) h.nA _ _) h.nH _ _

/-- a slice of the call's own, cut to nothing -/
theorem own_cut {w : World} {B g cap k : Nat} {xs : List Value} (h : w.ownsRow B 3 1 (.slice (some ⟨g, 0, none⟩) k cap) k xs) : w.ownsRow B 3 1 (.slice (some ⟨g, 0, none⟩) 0 cap) 0 [] := by
  rcases h.2 with ⟨e, _⟩ | ⟨g', cap', cur, e, hb, hg, hk, hcm, hcs, htk⟩
  · cases e
  · cases e
    exact ⟨rfl, .inr ⟨_, _, cur, rfl, hb, hg, Nat.zero_le _, hcm, hcs, by simp⟩⟩

set_option maxRecDepth 100000 in
set_option maxHeartbeats 1600000 in
/-- clearSet where many ids are listed. -/
theorem clear_many (N B M A H n : Nat) (all : Option Nat) (at' : Nat → Option Nat) (has : Nat → Bool) (v : Value) (ids : List Nat) (w : World) (h : Ms w N B M A H n all at' has v ids) (hn : n ≤ 40) (hl : ids.length ≤ n) (hb : n ≤ 8 * ids.length) :
    Calls Yba.prog 17 #[.pointer (some ⟨M, 0, none⟩)] w fun e w' => e = .returned (.tuple #[]) ∧ (∃ v', Ms w' N B M A H n all (fun _ => none) (fun _ => false) v' []) ∧ Below N w w' := by
  have c1 : w.cell? ⟨M, 1, none⟩ = some (.slice (some ⟨A, 0, none⟩) n n) := h.m.cell (i := 1) (by omega)
  have c2 : w.cell? ⟨M, 2, none⟩ = some (.slice (some ⟨H, 0, none⟩) n n) := h.m.cell (i := 2) (by omega)
  have c3 : w.cell? ⟨M, 3, none⟩ = some v := h.m.cell (i := 3) (by omega)
  have e1 : ∀ q ty, (Builtin.clear_ #[67] ty #[.slice (some ⟨A, 0, none⟩) n n]).run Yba.prog (w.drewN q) = .ok (.tuple #[]) (wipe (w.drewN q) A n .nilIface) := fun q ty => clear_row 67 66 .nilIface Yba.underlying67 zero66 rfl rfl (row_drewN h.a q) ty
  have rh : ∀ q, (wipe (w.drewN q) A n .nilIface).rowIs H 4 n (fun i => .bool (has i)) := fun q => row_wipe_other (row_drewN h.h q) h.ah.symm _
  have rm : ∀ q, (wipe (w.drewN q) A n .nilIface).rowIs M 70 6 (msCells all A H n v) := fun q => row_wipe_other (row_drewN h.m q) h.ma _
  have e2 : ∀ q ty, (Builtin.clear_ #[22] ty #[.slice (some ⟨H, 0, none⟩) n n]).run Yba.prog (wipe (w.drewN q) A n .nilIface) = .ok (.tuple #[]) (wipe (wipe (w.drewN q) A n .nilIface) H n (.bool false)) := fun q ty => clear_row 22 4 (.bool false) Yba.underlying22 zero4 rfl rfl (rh q) ty
  have m2 : ∀ q, (wipe (w.drewN q) A n .nilIface).cell? ⟨M, 2, none⟩ = some (.slice (some ⟨H, 0, none⟩) n n) := fun q => (rm q).cell (i := 2) (by omega)
  have rm2 : ∀ q, (wipe (wipe (w.drewN q) A n .nilIface) H n (.bool false)).rowIs M 70 6 (msCells all A H n v) := fun q => row_wipe_other (rm q) h.mh _
  have m3 : ∀ q, (wipe (wipe (w.drewN q) A n .nilIface) H n (.bool false)).cell? ⟨M, 3, none⟩ = some v := fun q => (rm2 q).cell (i := 3) (by omega)
  have f3 : ∀ q, (wipe (wipe (w.drewN q) A n .nilIface) H n (.bool false)).frozen? ⟨M, 3, none⟩ = false := fun q => (rm2 q).frozen 3
  clear rh rm rm2
  rcases h.own.2 with ⟨rfl, h0⟩ | ⟨g, cap, cur, rfl, hgB, hg, hk, hcm, hcs, htk⟩
  · obtain rfl : n = 0 := by omega
    have HM : Hid (Ms w N B M A H 0 all at' has (.slice none 0 0) ids) := h
    clear h
    go_enter Yba.func17, Yba.ntmps17
    go_wp2
    go_quiet (fail)
    go_wp2
    go_end0
    have R := clear_end1 HM.out nq (v0 := .slice none 0 0) ⟨rfl, .inl ⟨rfl, rfl⟩⟩
    exact ⟨rfl, ⟨_, R.1⟩, R.2⟩
  · have HM : Hid (Ms w N B M A H n all at' has (.slice (some ⟨g, 0, none⟩) ids.length cap) ids) := h
    clear h hg hcs htk
    go_enter Yba.func17, Yba.ntmps17
    go_wp2
    go_quiet (fail)
    go_wp2
    go_end0
    have R := clear_end1 HM.out nq (own_cut HM.out.own)
    exact ⟨rfl, ⟨_, R.1⟩, R.2⟩

theorem Ms.drewN {w : World} {N B M A H n : Nat} {all : Option Nat} {at' : Nat → Option Nat} {has : Nat → Bool} {v : Value} {ids : List Nat} (h : Ms w N B M A H n all at' has v ids) (q : Nat) : Ms (w.drewN q) N B M A H n all at' has v ids :=
  ⟨row_drewN h.m q, row_drewN h.a q, row_drewN h.h q, h.own, h.ma, h.mh, h.ah, h.mB, h.aB, h.hB, h.nM, h.nA, h.nH, h.sz⟩
/-- another content said of the same cells -/
theorem Ms.congr {w : World} {N B M A H n : Nat} {all : Option Nat} {at' at2 : Nat → Option Nat} {has has2 : Nat → Bool} {v : Value} {ids : List Nat} (h : Ms w N B M A H n all at' has v ids) (e1 : ∀ i, i < n → at' i = at2 i) (e2 : ∀ i, i < n → has i = has2 i) : Ms w N B M A H n all at2 has2 v ids :=
  ⟨h.m, h.a.congr (fun i hi => by rw [e1 i hi]), h.h.congr (fun i hi => by rw [e2 i hi]), h.own, h.ma, h.mh, h.ah, h.mB, h.aB, h.hB, h.nM, h.nA, h.nH, h.sz⟩
/-- both stores of one round -/
theorem clear_round {w w0 : World} {N B M A H n : Nat} {all : Option Nat} {at' : Nat → Option Nat} {has : Nat → Bool} {v : Value} {ids : List Nat} (h : Ms w N B M A H n all at' has v ids) (bel : Below N w0 w) (k : Nat) :
    (Ms ((w.setCell ⟨A, k, none⟩ .nilIface).setCell ⟨H, k, none⟩ (.bool false)) N B M A H n all (upd at' k none) (upd has k false) v ids ∧ Below N w0 ((w.setCell ⟨A, k, none⟩ .nilIface).setCell ⟨H, k, none⟩ (.bool false))) := by
  refine ⟨⟨(h.m.setOther h.ma _).setOther h.mh _, ((h.a.set k .nilIface).congr (fun i _ => ?_)).setOther h.ah _, ((h.h.setOther (a := ⟨A, k, none⟩) h.ah.symm _).set k (.bool false)).congr (fun i _ => ?_), ownsRow_setCell_below (ownsRow_setCell_below h.own (a := ⟨A, k, none⟩) h.aB _) (a := ⟨H, k, none⟩) h.hB _, h.ma, h.mh, h.ah, h.mB, h.aB, h.hB, h.nM, h.nA, h.nH, by simpa using h.sz⟩, (bel.setCell (p := ⟨A, k, none⟩) h.nA _).setCell (p := ⟨H, k, none⟩) h.nH _⟩
  · unfold upd; split <;> rfl
  · unfold upd; split <;> rfl

/-- what is left when the first j ids have been taken out -/
def clr {α : Type} (f : Nat → α) (ids : List Nat) (j : Nat) (z : α) (i : Nat) : α := if (i + 1) ∈ ids.take j then z else f i
theorem clr_step {α : Type} (f : Nat → α) (ids : List Nat) (j k : Nat) (z : α) (hj : ids[j]? = some (k + 1)) (i : Nat) : (if i = k then z else clr f ids j z i) = clr f ids (j + 1) z i := by
  obtain ⟨hl, he⟩ := List.getElem?_eq_some_iff.1 hj
  unfold clr
  rw [List.take_succ_eq_append_getElem hl, he]
  by_cases h1 : i = k
  · subst h1; simp
  · have : ¬ i + 1 = k + 1 := by omega
    simp [h1]

set_option maxRecDepth 100000 in
set_option maxHeartbeats 1600000 in
/-- clearSet where few ids are listed. -/
theorem clear_few (N B M A H n : Nat) (all : Option Nat) (at' : Nat → Option Nat) (has : Nat → Bool) (v : Value) (ids : List Nat) (w : World) (h : Ms w N B M A H n all at' has v ids) (hi : Inv n at' has ids) (hn : n ≤ 40) (hb : 8 * ids.length < n) :
    Calls Yba.prog 17 #[.pointer (some ⟨M, 0, none⟩)] w fun e w' => e = .returned (.tuple #[]) ∧ (∃ v', Ms w' N B M A H n all (fun _ => none) (fun _ => false) v' []) ∧ Below N w w' := by
  have c1 : w.cell? ⟨M, 1, none⟩ = some (.slice (some ⟨A, 0, none⟩) n n) := h.m.cell (i := 1) (by omega)
  have c3 : w.cell? ⟨M, 3, none⟩ = some v := h.m.cell (i := 3) (by omega)
  have hl := hi.len
  rcases h.own.2 with ⟨rfl, h0⟩ | ⟨g, cap, cur, rfl, hgB, hg, hk, hcm, hcs, htk⟩
  · obtain rfl : ids = [] := List.eq_nil_of_length_eq_zero h0
    have hh : ∀ i, i < n → has i = false := fun i hin => by
      cases hc : has i with
      | false => rfl
      | true => exact absurd (hi.i1 i hin hc) (by simp)
    have fz := h.m.frozen 3
    have HM : Hid (Ms w N B M A H n all at' has (.slice none 0 0) []) := h
    have hb' : (0 : Int) < (n : Int) := by simp at hb; omega
    clear h
    go_enter Yba.func17, Yba.ntmps17
    go_wp2
    go_quiet (fail)
    go_wp2
    refine wp_loop_rounds 1 ?_
    rw [rounds_succ]
    go_wp2
    go_end0
    have hD := HM.out.drewN nq
    have R := clear_end HM.out hD.m (hD.a.congr (g := fun _ => mv none) (fun i hin => by rw [hi.i2 i hin (hh i hin)])) (hD.h.congr (g := fun _ => .bool false) (fun i hin => by rw [hh i hin])) (v0 := .slice none 0 0) ⟨rfl, .inl ⟨rfl, rfl⟩⟩ (below_drewN' (Below.refl N w) nq)
    exact ⟨rfl, ⟨_, R.1⟩, R.2⟩
  · have HM : Hid (Ms w N B M A H n all at' has (.slice (some ⟨g, 0, none⟩) ids.length cap) ids) := h
    clear h hg hcs htk
    go_enter Yba.func17, Yba.ntmps17
    go_wp2
    go_quiet (fail)
    go_wp2
    clear c1 c3
    go_loopw [29] (fun i wr => ∃ j : Nat, j ≤ ids.length ∧ i = .int .i64 j ∧ Ms wr N B M A H n all (clr at' ids j none) (clr has ids j false) (.slice (some ⟨g, 0, none⟩) ids.length cap) ids ∧ Below N w wr) (fun i _ => ids.length - (intOf i).toNat)
    case atStart => exact ⟨0, by omega, rfl, (HM.out.drewN nq).congr (fun i _ => by simp [clr]) (fun i _ => by simp [clr]), below_drewN' (Below.refl _ _) nq⟩
    case round =>
      obtain ⟨j, hj, rfl, hms, hbel⟩ := hrel
      have c1 : wr.cell? ⟨M, 1, none⟩ = some (.slice (some ⟨A, 0, none⟩) n n) := hms.m.cell (i := 1) (by omega)
      have c2 : wr.cell? ⟨M, 2, none⟩ = some (.slice (some ⟨H, 0, none⟩) n n) := hms.m.cell (i := 2) (by omega)
      have c3 : wr.cell? ⟨M, 3, none⟩ = some (.slice (some ⟨g, 0, none⟩) ids.length cap) := hms.m.cell (i := 3) (by omega)
      by_cases hlt : j < ids.length
      · obtain ⟨k, hk1⟩ : ∃ k, ids[j]? = some (k + 1) := by
          refine ⟨ids[j] - 1, ?_⟩
          have := hi.i3 _ (List.getElem_mem hlt)
          rw [List.getElem?_eq_getElem hlt]; congr 1; omega
        have hkn : k < n := by
          have := (hi.i3 (k + 1) (List.mem_of_getElem? hk1)).2; omega
        have cg : wr.cell? ⟨g, j, none⟩ = some (.int .i64 ((k : Int) + 1)) := by
          rw [hms.own.cellAt j (by omega), List.getElem?_map, hk1]
          rfl
        have c4 := hms.a.cell hkn
        have f4 := hms.a.frozen k
        have c5 := hms.h.cell hkn
        have f5 := hms.h.frozen k
        have hk0 : (0 : Int) ≤ (k : Int) := by omega
        have hk2 : (k : Int) < (n : Int) := by omega
        have hj0 : (0 : Int) ≤ (j : Int) := by omega
        have hj1 : (j : Int) < (ids.length : Nat) := by omega
        have mh : ¬ M = H := hms.mh
        have hm : ¬ H = M := hms.mh.symm
        have ma : ¬ M = A := hms.ma
        have am : ¬ A = M := hms.ma.symm
        have ah : ¬ A = H := hms.ah
        have ha : ¬ H = A := hms.ah.symm
        have HB : Hid (Below N w wr) := hbel
        have HS : Hid (Ms wr N B M A H n all (clr at' ids j none) (clr has ids j false) (.slice (some ⟨g, 0, none⟩) ids.length cap) ids) := hms
        have HJ : Hid (ids[j]? = some (k + 1)) := hk1
        clear hms hbel hk1
        have hw1 : IntKind.i64.wrap (k : Int) = (k : Int) := by rw [IntKind.wrap_i64]; omega
        have hw2 : IntKind.i64.wrap ((k : Int) + 1 - 1) = (k : Int) := by rw [IntKind.wrap_i64]; omega
        go_wp2
        go_region_held3 (fun w' => w'.cell? ⟨M, 1, none⟩ = some (.slice (some ⟨A, 0, none⟩) n n) ∧ w'.cell? ⟨M, 2, none⟩ = some (.slice (some ⟨H, 0, none⟩) n n)) (go_keep) (fail)
        go_wp2
        have R := clear_round HS.out HB.out k
        go_roundw
        case rel =>
          refine ⟨j + 1, by omega, by go_num, (R.1.drewN 1).congr (fun i _ => ?_) (fun i _ => ?_), R.2.drew⟩
          · exact clr_step at' ids j k none HJ.out i
          · exact clr_step has ids j k false HJ.out i
        case measure => simp [intOf]; omega
      · obtain rfl : j = ids.length := by omega
        have fz := hms.m.frozen 3
        have R := clear_end hms hms.m (hms.a.congr (g := fun _ => mv none) (fun i hin => ?_)) (hms.h.congr (g := fun _ => .bool false) (fun i hin => ?_)) (own_cut hms.own) (Below.refl N wr)
        rotate_left
        · have e : clr at' ids ids.length none i = none := by
            unfold clr; rw [List.take_length]
            split
            · rfl
            · rename_i hne
              refine hi.i2 i hin ?_
              cases hc : has i with
              | false => rfl
              | true => exact absurd (hi.i1 i hin hc) hne
          rw [e]
        · have e : clr has ids ids.length false i = false := by
            unfold clr; rw [List.take_length]
            split
            · rfl
            · rename_i hne
              cases hc : has i with
              | false => rfl
              | true => exact absurd (hi.i1 i hin hc) hne
          rw [e]
        have HR : Hid (_ ∧ _) := R
        have HB : Hid (Below N w wr) := hbel
        clear R hms hbel c1 c2
        go_wp2
        go_end0
        exact ⟨rfl, ⟨_, HR.out.1⟩, HB.out.trans HR.out.2⟩

/-- clearSet. -/
theorem clear_any (N B M A H n : Nat) (all : Option Nat) (at' : Nat → Option Nat) (has : Nat → Bool) (v : Value) (ids : List Nat) (w : World) (h : Ms w N B M A H n all at' has v ids) (hi : Inv n at' has ids) (hn : n ≤ 40) :
    Calls Yba.prog 17 #[.pointer (some ⟨M, 0, none⟩)] w fun e w' => e = .returned (.tuple #[]) ∧ (∃ v', Ms w' N B M A H n all (fun _ => none) (fun _ => false) v' []) ∧ Below N w w' := by
  by_cases hb : n ≤ 8 * ids.length
  · exact clear_many N B M A H n all at' has v ids w h hn hi.len hb
  · exact clear_few N B M A H n all at' has v ids w h hi hn (by omega)
end Go.Proofs.Ybulkahbw
