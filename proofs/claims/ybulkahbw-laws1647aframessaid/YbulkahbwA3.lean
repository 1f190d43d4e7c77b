/-
  Package attack: the team in memory: its block, the frames of its calls.
-/
import Derived.Test.YbulkahbwRows
import Derived.Test.YbulkahbwA2
import Derived.WalkKit
import Derived.WalkSpells
import Derived.OwnWalk
import Derived.Outline
import Derived.RegionTactic
import Derived.Deep.LoopGhost
import Derived.Lib.SliceRun
import Derived.BigQuiet
import Derived.Deep.QuietTactic
import Derived.Deep.RegionHeld3
namespace Go.Proofs.Ybulkahbw
open Go.RowKit Go.Deep

/-- what the cells of a team hold; z: those that the road does not look at -/
def tmCells (z : Nat → Value) (n E Bb : Nat) (cv : Value) (F L bd d : Nat) (j : Nat) : Value :=
  if j = 0 then .int .i64 (n : Nat) else if j = 2 then .slice (some ⟨Bb, 0, none⟩) (n + 1) (n + 1) else if j = 4 then .pointer (some ⟨E, 0, none⟩) else if j = 5 then cv
  else if j = 12 then .int .i64 (F : Nat) else if j = 13 then .int .i64 (L : Nat) else if j = 14 then .int .i64 (bd : Nat) else if j = 15 then .int .i64 (d : Nat) else if j = 16 then .bool false else if 7 ≤ j ∧ j ≤ 20 then .int .i64 0 else z j

/-- a frame of the calls: not entered yet, or entered for a set and a bound -/
def FrOk (w : World) (n : Nat) (bz : Nat → Bool) (p : Nat) (ft : Nat → Prop) : Option (Nat × Nat × Nat) → Prop
  | none => ∃ gv, FrRaw w n p ft 0 0 0 (.slice none 0 0) (.slice none 0 0) (.slice none 0 0) gv [] [] (fun _ => false)
  | some (F, L, bd) => (1 ≤ F ∧ F ≤ L ∧ L ≤ n ∧ bd ≤ n) ∧ ∃ hv bv cb gv, FrRaw w n p ft F L bd hv bv (.slice (some ⟨cb, 0, none⟩) (n + 1) (n + 1)) gv (hs bz F (L + 1 - F)) (bs bz F (L + 1 - F)) (inCamp (hs bz F (L + 1 - F)) (camp (hs bz F (L + 1 - F)).length bd))

def ptrs (ps : List Nat) : List Value := ps.map fun p => Value.pointer (some ⟨p, 0, none⟩)

structure Team (w : World) (n T E Bb N : Nat) (bz : Nat → Bool) (ow : Nat → Option Nat) (cv : Value) (ps : List Nat) (st : Nat → Option (Nat × Nat × Nat)) (z : Nat → Value) (F L bd d : Nat) : Prop where
  t : w.rowIs T 43 32 (tmCells z n E Bb cv F L bd d)
  e : w.rowIs E 30 9 (frCells 0 0 0 (.slice none 0 0) (.slice none 0 0) (.slice none 0 0) (.slice none 0 0))
  b : w.rowIs Bb 4 (n + 1) (fun i => .bool (bz i))
  c : w.ownsRow 0 24 1 cv ps.length (ptrs ps)
  fr : ∀ i p, ps[i]? = some p → FrOk w n bz p (fun k => ow k = some i) (st i)
  own : ∀ k i, ow k = some i → N ≤ k ∧ k < w.heap.size
  oc : ∀ g, cv.ownBlock = some g → ow g = none
  oN : ∀ g, cv.ownBlock = some g → N ≤ g
  lt : T < N ∧ E < N ∧ Bb < N ∧ N ≤ w.heap.size
  len : ps.length ≤ 8


def zeroFr : Array Value := #[.int .i64 0, .int .i64 0, .int .i64 0, .slice none 0 0, .slice none 0 0, .slice none 0 0, .int .u64 0, .int .u64 0, .slice none 0 0]
theorem zeroFr_row (w : World) : (w.alloc (.cells zeroFr 30)).rowIs w.heap.size 30 9 (frCells 0 0 0 (.slice none 0 0) (.slice none 0 0) (.slice none 0 0) (.slice none 0 0)) :=
  World.rowIs_alloc w zeroFr 30 _ (fun i hi => by
    match i, hi with
    | 0, _ => rfl
    | 1, _ => rfl
    | 2, _ => rfl
    | 3, _ => rfl
    | 4, _ => rfl
    | 5, _ => rfl
    | 6, _ => rfl
    | 7, _ => rfl
    | 8, _ => rfl)
theorem FrOk.stays {w w' : World} {n : Nat} {bz : Nat → Bool} {p : Nat} {ft ft' : Nat → Prop} {s : Option (Nat × Nat × Nat)} (h : FrOk w n bz p ft s) (hs : ∀ k, ft k → w'.heap[k]? = w.heap[k]?) (hf : ∀ k, ft k → ft' k) : FrOk w' n bz p ft' s := by
  match s, h with
  | none, ⟨gv, h⟩ => exact ⟨gv, h.stays hs hf⟩
  | some (F, L, bd), ⟨hh, hv, bv, cb, gv, h⟩ => exact ⟨hh, hv, bv, cb, gv, h.stays hs hf⟩
theorem FrOk.raw {w : World} {n : Nat} {bz : Nat → Bool} {p : Nat} {ft : Nat → Prop} {s : Option (Nat × Nat × Nat)} (h : FrOk w n bz p ft s) : ∃ F L bd hv bv cv gv hl bl cam, FrRaw w n p ft F L bd hv bv cv gv hl bl cam ∧ ((s = none ∧ F = 0 ∧ L = 0 ∧ bd = 0) ∨ s = some (F, L, bd)) := by
  match s, h with
  | none, ⟨gv, h⟩ => exact ⟨_, _, _, _, _, _, _, _, _, _, h, .inl ⟨rfl, rfl, rfl, rfl⟩⟩
  | some (F, L, bd), ⟨hh, hv, bv, cb, gv, h⟩ => exact ⟨_, _, _, _, _, _, _, _, _, _, h, .inr rfl⟩
theorem tmCells_set5 (z : Nat → Value) (n E Bb : Nat) (cv x : Value) (F L bd d i : Nat) : (if i = 5 then x else tmCells z n E Bb cv F L bd d i) = tmCells z n E Bb x F L bd d i := by
  unfold tmCells; by_cases h : i = 5 <;> simp [h]
theorem ptrs_snoc (ps : List Nat) (p : Nat) : ptrs (ps ++ [p]) = ptrs ps ++ [.pointer (some ⟨p, 0, none⟩)] := by simp [ptrs]

/-- a zero frame more -/
theorem team_push {w w1 : World} {n T E Bb N : Nat} {bz : Nat → Bool} {ow : Nat → Option Nat} {cv : Value} {ps : List Nat} {st : Nat → Option (Nat × Nat × Nat)} {z : Nat → Value} {F L bd d : Nat} {o2 : Obj} {g m cap : Nat} (h : Team w n T E Bb N bz ow cv ps st z F L bd d)
    (hg : ((w.alloc (.cells zeroFr 30)).alloc o2).grownBy w1 cv.ownBlock) (hown : w1.ownsRow 0 24 1 (.slice (some ⟨g, 0, none⟩) m cap) (ps.length + 1) (ptrs (ps ++ [w.heap.size]))) (hat : cv.ownBlock = some g ∨ g = w.heap.size + 2) (hst : st ps.length = none) (hlen : ps.length < 8) :
    Team (w1.setCell ⟨T, 5, none⟩ (.slice (some ⟨g, 0, none⟩) m cap)) n T E Bb N bz (fun k => if k = w.heap.size then some ps.length else ow k) (.slice (some ⟨g, 0, none⟩) m cap) (ps ++ [w.heap.size]) st z F L bd d := by
  obtain ⟨l1, l2, l3, l4⟩ := h.lt
  have a2 : ∀ k, k < w.heap.size → ((w.alloc (.cells zeroFr 30)).alloc o2).heap[k]? = w.heap[k]? := fun k hk => by
    rw [Below.heap_alloc _ _ _ (by simp; omega), Below.heap_alloc _ _ _ hk]
  have sz : ((w.alloc (.cells zeroFr 30)).alloc o2).heap.size = w.heap.size + 2 := by simp
  have sg := hg.size
  have o1 : ∀ k, k < w.heap.size → cv.ownBlock ≠ some k → w1.heap[k]? = w.heap[k]? := fun k hk hc => (hg.block k (by omega) hc.symm).trans (a2 k hk)
  have o : ∀ k, k < w.heap.size → k ≠ T → cv.ownBlock ≠ some k → (w1.setCell ⟨T, 5, none⟩ (.slice (some ⟨g, 0, none⟩) m cap)).heap[k]? = w.heap[k]? := fun k hk ht hc => (Below.heap_setCell _ _ _ _ ht).trans (o1 k hk hc)
  have rT : w1.rowIs T 43 32 (tmCells z n E Bb cv F L bd d) := h.t.of_block (o1 T h.t.lt (own_ne_row h.c h.t (by decide)))
  have rp : w1.rowIs w.heap.size 30 9 (frCells 0 0 0 (.slice none 0 0) (.slice none 0 0) (.slice none 0 0) (.slice none 0 0)) := by
    refine ((zeroFr_row w).alloc o2).of_block (hg.block _ (by omega) ?_)
    intro e
    have := (own_block h.c e.symm).2.1
    omega
  refine ⟨(rT.set 5 _).congr (fun i _ => tmCells_set5 _ _ _ _ _ _ _ _ _ _ i), h.e.of_block (o E h.e.lt (row_ne h.e h.t (by decide)) (own_ne_row h.c h.e (by decide))), h.b.of_block (o Bb h.b.lt (row_ne h.b h.t (by decide)) (own_ne_row h.c h.b (by decide))), ?_, ?_, ?_, ?_, ?_, ?_, ?_⟩
  · rw [List.length_append]
    exact own_stays hown (fun x hx => Below.heap_setCell _ _ _ _ (show x ≠ T from fun e => own_ne_row hown rT (by decide) (e ▸ hx)))
  · intro i p hp
    by_cases hi : i < ps.length
    · rw [List.getElem?_append_left hi] at hp
      refine (h.fr i p hp).stays (fun k hk => ?_) (fun k hk => ?_)
      · have := h.own k i hk
        exact o k this.2 (by omega) (fun e => by have := h.oc k e; rw [hk] at this; cases this)
      · have := h.own k i hk
        show (if k = w.heap.size then some ps.length else ow k) = some i
        rw [if_neg (by omega), hk]
    · rw [List.getElem?_append_right (by omega)] at hp
      have hi0 : i = ps.length := by
        rcases Nat.lt_or_ge (i - ps.length) 1 with h1 | h1
        · omega
        · rw [List.getElem?_eq_none (by simpa using h1)] at hp; cases hp
      subst hi0
      have hp' : p = w.heap.size := by simpa using hp.symm
      subst hp'
      rw [hst]
      exact ⟨_, ⟨rp.setOther (show w.heap.size ≠ T by omega) _, ⟨rfl, .inl ⟨rfl, rfl⟩⟩, ⟨rfl, .inl ⟨rfl, rfl⟩⟩, fun g hg => by simp [Value.ownBlock] at hg, by simp, fun g hg => by simp [Value.ownBlock] at hg, fun g hg => by simp [Value.ownBlock] at hg, .inl rfl⟩⟩
  · intro k i hk
    have hk' : (if k = w.heap.size then some ps.length else ow k) = some i := hk
    rw [World.size_setCell]
    by_cases e : k = w.heap.size
    · omega
    · rw [if_neg e] at hk'
      have := h.own k i hk'
      omega
  · intro x hx
    have e : g = x := by simpa [Value.ownBlock] using hx
    subst e
    show (if g = w.heap.size then some ps.length else ow g) = none
    rcases hat with ha | ha
    · have := (own_block h.c ha).2.1
      rw [if_neg (by omega)]
      exact h.oc g ha
    · rw [if_neg (by omega)]
      cases ho : ow g with
      | none => rfl
      | some i => have := h.own g i ho; omega
  · intro x hx
    have e : g = x := by simpa [Value.ownBlock] using hx
    subst e
    rcases hat with ha | ha
    · exact h.oN g ha
    · omega
  · rw [World.size_setCell]
    exact ⟨l1, l2, l3, by omega⟩
  · simp; omega

/-- one frame entered -/
theorem team_enter {w w' : World} {n T E Bb N : Nat} {bz : Nat → Bool} {ow : Nat → Option Nat} {cv : Value} {ps : List Nat} {st : Nat → Option (Nat × Nat × Nat)} {z : Nat → Value} {F L bd d p : Nat} {e : Ending} (h : Team w n T E Bb N bz ow cv ps st z F L bd d)
    (hp : ps[d]? = some p) (hh : 1 ≤ F ∧ F ≤ L ∧ L ≤ n ∧ bd ≤ n) (he : EnterPost n p (fun k => ow k = some d) F L bd bz w e w') :
    Team w' n T E Bb N bz (fun k => if w.heap.size ≤ k ∧ k < w'.heap.size then some d else ow k) cv ps (fun i => if i = d then some (F, L, bd) else st i) z F L bd d := by
  obtain ⟨_, hf, hv, bv, cb, gv, hr⟩ := he
  obtain ⟨l1, l2, l3, l4⟩ := h.lt
  have no : ∀ k i, k < N → ow k ≠ some i := fun k i hk e => by have := h.own k i e; omega
  refine ⟨hf.row h.t (no T d l1), hf.row h.e (no E d l2), hf.row h.b (no Bb d l3), own_stays h.c (fun g hg => hf.block g (own_block h.c hg).2.1 (fun e => by have := h.oc g hg; rw [this] at e; cases e)), ?_, ?_, ?_, h.oN, ⟨l1, l2, l3, Nat.le_trans l4 hf.size⟩, h.len⟩
  · intro i q hq
    by_cases hi : i = d
    · subst hi
      rw [hp] at hq
      cases hq
      rw [if_pos rfl]
      refine ⟨hh, hv, bv, cb, gv, hr.stays (fun k _ => rfl) (fun k hk => ?_)⟩
      show (if w.heap.size ≤ k ∧ k < w'.heap.size then some i else ow k) = some i
      rcases hk with hk | hk
      · have := h.own k i hk
        rw [if_neg (by omega)]; exact hk
      · rw [if_pos hk]
    · rw [if_neg hi]
      refine (h.fr i q hq).stays (fun k hk => ?_) (fun k hk => ?_)
      · exact hf.block k (h.own k i hk).2 (fun e => by rw [hk] at e; exact hi (by simpa using e))
      · have := h.own k i hk
        show (if w.heap.size ≤ k ∧ k < w'.heap.size then some d else ow k) = some i
        rw [if_neg (by omega)]; exact hk
  · intro k i hk
    have hk' : (if w.heap.size ≤ k ∧ k < w'.heap.size then some d else ow k) = some i := hk
    by_cases e : w.heap.size ≤ k ∧ k < w'.heap.size
    · omega
    · rw [if_neg e] at hk'
      have := h.own k i hk'
      have := hf.size
      omega
  · intro g hg
    have := (own_block h.c hg).2.1
    show (if w.heap.size ≤ g ∧ g < w'.heap.size then some d else ow g) = none
    rw [if_neg (by omega)]
    exact h.oc g hg
end Go.Proofs.Ybulkahbw
