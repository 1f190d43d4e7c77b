/-
  Package attack: what LawS1647AFrames keeps in memory between two steps. Laws of the world alone.
-/
import Derived.Test.YbulkahbwA4
import Derived.Test.YbulkahbwA5
namespace Go.Proofs.Ybulkahbw
open Go.RowKit Go.Deep

def setv (st : Nat → Option (Nat × Nat × Nat)) (j : Nat) : Nat := match st (j / 2) with
  | none => 0
  | some (F, L, _) => if j % 2 = 0 then F else L
def bdv (st : Nat → Option (Nat × Nat × Nat)) (i : Nat) : Nat := match st i with
  | none => 0
  | some (_, _, bd) => bd
def stPut (st : Nat → Option (Nat × Nat × Nat)) (d F L bd : Nat) : Nat → Option (Nat × Nat × Nat) := fun i => if i = d then some (F, L, bd) else st i

structure Lw (w : World) (n T E Bb H S D N : Nat) (bz : Nat → Bool) (st : Nat → Option (Nat × Nat × Nat)) (k : Nat) : Prop where
  tm : ∃ ow cv ps z F L bd d, List.length ps = k ∧ Team w n T E Bb N bz ow cv ps st z F L bd d
  nst : ∀ i, k ≤ i → st i = none
  h : w.rowIs H 44 8 (fun i => .bool (st i).isSome)
  s : w.rowIs S 45 16 (fun j => .int .i64 (setv st j : Nat))
  d : w.rowIs D 46 8 (fun i => .int .i64 (bdv st i : Nat))
  lt : H < N ∧ S < N ∧ D < N

theorem Lw.far {w w' : World} {n T E Bb H S D N : Nat} {bz : Nat → Bool} {st : Nat → Option (Nat × Nat × Nat)} {k : Nat} (h : Lw w n T E Bb H S D N bz st k) (hf : Fr (fun _ => False) w w') : Lw w' n T E Bb H S D N bz st k := by
  obtain ⟨ow, cv, ps, z, F, L, bd, d, e, ht⟩ := h.tm
  exact ⟨⟨ow, cv, ps, z, F, L, bd, d, e, ht.same hf.size (fun k hk => hf.block k hk id)⟩, h.nst, hf.row h.h id, hf.row h.s id, hf.row h.d id, h.lt⟩

def tmArr (n Bb E : Nat) : Array Value := #[.int .i64 (n : Nat), .nilFunc, .slice (some ⟨Bb, 0, none⟩) (n + 1) (n + 1), .slice none 0 0, .pointer (some ⟨E, 0, none⟩), .slice none 0 0, .int .i64 0, .int .i64 0, .int .i64 0, .int .i64 0, .int .i64 0, .int .i64 0, .int .i64 0, .int .i64 0, .int .i64 0, .int .i64 0, .bool false, .int .i64 0, .int .i64 0, .int .i64 0, .int .i64 0, .int .u64 0, .int .u64 0, .int .i64 0, .int .i64 0, .slice none 0 0, .slice none 0 0, .slice none 0 0, .slice none 0 0, .slice none 0 0, .slice none 0 0, .map none]
def b8 : Array Value := #[.bool false, .bool false, .bool false, .bool false, .bool false, .bool false, .bool false, .bool false]
def i8 : Array Value := #[.int .i64 0, .int .i64 0, .int .i64 0, .int .i64 0, .int .i64 0, .int .i64 0, .int .i64 0, .int .i64 0]
def i16 : Array Value := #[.int .i64 0, .int .i64 0, .int .i64 0, .int .i64 0, .int .i64 0, .int .i64 0, .int .i64 0, .int .i64 0, .int .i64 0, .int .i64 0, .int .i64 0, .int .i64 0, .int .i64 0, .int .i64 0, .int .i64 0, .int .i64 0]
/-- the world at the loop's head -/
def w5 (w : World) (n Bb : Nat) : World := ((((w.alloc (.cells zeroFr 30)).alloc (.cells (tmArr n Bb w.heap.size) 43)).alloc (.cells b8 44)).alloc (.cells i16 45)).alloc (.cells i8 46)
theorem size_w5 (w : World) (n Bb : Nat) : (w5 w n Bb).heap.size = w.heap.size + 5 := by simp [w5]

set_option maxRecDepth 10000 in
theorem tm_row (w : World) (n Bb E : Nat) : (w.alloc (.cells (tmArr n Bb E) 43)).rowIs w.heap.size 43 32 (tmCells (fun j => (tmArr n Bb E)[j]?.getD (.int .i64 0)) n E Bb (.slice none 0 0) 0 0 0 0) :=
  World.rowIs_alloc w (tmArr n Bb E) 43 _ (fun i hi => by
    match i, hi with
    | 0, _ => rfl
    | 1, _ => rfl
    | 2, _ => rfl
    | 3, _ => rfl
    | 4, _ => rfl
    | 5, _ => rfl
    | 6, _ => rfl
    | 7, _ => rfl
    | 8, _ => rfl
    | 9, _ => rfl
    | 10, _ => rfl
    | 11, _ => rfl
    | 12, _ => rfl
    | 13, _ => rfl
    | 14, _ => rfl
    | 15, _ => rfl
    | 16, _ => rfl
    | 17, _ => rfl
    | 18, _ => rfl
    | 19, _ => rfl
    | 20, _ => rfl
    | 21, _ => rfl
    | 22, _ => rfl
    | 23, _ => rfl
    | 24, _ => rfl
    | 25, _ => rfl
    | 26, _ => rfl
    | 27, _ => rfl
    | 28, _ => rfl
    | 29, _ => rfl
    | 30, _ => rfl
    | 31, _ => rfl
    | k + 32, hi => exact absurd hi (by simp [tmArr]))
theorem lw_start {w : World} {n Bb : Nat} {bz : Nat → Bool} (hb : w.rowIs Bb 4 (n + 1) (fun i => .bool (bz i))) : Lw (w5 w n Bb) n (w.heap.size + 1) w.heap.size Bb (w.heap.size + 2) (w.heap.size + 3) (w.heap.size + 4) (w.heap.size + 5) bz (fun _ => none) 0 := by
  have hbl := hb.lt
  have sz := size_w5 w n Bb
  have rT : (w5 w n Bb).rowIs (w.heap.size + 1) 43 32 (tmCells (fun j => (tmArr n Bb w.heap.size)[j]?.getD (.int .i64 0)) n w.heap.size Bb (.slice none 0 0) 0 0 0 0) := by
    have := (((tm_row (w.alloc (.cells zeroFr 30)) n Bb w.heap.size).alloc (.cells b8 44)).alloc (.cells i16 45)).alloc (.cells i8 46)
    rwa [World.size_alloc] at this
  have rH : (w5 w n Bb).rowIs (w.heap.size + 2) 44 8 (fun _ => .bool false) := by
    have := ((World.rowIs_alloc ((w.alloc (.cells zeroFr 30)).alloc (.cells (tmArr n Bb w.heap.size) 43)) b8 44 (fun _ => .bool false) (fun i hi => by
      match i, hi with
      | 0, _ => rfl
      | 1, _ => rfl
      | 2, _ => rfl
      | 3, _ => rfl
      | 4, _ => rfl
      | 5, _ => rfl
      | 6, _ => rfl
      | 7, _ => rfl)).alloc (.cells i16 45)).alloc (.cells i8 46)
    rwa [World.size_alloc, World.size_alloc] at this
  have rS : (w5 w n Bb).rowIs (w.heap.size + 3) 45 16 (fun _ => .int .i64 0) := by
    have := (World.rowIs_alloc (((w.alloc (.cells zeroFr 30)).alloc (.cells (tmArr n Bb w.heap.size) 43)).alloc (.cells b8 44)) i16 45 (fun _ => .int .i64 0) (fun i hi => by
      match i, hi with
      | 0, _ => rfl
      | 1, _ => rfl
      | 2, _ => rfl
      | 3, _ => rfl
      | 4, _ => rfl
      | 5, _ => rfl
      | 6, _ => rfl
      | 7, _ => rfl
      | 8, _ => rfl
      | 9, _ => rfl
      | 10, _ => rfl
      | 11, _ => rfl
      | 12, _ => rfl
      | 13, _ => rfl
      | 14, _ => rfl
      | 15, _ => rfl
      | k + 16, hi => exact absurd hi (by simp [i16]))).alloc (.cells i8 46)
    rwa [World.size_alloc, World.size_alloc, World.size_alloc] at this
  have rD : (w5 w n Bb).rowIs (w.heap.size + 4) 46 8 (fun _ => .int .i64 0) := by
    have := World.rowIs_alloc ((((w.alloc (.cells zeroFr 30)).alloc (.cells (tmArr n Bb w.heap.size) 43)).alloc (.cells b8 44)).alloc (.cells i16 45)) i8 46 (fun _ => .int .i64 0) (fun i hi => by
      match i, hi with
      | 0, _ => rfl
      | 1, _ => rfl
      | 2, _ => rfl
      | 3, _ => rfl
      | 4, _ => rfl
      | 5, _ => rfl
      | 6, _ => rfl
      | 7, _ => rfl)
    rwa [World.size_alloc, World.size_alloc, World.size_alloc, World.size_alloc] at this
  refine ⟨⟨fun _ => none, .slice none 0 0, [], _, 0, 0, 0, 0, rfl, ⟨rT, ((((zeroFr_row w).alloc _).alloc _).alloc _).alloc _, ((((hb.alloc _).alloc _).alloc _).alloc _).alloc _, ⟨rfl, .inl ⟨rfl, rfl⟩⟩, fun i p hp => by simp at hp, fun k i hk => (by cases hk), fun g hg => by simp [Value.ownBlock] at hg, fun g hg => by simp [Value.ownBlock] at hg, ⟨by omega, by omega, by omega, by omega⟩, by simp⟩⟩, fun _ _ => rfl, rH, rS, rD, ⟨by omega, by omega, by omega⟩⟩
theorem fr_w5 (w : World) (n Bb : Nat) : Fr (fun _ => False) w (w5 w n Bb) := (((((Fr.refl _ w).alloc _).alloc _).alloc _).alloc _).alloc _

/-- 'tm.now = step{..}' -/
def setNow (w : World) (T F L bd d : Nat) : World := (((((((((((((w.setCell ⟨T, 7, none⟩ (.int .i64 0)).setCell ⟨T, 8, none⟩ (.int .i64 0)).setCell ⟨T, 9, none⟩ (.int .i64 0)).setCell ⟨T, 10, none⟩ (.int .i64 0)).setCell ⟨T, 11, none⟩ (.int .i64 0)).setCell ⟨T, 12, none⟩ (.int .i64 (F : Nat))).setCell ⟨T, 13, none⟩ (.int .i64 (L : Nat))).setCell ⟨T, 14, none⟩ (.int .i64 (bd : Nat))).setCell ⟨T, 15, none⟩ (.int .i64 (d : Nat))).setCell ⟨T, 16, none⟩ (.bool false)).setCell ⟨T, 17, none⟩ (.int .i64 0)).setCell ⟨T, 18, none⟩ (.int .i64 0)).setCell ⟨T, 19, none⟩ (.int .i64 0)).setCell ⟨T, 20, none⟩ (.int .i64 0)
theorem setNow_block (w : World) (T F L bd d k : Nat) (hk : k ≠ T) : (setNow w T F L bd d).heap[k]? = w.heap[k]? := by
  unfold setNow
  repeat rw [Below.heap_setCell _ _ _ _ hk]
theorem setNow_size (w : World) (T F L bd d : Nat) : (setNow w T F L bd d).heap.size = w.heap.size := by simp [setNow]
theorem setNow_fr (w : World) (T F L bd d : Nat) : Fr (fun k => k = T) w (setNow w T F L bd d) :=
  ((((((((((((((Fr.refl (fun k => k = T) w).setCell (p := ⟨T, 7, none⟩) (fun _ => rfl) _).setCell (p := ⟨T, 8, none⟩) (fun _ => rfl) _).setCell (p := ⟨T, 9, none⟩) (fun _ => rfl) _).setCell (p := ⟨T, 10, none⟩) (fun _ => rfl) _).setCell (p := ⟨T, 11, none⟩) (fun _ => rfl) _).setCell (p := ⟨T, 12, none⟩) (fun _ => rfl) _).setCell (p := ⟨T, 13, none⟩) (fun _ => rfl) _).setCell (p := ⟨T, 14, none⟩) (fun _ => rfl) _).setCell (p := ⟨T, 15, none⟩) (fun _ => rfl) _).setCell (p := ⟨T, 16, none⟩) (fun _ => rfl) _).setCell (p := ⟨T, 17, none⟩) (fun _ => rfl) _).setCell (p := ⟨T, 18, none⟩) (fun _ => rfl) _).setCell (p := ⟨T, 19, none⟩) (fun _ => rfl) _).setCell (p := ⟨T, 20, none⟩) (fun _ => rfl) _
set_option maxRecDepth 10000 in
theorem setNow_team {w : World} {n T E Bb N : Nat} {bz : Nat → Bool} {ow : Nat → Option Nat} {cv : Value} {ps : List Nat} {st : Nat → Option (Nat × Nat × Nat)} {z : Nat → Value} {F L bd d : Nat} (h : Team w n T E Bb N bz ow cv ps st z F L bd d) (F' L' bd' d' : Nat) : Team (setNow w T F' L' bd' d') n T E Bb N bz ow cv ps st z F' L' bd' d' := by
  have o := setNow_block w T F' L' bd' d'
  have sz := setNow_size w T F' L' bd' d'
  have rt : (setNow w T F' L' bd' d').rowIs T 43 32 (tmCells z n E Bb cv F' L' bd' d') := by
    unfold setNow
    refine (((((((((((((((h.t.set 7 _).set 8 _).set 9 _).set 10 _).set 11 _).set 12 _).set 13 _).set 14 _).set 15 _).set 16 _).set 17 _).set 18 _).set 19 _).set 20 _)).congr (fun i hi => ?_)
    match i, hi with
    | 0, _ => rfl
    | 1, _ => rfl
    | 2, _ => rfl
    | 3, _ => rfl
    | 4, _ => rfl
    | 5, _ => rfl
    | 6, _ => rfl
    | 7, _ => rfl
    | 8, _ => rfl
    | 9, _ => rfl
    | 10, _ => rfl
    | 11, _ => rfl
    | 12, _ => rfl
    | 13, _ => rfl
    | 14, _ => rfl
    | 15, _ => rfl
    | 16, _ => rfl
    | 17, _ => rfl
    | 18, _ => rfl
    | 19, _ => rfl
    | 20, _ => rfl
    | 21, _ => rfl
    | 22, _ => rfl
    | 23, _ => rfl
    | 24, _ => rfl
    | 25, _ => rfl
    | 26, _ => rfl
    | 27, _ => rfl
    | 28, _ => rfl
    | 29, _ => rfl
    | 30, _ => rfl
    | 31, _ => rfl
    | k + 32, hi => exact absurd hi (by omega)
  obtain ⟨l1, l2, l3, l4⟩ := h.lt
  exact ⟨rt, h.e.of_block (o E (row_ne h.e h.t (by decide))), h.b.of_block (o Bb (row_ne h.b h.t (by decide))), own_stays h.c (fun g hg => o g (fun e => own_ne_row h.c h.t (by decide) (e ▸ hg))), fun i p hp => (h.fr i p hp).stays (fun k hk => o k (fun e => by have := h.own k i hk; omega)) (fun _ hk => hk), fun k i hk => by rw [sz]; exact h.own k i hk, h.oc, h.oN, ⟨l1, l2, l3, by omega⟩, h.len⟩

/-- the three tables written at d -/
def setTab (w : World) (H S D d F L bd : Nat) : World := (((w.setCell ⟨H, d, none⟩ (.bool true)).setCell ⟨S, d * 2, none⟩ (.int .i64 (F : Nat))).setCell ⟨S, d * 2 + 1, none⟩ (.int .i64 (L : Nat))).setCell ⟨D, d, none⟩ (.int .i64 (bd : Nat))
theorem setTab_block (w : World) (H S D d F L bd k : Nat) (h1 : k ≠ H) (h2 : k ≠ S) (h3 : k ≠ D) : (setTab w H S D d F L bd).heap[k]? = w.heap[k]? := by
  unfold setTab
  rw [Below.heap_setCell _ _ _ _ h3, Below.heap_setCell _ _ _ _ h2, Below.heap_setCell _ _ _ _ h2, Below.heap_setCell _ _ _ _ h1]
theorem setTab_size (w : World) (H S D d F L bd : Nat) : (setTab w H S D d F L bd).heap.size = w.heap.size := by simp [setTab]
theorem setTab_fr (w : World) (H S D d F L bd : Nat) : Fr (fun k => k = H ∨ k = S ∨ k = D) w (setTab w H S D d F L bd) :=
  ((((Fr.refl _ w).setCell (p := ⟨H, d, none⟩) (fun _ => .inl rfl) _).setCell (p := ⟨S, d * 2, none⟩) (fun _ => .inr (.inl rfl)) _).setCell (p := ⟨S, d * 2 + 1, none⟩) (fun _ => .inr (.inl rfl)) _).setCell (p := ⟨D, d, none⟩) (fun _ => .inr (.inr rfl)) _

theorem lw_now {w : World} {n T E Bb H S D N : Nat} {bz : Nat → Bool} {st : Nat → Option (Nat × Nat × Nat)} {k : Nat} (h : Lw w n T E Bb H S D N bz st k) (F L bd d : Nat) : Lw (setNow w T F L bd d) n T E Bb H S D N bz st k := by
  obtain ⟨ow, cv, ps, z, F0, L0, bd0, d0, e, ht⟩ := h.tm
  have o := setNow_block w T F L bd d
  exact ⟨⟨ow, cv, ps, z, F, L, bd, d, e, setNow_team ht F L bd d⟩, h.nst, h.h.of_block (o H (row_ne h.h ht.t (by decide))), h.s.of_block (o S (row_ne h.s ht.t (by decide))), h.d.of_block (o D (row_ne h.d ht.t (by decide))), h.lt⟩
theorem put_some (st : Nat → Option (Nat × Nat × Nat)) (d F L bd i : Nat) : (if i = d then Value.bool true else .bool (st i).isSome) = .bool (stPut st d F L bd i).isSome := by
  unfold stPut
  by_cases h : i = d
  · rw [if_pos h, if_pos h]; rfl
  · rw [if_neg h, if_neg h]
theorem put_bd (st : Nat → Option (Nat × Nat × Nat)) (d F L bd i : Nat) : (if i = d then Value.int .i64 (bd : Nat) else .int .i64 (bdv st i : Nat)) = .int .i64 (bdv (stPut st d F L bd) i : Nat) := by
  unfold bdv stPut
  by_cases h : i = d
  · rw [if_pos h, if_pos h]
  · rw [if_neg h, if_neg h]
theorem put_set (st : Nat → Option (Nat × Nat × Nat)) (d F L bd j : Nat) : (if j = d * 2 + 1 then Value.int .i64 (L : Nat) else if j = d * 2 then .int .i64 (F : Nat) else .int .i64 (setv st j : Nat)) = .int .i64 (setv (stPut st d F L bd) j : Nat) := by
  unfold setv stPut
  by_cases h : j / 2 = d
  · rw [if_pos h]
    by_cases h1 : j = d * 2 + 1
    · rw [if_pos h1]
      show Value.int .i64 (L : Nat) = .int .i64 ((if j % 2 = 0 then F else L : Nat) : Nat)
      rw [if_neg (by omega)]
    · rw [if_neg h1, if_pos (by omega)]
      show Value.int .i64 (F : Nat) = .int .i64 ((if j % 2 = 0 then F else L : Nat) : Nat)
      rw [if_pos (by omega)]
  · rw [if_neg h, if_neg (by omega), if_neg (by omega)]
theorem lw_some {w w' : World} {n T E Bb H S D N : Nat} {bz : Nat → Bool} {st : Nat → Option (Nat × Nat × Nat)} {k k' d F L bd : Nat} {ow : Nat → Option Nat} {cv : Value} (h : Lw w n T E Bb H S D N bz st k) (hf : Fr (fun k => k = T ∨ N ≤ k ∧ (cv.ownBlock = some k ∨ ow k ≠ none)) w w')
    {ow' : Nat → Option Nat} {cv' : Value} {ps' : List Nat} {z : Nat → Value} {F0 L0 bd0 d0 : Nat} (ht : Team w' n T E Bb N bz ow' cv' ps' (stPut st d F L bd) z F0 L0 bd0 d0) (hp : ps'.length = k') (hk : k' = max k (d + 1)) : w'.rowIs H 44 8 (fun i => .bool (st i).isSome) ∧ w'.rowIs S 45 16 (fun j => .int .i64 (setv st j : Nat)) ∧ w'.rowIs D 46 8 (fun i => .int .i64 (bdv st i : Nat)) ∧ Lw (setTab w' H S D d F L bd) n T E Bb H S D N bz (stPut st d F L bd) k' := by
  obtain ⟨h1, h2, h3⟩ := h.lt
  have nT : H ≠ T ∧ S ≠ T ∧ D ≠ T := by
    obtain ⟨_, _, _, _, _, _, _, _, _, ht0⟩ := h.tm
    exact ⟨row_ne h.h ht0.t (by decide), row_ne h.s ht0.t (by decide), row_ne h.d ht0.t (by decide)⟩
  have rH := hf.row h.h (fun e => e.elim nT.1 (fun e => by omega))
  have rS := hf.row h.s (fun e => e.elim nT.2.1 (fun e => by omega))
  have rD := hf.row h.d (fun e => e.elim nT.2.2 (fun e => by omega))
  have hs : H ≠ S := row_ne rH rS (by decide)
  have hd' : H ≠ D := row_ne rH rD (by decide)
  have sd : S ≠ D := row_ne rS rD (by decide)
  have o := setTab_block w' H S D d F L bd
  have sz := setTab_size w' H S D d F L bd
  obtain ⟨l1, l2, l3, l4⟩ := ht.lt
  refine ⟨rH, rS, rD, ⟨ow', cv', ps', z, F0, L0, bd0, d0, hp, ?_⟩, ?_, ?_, ?_, ?_, h.lt⟩
  · exact ⟨ht.t.of_block (o T (row_ne ht.t rH (by decide)) (row_ne ht.t rS (by decide)) (row_ne ht.t rD (by decide))), ht.e.of_block (o E (row_ne ht.e rH (by decide)) (row_ne ht.e rS (by decide)) (row_ne ht.e rD (by decide))), ht.b.of_block (o Bb (row_ne ht.b rH (by decide)) (row_ne ht.b rS (by decide)) (row_ne ht.b rD (by decide))), own_stays ht.c (fun g hg => o g (fun e => own_ne_row ht.c rH (by decide) (e ▸ hg)) (fun e => own_ne_row ht.c rS (by decide) (e ▸ hg)) (fun e => own_ne_row ht.c rD (by decide) (e ▸ hg))), fun i p hp => (ht.fr i p hp).stays (fun k hk => o k (fun e => by have := ht.own k i hk; omega) (fun e => by have := ht.own k i hk; omega) (fun e => by have := ht.own k i hk; omega)) (fun _ hk => hk), fun k i hk => by rw [sz]; exact ht.own k i hk, ht.oc, ht.oN, ⟨l1, l2, l3, by omega⟩, ht.len⟩
  · intro i hi
    show (if i = d then some (F, L, bd) else st i) = none
    rw [if_neg (by omega)]
    exact h.nst i (by omega)
  · exact ((((rH.set d (.bool true)).setOther hs _).setOther hs _).setOther hd' _).congr (fun i _ => put_some st d F L bd i)
  · exact ((((rS.setOther hs.symm _).set (d * 2) (.int .i64 (F : Nat))).set (d * 2 + 1) (.int .i64 (L : Nat))).setOther sd _).congr (fun i _ => put_set st d F L bd i)
  · exact ((((rD.setOther hd'.symm _).setOther sd.symm _).setOther sd.symm _).set d (.int .i64 (bd : Nat))).congr (fun i _ => put_bd st d F L bd i)
end Go.Proofs.Ybulkahbw
