/-
  Package attack: a frame as it lies in memory, and what an append to one of its lists, a store, a clear make of it. Laws of the world alone.
-/
import Derived.Test.YbulkahbwFr
import Derived.Test.YbulkahbwA0
import Derived.OneCell
import Derived.Deep.AppendLies
import Derived.Laws.IdiomCopy
namespace Go.Proofs.Ybulkahbw
open Go.RowKit Go.Deep

def ints (l : List Nat) : List Value := l.map fun (i : Nat) => Value.int .i64 (i : Nat)
theorem ints_len (l : List Nat) : (ints l).length = l.length := by simp [ints]
theorem ints_snoc (l : List Nat) (i : Nat) : ints (l ++ [i]) = ints l ++ [.int .i64 (i : Nat)] := by simp [ints]

/-- what the nine cells of a frame hold -/
def frCells (F L bd : Nat) (hv bv cv gv : Value) (j : Nat) : Value :=
  if j = 0 then .int .i64 (F : Nat) else if j = 1 then .int .i64 (L : Nat) else if j = 2 then .int .i64 (bd : Nat) else if j = 3 then hv else if j = 4 then bv else if j = 5 then cv else if j = 6 then .int .u64 0 else if j = 7 then .int .u64 0 else gv

theorem row_ne {w : World} {p q : Nat} {t u : TypeId} {n m : Nat} {f g : Nat → Value} (h : w.rowIs p t n f) (k : w.rowIs q u m g) (ht : t ≠ u) : p ≠ q := by
  rintro rfl
  obtain ⟨c, hc, _⟩ := h
  obtain ⟨d, hd, _⟩ := k
  rw [hc] at hd
  simp at hd
  exact ht hd.2
theorem own_block {w : World} {B : Nat} {e : TypeId} {s : Nat} {v : Value} {n : Nat} {xs : List Value} (h : w.ownsRow B e s v n xs) {g : Nat} (hg : v.ownBlock = some g) : (∃ c, w.heap[g]? = some (.cells c e (0, 0))) ∧ g < w.heap.size ∧ B ≤ g := by
  rcases h.2 with ⟨rfl, _⟩ | ⟨g', cap, cur, rfl, hb, hh, _⟩
  · simp [Value.ownBlock] at hg
  · simp [Value.ownBlock] at hg
    subst hg
    exact ⟨⟨cur, hh⟩, lt_of_block hh, hb⟩
theorem own_ne_row {w : World} {B : Nat} {e : TypeId} {s : Nat} {v : Value} {n : Nat} {xs : List Value} {p : Nat} {t : TypeId} {m : Nat} {f : Nat → Value} (h : w.ownsRow B e s v n xs) (k : w.rowIs p t m f) (ht : t ≠ e) : v.ownBlock ≠ some p := by
  intro hg
  obtain ⟨⟨c, hc⟩, _⟩ := own_block h hg
  obtain ⟨d, hd, _⟩ := k
  rw [hc] at hd
  simp at hd
  exact ht hd.2.symm
/-- what is owned stays owned while its own block stays -/
theorem own_stays {w w' : World} {B : Nat} {e : TypeId} {s : Nat} {v : Value} {n : Nat} {xs : List Value} (h : w.ownsRow B e s v n xs) (hb : ∀ g, v.ownBlock = some g → w'.heap[g]? = w.heap[g]?) : w'.ownsRow B e s v n xs := by
  obtain ⟨h1, h2⟩ := h
  refine ⟨h1, ?_⟩
  rcases h2 with h2 | ⟨g, cap, cur, rfl, hg, hh, r⟩
  · exact .inl h2
  · exact .inr ⟨g, cap, cur, rfl, hg, by rw [hb g rfl]; exact hh, r⟩
theorem own_cut0 {w : World} {B : Nat} {e : TypeId} {g cap k : Nat} {xs : List Value} (h : w.ownsRow B e 1 (.slice (some ⟨g, 0, none⟩) k cap) k xs) : w.ownsRow B e 1 (.slice (some ⟨g, 0, none⟩) 0 cap) 0 [] := by
  rcases h.2 with ⟨e, _⟩ | ⟨g', cap', cur, e, hb, hg, hk, hcm, hcs, htk⟩
  · cases e
  · cases e
    exact ⟨rfl, .inr ⟨_, _, cur, rfl, hb, hg, Nat.zero_le _, hcm, hcs, by simp⟩⟩

/-- the camp's value: nil yet, or a row of bools -/
def CampIs (w : World) (n : Nat) (ft : Nat → Prop) (cv : Value) (cam : Nat → Bool) : Prop :=
  cv = .slice none 0 0 ∨ ∃ cb, cv = .slice (some ⟨cb, 0, none⟩) (n + 1) (n + 1) ∧ ft cb ∧ w.rowIs cb 4 (n + 1) (fun i => .bool (cam i))

/-- a frame in memory: block p, the lists hl, bl, the camp -/
structure FrRaw (w : World) (n p : Nat) (ft : Nat → Prop) (F L bd : Nat) (hv bv cv gv : Value) (hl bl : List Nat) (cam : Nat → Bool) : Prop where
  row : w.rowIs p 30 9 (frCells F L bd hv bv cv gv)
  ho : w.ownsRow 0 3 1 hv hl.length (ints hl)
  bo : w.ownsRow 0 3 1 bv bl.length (ints bl)
  hb : ∀ g, hv.ownBlock = some g → bv.ownBlock ≠ some g
  fp : ft p
  fh : ∀ g, hv.ownBlock = some g → ft g
  fb : ∀ g, bv.ownBlock = some g → ft g
  ca : CampIs w n ft cv cam

theorem CampIs.stays {w w' : World} {n : Nat} {ft ft' : Nat → Prop} {cv : Value} {cam : Nat → Bool} (h : CampIs w n ft cv cam) (hs : ∀ cb f, ft cb → w.rowIs cb 4 (n + 1) f → w'.heap[cb]? = w.heap[cb]?) (hf : ∀ k, ft k → ft' k) : CampIs w' n ft' cv cam := by
  rcases h with h | ⟨cb, h1, h2, h3⟩
  · exact .inl h
  · exact .inr ⟨cb, h1, hf cb h2, h3.of_block (hs cb _ h2 h3)⟩

/-- the frame is as it was while its footprint stays -/
theorem FrRaw.stays {w w' : World} {n p : Nat} {ft ft' : Nat → Prop} {F L bd : Nat} {hv bv cv gv : Value} {hl bl : List Nat} {cam : Nat → Bool} (h : FrRaw w n p ft F L bd hv bv cv gv hl bl cam) (hs : ∀ k, ft k → w'.heap[k]? = w.heap[k]?) (hf : ∀ k, ft k → ft' k) : FrRaw w' n p ft' F L bd hv bv cv gv hl bl cam :=
  ⟨h.row.of_block (hs p h.fp), own_stays h.ho (fun g hg => hs g (h.fh g hg)), own_stays h.bo (fun g hg => hs g (h.fb g hg)), h.hb, hf p h.fp, fun g hg => hf g (h.fh g hg), fun g hg => hf g (h.fb g hg), h.ca.stays (fun cb _ hc _ => hs cb hc) hf⟩

/-- a store into one of the frame's own cells that hold numbers -/
theorem frCells_set0 (F L bd x : Nat) (hv bv cv gv : Value) (i : Nat) : (if i = 0 then Value.int .i64 (x : Nat) else frCells F L bd hv bv cv gv i) = frCells x L bd hv bv cv gv i := by
  unfold frCells; by_cases h : i = 0 <;> simp [h]
theorem frCells_set1 (F L bd x : Nat) (hv bv cv gv : Value) (i : Nat) : (if i = 1 then Value.int .i64 (x : Nat) else frCells F L bd hv bv cv gv i) = frCells F x bd hv bv cv gv i := by
  unfold frCells; by_cases h : i = 1 <;> simp [h]
theorem frCells_set2 (F L bd x : Nat) (hv bv cv gv : Value) (i : Nat) : (if i = 2 then Value.int .i64 (x : Nat) else frCells F L bd hv bv cv gv i) = frCells F L x hv bv cv gv i := by
  unfold frCells; by_cases h : i = 2 <;> simp [h]
theorem frCells_set3 (F L bd : Nat) (hv bv cv gv x : Value) (i : Nat) : (if i = 3 then x else frCells F L bd hv bv cv gv i) = frCells F L bd x bv cv gv i := by
  unfold frCells; by_cases h : i = 3 <;> simp [h]
theorem frCells_set4 (F L bd : Nat) (hv bv cv gv x : Value) (i : Nat) : (if i = 4 then x else frCells F L bd hv bv cv gv i) = frCells F L bd hv x cv gv i := by
  unfold frCells; by_cases h : i = 4 <;> simp [h]
theorem frCells_set5 (F L bd : Nat) (hv bv cv gv x : Value) (i : Nat) : (if i = 5 then x else frCells F L bd hv bv cv gv i) = frCells F L bd hv bv x gv i := by
  unfold frCells; by_cases h : i = 5 <;> simp [h]
theorem frCells_set8 (F L bd : Nat) (hv bv cv gv x : Value) (i : Nat) (hi : i < 9) : (if i = 8 then x else frCells F L bd hv bv cv gv i) = frCells F L bd hv bv cv x i := by
  unfold frCells
  by_cases h : i = 8
  · subst h; rfl
  · by_cases h0 : i = 0
    · simp [h0]
    by_cases h1 : i = 1
    · simp [h1]
    by_cases h2 : i = 2
    · simp [h2]
    by_cases h3 : i = 3
    · simp [h3]
    by_cases h4 : i = 4
    · simp [h4]
    by_cases h5 : i = 5
    · simp [h5]
    by_cases h6 : i = 6
    · simp [h6]
    by_cases h7 : i = 7
    · simp [h7]
    omega
/-- a store into the frame's block: the lists and the camp lie elsewhere -/
theorem FrRaw.cell {w : World} {n p : Nat} {ft : Nat → Prop} {F L bd F' L' bd' : Nat} {hv bv cv gv gv' : Value} {hl bl : List Nat} {cam : Nat → Bool} (h : FrRaw w n p ft F L bd hv bv cv gv hl bl cam) (j : Nat) (x : Value)
    (e : ∀ i, i < 9 → (if i = j then x else frCells F L bd hv bv cv gv i) = frCells F' L' bd' hv bv cv gv' i) : FrRaw (w.setCell ⟨p, j, none⟩ x) n p ft F' L' bd' hv bv cv gv' hl bl cam := by
  have o : ∀ k, k ≠ p → (w.setCell ⟨p, j, none⟩ x).heap[k]? = w.heap[k]? := fun k hk => Below.heap_setCell _ _ _ _ hk
  exact ⟨(h.row.set j x).congr e, own_stays h.ho (fun g hg => o g (fun e => own_ne_row h.ho h.row (by decide) (e ▸ hg))), own_stays h.bo (fun g hg => o g (fun e => own_ne_row h.bo h.row (by decide) (e ▸ hg))), h.hb, h.fp, h.fh, h.fb,
    h.ca.stays (fun cb f _ hc => o cb (row_ne hc h.row (by decide))) (fun _ hk => hk)⟩
/-- another value for 'honest' -/
theorem FrRaw.putH {w : World} {n p : Nat} {ft : Nat → Prop} {F L bd : Nat} {hv bv cv gv hv' : Value} {hl bl hl' : List Nat} {cam : Nat → Bool} (h : FrRaw w n p ft F L bd hv bv cv gv hl bl cam)
    (ho : w.ownsRow 0 3 1 hv' hl'.length (ints hl')) (hb : ∀ g, hv'.ownBlock = some g → bv.ownBlock ≠ some g) (fh : ∀ g, hv'.ownBlock = some g → ft g) : FrRaw (w.setCell ⟨p, 3, none⟩ hv') n p ft F L bd hv' bv cv gv hl' bl cam := by
  have o : ∀ k, k ≠ p → (w.setCell ⟨p, 3, none⟩ hv').heap[k]? = w.heap[k]? := fun k hk => Below.heap_setCell _ _ _ _ hk
  exact ⟨(h.row.set 3 hv').congr (fun i _ => frCells_set3 _ _ _ _ _ _ _ _ i), own_stays ho (fun g hg => o g (fun e => own_ne_row ho h.row (by decide) (e ▸ hg))), own_stays h.bo (fun g hg => o g (fun e => own_ne_row h.bo h.row (by decide) (e ▸ hg))), hb, h.fp, fh, h.fb,
    h.ca.stays (fun cb f _ hc => o cb (row_ne hc h.row (by decide))) (fun _ hk => hk)⟩
/-- another value for 'byzantine' -/
theorem FrRaw.putB {w : World} {n p : Nat} {ft : Nat → Prop} {F L bd : Nat} {hv bv cv gv bv' : Value} {hl bl bl' : List Nat} {cam : Nat → Bool} (h : FrRaw w n p ft F L bd hv bv cv gv hl bl cam)
    (bo : w.ownsRow 0 3 1 bv' bl'.length (ints bl')) (hb : ∀ g, hv.ownBlock = some g → bv'.ownBlock ≠ some g) (fb : ∀ g, bv'.ownBlock = some g → ft g) : FrRaw (w.setCell ⟨p, 4, none⟩ bv') n p ft F L bd hv bv' cv gv hl bl' cam := by
  have o : ∀ k, k ≠ p → (w.setCell ⟨p, 4, none⟩ bv').heap[k]? = w.heap[k]? := fun k hk => Below.heap_setCell _ _ _ _ hk
  exact ⟨(h.row.set 4 bv').congr (fun i _ => frCells_set4 _ _ _ _ _ _ _ _ i), own_stays h.ho (fun g hg => o g (fun e => own_ne_row h.ho h.row (by decide) (e ▸ hg))), own_stays bo (fun g hg => o g (fun e => own_ne_row bo h.row (by decide) (e ▸ hg))), hb, h.fp, h.fh, fb,
    h.ca.stays (fun cb f _ hc => o cb (row_ne hc h.row (by decide))) (fun _ hk => hk)⟩
/-- another value for 'campA' -/
theorem FrRaw.putC {w : World} {n p : Nat} {ft : Nat → Prop} {F L bd : Nat} {hv bv cv gv cv' : Value} {hl bl : List Nat} {cam cam' : Nat → Bool} (h : FrRaw w n p ft F L bd hv bv cv gv hl bl cam)
    (ca : CampIs w n ft cv' cam') : FrRaw (w.setCell ⟨p, 5, none⟩ cv') n p ft F L bd hv bv cv' gv hl bl cam' := by
  have o : ∀ k, k ≠ p → (w.setCell ⟨p, 5, none⟩ cv').heap[k]? = w.heap[k]? := fun k hk => Below.heap_setCell _ _ _ _ hk
  exact ⟨(h.row.set 5 cv').congr (fun i _ => frCells_set5 _ _ _ _ _ _ _ _ i), own_stays h.ho (fun g hg => o g (fun e => own_ne_row h.ho h.row (by decide) (e ▸ hg))), own_stays h.bo (fun g hg => o g (fun e => own_ne_row h.bo h.row (by decide) (e ▸ hg))), h.hb, h.fp, h.fh, h.fb,
    ca.stays (fun cb f _ hc => o cb (row_ne hc h.row (by decide))) (fun _ hk => hk)⟩

/-- the world behind an append to one of two lists: the other stays -/
theorem own_far {w w1 : World} {B : Nat} {e : TypeId} {s : Nat} {v : Value} {n : Nat} {xs : List Value} {row : Option Nat} (h : w.ownsRow B e s v n xs) (hg : w.grownBy w1 row) (hne : ∀ g, v.ownBlock = some g → row ≠ some g) : w1.ownsRow B e s v n xs :=
  own_stays h (fun g hgv => hg.block g (own_block h hgv).2.1 (fun e => hne g hgv e.symm))

/-- behind an append to 'byzantine': what of the frame stays -/
theorem FrRaw.grewB {w w1 : World} {n p : Nat} {ft : Nat → Prop} {F L bd : Nat} {hv bv cv gv : Value} {hl bl : List Nat} {cam : Nat → Bool} {o : Obj} (h : FrRaw w n p ft F L bd hv bv cv gv hl bl cam) (hg : (w.alloc o).grownBy w1 bv.ownBlock) :
    w1.rowIs p 30 9 (frCells F L bd hv bv cv gv) ∧ w1.ownsRow 0 3 1 hv hl.length (ints hl) ∧ CampIs w1 n ft cv cam := by
  refine ⟨?_, own_far (h.ho.alloc o) hg (fun g hgv => h.hb g hgv), ?_⟩
  · exact (h.row.alloc o).of_block (hg.block p (by have := h.row.lt; simp; omega) (own_ne_row h.bo h.row (by decide)).symm)
  · rcases h.ca with hc | ⟨cb, h1, h2, h3⟩
    · exact .inl hc
    · exact .inr ⟨cb, h1, h2, (h3.alloc o).of_block (hg.block cb (by have := h3.lt; simp; omega) (own_ne_row h.bo h3 (by decide)).symm)⟩
theorem FrRaw.grewH {w w1 : World} {n p : Nat} {ft : Nat → Prop} {F L bd : Nat} {hv bv cv gv : Value} {hl bl : List Nat} {cam : Nat → Bool} {o : Obj} (h : FrRaw w n p ft F L bd hv bv cv gv hl bl cam) (hg : (w.alloc o).grownBy w1 hv.ownBlock) :
    w1.rowIs p 30 9 (frCells F L bd hv bv cv gv) ∧ w1.ownsRow 0 3 1 bv bl.length (ints bl) ∧ CampIs w1 n ft cv cam := by
  refine ⟨?_, own_far (h.bo.alloc o) hg (fun g hgv e => h.hb g e hgv), ?_⟩
  · exact (h.row.alloc o).of_block (hg.block p (by have := h.row.lt; simp; omega) (own_ne_row h.ho h.row (by decide)).symm)
  · rcases h.ca with hc | ⟨cb, h1, h2, h3⟩
    · exact .inl hc
    · exact .inr ⟨cb, h1, h2, (h3.alloc o).of_block (hg.block cb (by have := h3.lt; simp; omega) (own_ne_row h.ho h3 (by decide)).symm)⟩
/-- .. and behind the store of the new value -/
theorem FrRaw.pushB {w w1 : World} {n p : Nat} {ft : Nat → Prop} {F L bd : Nat} {hv bv cv gv : Value} {hl bl bl' : List Nat} {cam : Nat → Bool} {o : Obj} {g m cap : Nat} (h : FrRaw w n p ft F L bd hv bv cv gv hl bl cam) (hg : (w.alloc o).grownBy w1 bv.ownBlock)
    (hown : w1.ownsRow 0 3 1 (.slice (some ⟨g, 0, none⟩) m cap) bl'.length (ints bl')) (hat : bv.ownBlock = some g ∨ g = w.heap.size + 1) (hft : ∀ k, w.heap.size ≤ k → ft k) :
    FrRaw (w1.setCell ⟨p, 4, none⟩ (.slice (some ⟨g, 0, none⟩) m cap)) n p ft F L bd hv (.slice (some ⟨g, 0, none⟩) m cap) cv gv hl bl' cam := by
  obtain ⟨r1, ho1, ca1⟩ := h.grewB hg
  have o' : ∀ k, k ≠ p → (w1.setCell ⟨p, 4, none⟩ (.slice (some ⟨g, 0, none⟩) m cap)).heap[k]? = w1.heap[k]? := fun k hk => Below.heap_setCell _ _ _ _ hk
  refine ⟨(r1.set 4 _).congr (fun i _ => frCells_set4 _ _ _ _ _ _ _ _ i), own_stays ho1 (fun x hx => o' x (fun e => own_ne_row ho1 r1 (by decide) (e ▸ hx))), own_stays hown (fun x hx => o' x (fun e => own_ne_row hown r1 (by decide) (e ▸ hx))), ?_, h.fp, h.fh, ?_, ca1.stays (fun cb f _ hc => o' cb (row_ne hc r1 (by decide))) (fun _ hk => hk)⟩
  · intro x hx e
    have e' : g = x := by simpa [Value.ownBlock] using e
    subst e'
    rcases hat with ha | ha
    · exact h.hb g hx ha
    · have := (own_block h.ho hx).2.1; omega
  · intro x hx
    have e' : g = x := by simpa [Value.ownBlock] using hx
    subst e'
    rcases hat with ha | ha
    · exact h.fb g ha
    · exact hft g (by omega)
theorem FrRaw.pushH {w w1 : World} {n p : Nat} {ft : Nat → Prop} {F L bd : Nat} {hv bv cv gv : Value} {hl bl hl' : List Nat} {cam : Nat → Bool} {o : Obj} {g m cap : Nat} (h : FrRaw w n p ft F L bd hv bv cv gv hl bl cam) (hg : (w.alloc o).grownBy w1 hv.ownBlock)
    (hown : w1.ownsRow 0 3 1 (.slice (some ⟨g, 0, none⟩) m cap) hl'.length (ints hl')) (hat : hv.ownBlock = some g ∨ g = w.heap.size + 1) (hft : ∀ k, w.heap.size ≤ k → ft k) :
    FrRaw (w1.setCell ⟨p, 3, none⟩ (.slice (some ⟨g, 0, none⟩) m cap)) n p ft F L bd (.slice (some ⟨g, 0, none⟩) m cap) bv cv gv hl' bl cam := by
  obtain ⟨r1, bo1, ca1⟩ := h.grewH hg
  have o' : ∀ k, k ≠ p → (w1.setCell ⟨p, 3, none⟩ (.slice (some ⟨g, 0, none⟩) m cap)).heap[k]? = w1.heap[k]? := fun k hk => Below.heap_setCell _ _ _ _ hk
  refine ⟨(r1.set 3 _).congr (fun i _ => frCells_set3 _ _ _ _ _ _ _ _ i), own_stays hown (fun x hx => o' x (fun e => own_ne_row hown r1 (by decide) (e ▸ hx))), own_stays bo1 (fun x hx => o' x (fun e => own_ne_row bo1 r1 (by decide) (e ▸ hx))), ?_, h.fp, ?_, h.fb, ca1.stays (fun cb f _ hc => o' cb (row_ne hc r1 (by decide))) (fun _ hk => hk)⟩
  · intro x hx e
    have e' : g = x := by simpa [Value.ownBlock] using hx
    subst e'
    rcases hat with ha | ha
    · exact h.hb g ha e
    · have := (own_block h.bo e).2.1; omega
  · intro x hx
    have e' : g = x := by simpa [Value.ownBlock] using hx
    subst e'
    rcases hat with ha | ha
    · exact h.fh g ha
    · exact hft g (by omega)
/-- another row stays behind such an append and store -/
theorem row_push {w w1 : World} {v x : Value} {k : Nat} {xs : List Value} {o : Obj} {q m : Nat} {t : TypeId} {f : Nat → Value} {p j : Nat} (hr : w.rowIs q t m f) (ho : w.ownsRow 0 3 1 v k xs) (hg : (w.alloc o).grownBy w1 v.ownBlock) (ht : t ≠ 3) (hp : q ≠ p) : (w1.setCell ⟨p, j, none⟩ x).rowIs q t m f := by
  have r1 : w1.rowIs q t m f := (hr.alloc o).of_block (hg.block q (by have := hr.lt; simp; omega) (own_ne_row ho hr ht).symm)
  exact r1.setOther hp _
/-- the frame of the whole -/
theorem fr_push {a w w1 : World} {ft : Nat → Prop} {v x : Value} {o : Obj} {p j : Nat} (hf : Fr ft a w) (hg : (w.alloc o).grownBy w1 v.ownBlock) (hv : ∀ g, v.ownBlock = some g → g < a.heap.size → ft g) (hp : ft p) : Fr ft a (w1.setCell ⟨p, j, none⟩ x) :=
  Fr.setCell ((hf.alloc o).grown hg hv) (fun _ => hp) x

/-- n cells of block b, from the first, hold z -/
def wpA (w : World) (b n : Nat) (z : Value) : World := w.setCells b 0 (List.replicate n z)
theorem setCells_indA (p : World → Prop) (b : Nat) (hp : ∀ w o v, p w → p (w.setCell ⟨b, o, none⟩ v)) : ∀ (vs : List Value) (o : Nat) (w : World), p w → p (w.setCells b o vs)
  | [], _, _, h => h
  | v :: r, o, w, h => setCells_indA p b hp r (o + 1) _ (hp w o v h)
theorem wpA_ind {p : World → Prop} {b : Nat} (hp : ∀ w o v, p w → p (w.setCell ⟨b, o, none⟩ v)) (n : Nat) (z : Value) {w : World} (h : p w) : p (wpA w b n z) := setCells_indA p b hp _ 0 w h
theorem row_cellsA {b n : Nat} {t : TypeId} (z : Value) : ∀ (m o : Nat) (w : World) (f : Nat → Value), w.rowIs b t n f → (w.setCells b o (List.replicate m z)).rowIs b t n (fun i => if o ≤ i ∧ i < o + m then z else f i)
  | 0, o, w, f, h => h.congr (fun i _ => by rw [if_neg (by omega)])
  | m + 1, o, w, f, h => by
    have := row_cellsA z m (o + 1) _ _ (h.set o z)
    rw [List.replicate_succ, World.setCells]
    refine this.congr (fun i _ => ?_)
    by_cases h1 : i = o
    · subst h1; rw [if_neg (by omega), if_pos rfl, if_pos (by omega)]
    · by_cases h2 : o + 1 ≤ i ∧ i < o + 1 + m
      · rw [if_pos h2, if_pos (by omega)]
      · rw [if_neg h2, if_neg h1, if_neg (by omega)]
theorem row_wpA {w : World} {b n : Nat} {t : TypeId} {f : Nat → Value} (h : w.rowIs b t n f) (z : Value) : (wpA w b n z).rowIs b t n (fun _ => z) :=
  (row_cellsA z n 0 w f h).congr (fun i hi => by rw [if_pos (by omega)])
theorem block_wpA (w : World) (b n : Nat) (z : Value) (k : Nat) (hk : k ≠ b) : (wpA w b n z).heap[k]? = w.heap[k]? :=
  wpA_ind (p := fun w' => w'.heap[k]? = w.heap[k]?) (fun _ _ _ h => (Below.heap_setCell _ _ _ _ hk).trans h) n z rfl
theorem size_wpA (w : World) (b n : Nat) (z : Value) : (wpA w b n z).heap.size = w.heap.size :=
  wpA_ind (p := fun w' => w'.heap.size = w.heap.size) (fun w' o v h => by rw [World.size_setCell]; exact h) n z rfl
theorem fr_wpA {S : Nat → Prop} {a w : World} (h : Fr S a w) {b : Nat} (hb : b < a.heap.size → S b) (n : Nat) (z : Value) : Fr S a (wpA w b n z) :=
  wpA_ind (p := fun w' => Fr S a w') (fun _ o v h => h.setCell (p := ⟨b, o, none⟩) hb v) n z h

/-- the frame, its camp written anew (the camp's block alone turns) -/
theorem FrRaw.camped {w w' : World} {n p cb : Nat} {ft : Nat → Prop} {F L bd : Nat} {hv bv gv : Value} {hl bl : List Nat} {cam cam' : Nat → Bool} (h : FrRaw w n p ft F L bd hv bv (.slice (some ⟨cb, 0, none⟩) (n + 1) (n + 1)) gv hl bl cam)
    (hs : ∀ k, k ≠ cb → w'.heap[k]? = w.heap[k]?) (hc : w'.rowIs cb 4 (n + 1) (fun i => .bool (cam' i))) : FrRaw w' n p ft F L bd hv bv (.slice (some ⟨cb, 0, none⟩) (n + 1) (n + 1)) gv hl bl cam' := by
  rcases h.ca with e | ⟨cb', e, h2, h3⟩
  · cases e
  · cases e
    exact ⟨h.row.of_block (hs p (row_ne h.row h3 (by decide))), own_stays h.ho (fun g hg => hs g (fun e => own_ne_row h.ho h3 (by decide) (e ▸ hg))), own_stays h.bo (fun g hg => hs g (fun e => own_ne_row h.bo h3 (by decide) (e ▸ hg))), h.hb, h.fp, h.fh, h.fb, .inr ⟨cb, rfl, h2, hc⟩⟩
theorem FrRaw.campRow {w : World} {n p cb : Nat} {ft : Nat → Prop} {F L bd : Nat} {hv bv gv : Value} {hl bl : List Nat} {cam : Nat → Bool} (h : FrRaw w n p ft F L bd hv bv (.slice (some ⟨cb, 0, none⟩) (n + 1) (n + 1)) gv hl bl cam) : ft cb ∧ w.rowIs cb 4 (n + 1) (fun i => .bool (cam i)) := by
  rcases h.ca with e | ⟨cb', e, h2, h3⟩
  · cases e
  · cases e; exact ⟨h2, h3⟩
end Go.Proofs.Ybulkahbw
