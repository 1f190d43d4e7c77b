/-
  Package attack: the walk of zzs1647acheck.
-/
import Derived.Test.YbulkahbwRows
import Derived.Test.YbulkahbwA3
import Derived.WalkKit
import Derived.WalkSpells
import Derived.OwnWalk
import Derived.Outline
import Derived.RegionTactic
import Derived.Deep.LoopGhost
import Derived.Lib.SliceRun
import Derived.BigQuiet
import Derived.Deep.QuietTactic
import Derived.Deep.RegionHeld3
namespace Go.Proofs.Ybulkahbw
open Go.RowKit Go.Deep

structure Chk (w : World) (n p Bb x : Nat) (bz : Nat → Bool) (ft : Nat → Prop) (F L bd : Nat) (hv bv : Value) (cb : Nat) (gv : Value) (hl bl : List Nat) (cam : Nat → Bool) (h' b' : Value) (hl' bl' : List Nat) : Prop where
  fr : FrRaw w n p ft F L bd hv bv (.slice (some ⟨cb, 0, none⟩) (n + 1) (n + 1)) gv hl bl cam
  lt : ∀ k, ft k → k < w.heap.size
  b : w.rowIs Bb 4 (n + 1) (fun i => .bool (bz i))
  x : w.rowIs x 26 2 (fun j => if j = 0 then .int .i64 (F : Nat) else .int .i64 (L : Nat))
  ho : w.ownsRow 0 3 1 h' hl'.length (ints hl')
  bo : w.ownsRow 0 3 1 b' bl'.length (ints bl')
theorem Chk.far {w w' : World} {n p Bb x : Nat} {bz : Nat → Bool} {ft : Nat → Prop} {F L bd : Nat} {hv bv : Value} {cb : Nat} {gv : Value} {hl bl : List Nat} {cam : Nat → Bool} {h' b' : Value} {hl' bl' : List Nat} (h : Chk w n p Bb x bz ft F L bd hv bv cb gv hl bl cam h' b' hl' bl') (hf : Fr (fun _ => False) w w') : Chk w' n p Bb x bz ft F L bd hv bv cb gv hl bl cam h' b' hl' bl' :=
  ⟨h.fr.stays (fun k hk => hf.block k (h.lt k hk) id) (fun _ hk => hk), fun k hk => Nat.lt_of_lt_of_le (h.lt k hk) hf.size, hf.row h.b id, hf.row h.x id, own_stays h.ho (fun g hg => hf.block g (own_block h.ho hg).2.1 id), own_stays h.bo (fun g hg => hf.block g (own_block h.bo hg).2.1 id)⟩
/-- the local lists may be others -/
theorem Chk.lists {w : World} {n p Bb x : Nat} {bz : Nat → Bool} {ft : Nat → Prop} {F L bd : Nat} {hv bv : Value} {cb : Nat} {gv : Value} {hl bl : List Nat} {cam : Nat → Bool} {h' b' h'' b'' : Value} {hl' bl' hl'' bl'' : List Nat} (h : Chk w n p Bb x bz ft F L bd hv bv cb gv hl bl cam h' b' hl' bl') (ho : w.ownsRow 0 3 1 h'' hl''.length (ints hl'')) (bo : w.ownsRow 0 3 1 b'' bl''.length (ints bl'')) : Chk w n p Bb x bz ft F L bd hv bv cb gv hl bl cam h'' b'' hl'' bl'' :=
  ⟨h.fr, h.lt, h.b, h.x, ho, bo⟩
theorem own_low {w : World} {B : Nat} {v : Value} {l : List Nat} (h : w.ownsRow B 3 1 v l.length (ints l)) : w.ownsRow 0 3 1 v l.length (ints l) := by
  obtain ⟨h1, h2⟩ := h
  refine ⟨h1, ?_⟩
  rcases h2 with h2 | ⟨g, cap, cur, e, hg, r⟩
  · exact .inl h2
  · exact .inr ⟨g, cap, cur, e, Nat.zero_le _, r⟩

theorem form_some {w : World} {ao : Option Addr} {m cap j : Nat} {l : List Nat} (h : w.ownsRow 0 3 1 (.slice ao m cap) l.length (ints l)) (hj : j < l.length) : ∃ g, ao = some ⟨g, 0, none⟩ := by
  rcases own_form h with ⟨a, c, e, hh⟩
  simp only [Value.slice.injEq] at e
  obtain ⟨rfl, _, rfl⟩ := e
  rcases hh with ⟨_, _, e⟩ | ⟨g, e, _⟩
  · rw [e] at hj; exact absurd hj (by simp)
  · exact ⟨g, e⟩
theorem form_cell {w : World} {g cap j id : Nat} {l : List Nat} (h : w.ownsRow 0 3 1 (.slice (some ⟨g, 0, none⟩) l.length cap) l.length (ints l)) (hid : l[j]? = some id) : w.cell? ⟨g, j, none⟩ = some (.int .i64 (id : Nat)) := by
  have hj : j < l.length := by
    rcases Nat.lt_or_ge j l.length with hj | hj
    · exact hj
    · rw [List.getElem?_eq_none hj] at hid; cases hid
  have := h.cellAt j (by rw [Nat.mul_one]; exact hj)
  simpa [ints, hid] using this

def CheckPost (w : World) (e : Ending) (w' : World) : Prop := e = .returned (.bool true) ∧ Fr (fun _ => False) w w'

set_option maxRecDepth 100000 in
set_option maxHeartbeats 3200000 in
theorem check_any (n p Bb : Nat) (bz : Nat → Bool) (ft : Nat → Prop) (F L bd : Nat) (hv bv : Value) (cb : Nat) (gv : Value) (w : World) (h : FrRaw w n p ft F L bd hv bv (.slice (some ⟨cb, 0, none⟩) (n + 1) (n + 1)) gv (hs bz F (L + 1 - F)) (bs bz F (L + 1 - F)) (inCamp (hs bz F (L + 1 - F)) (camp (hs bz F (L + 1 - F)).length bd))) (hft : ∀ k, ft k → k < w.heap.size)
    (hb : w.rowIs Bb 4 (n + 1) (fun i => .bool (bz i))) (hF : 1 ≤ F) (hFL : F ≤ L) (hLn : L ≤ n) (hbd : bd ≤ n) (hn : n ≤ 12) :
    Calls Yba.prog 9 #[.pointer (some ⟨p, 0, none⟩), .agg #[.int .i64 (F : Nat), .int .i64 (L : Nat)], .int .i64 (bd : Nat), .slice (some ⟨Bb, 0, none⟩) (n + 1) (n + 1), .int .i64 (n : Nat)] w (CheckPost w) := by
  obtain ⟨i0, hi0, hz0, hz1, hz2⟩ := info_parts Yba.info3a
  obtain ⟨s, hs'⟩ : ∃ s, L + 1 - F = s := ⟨_, rfl⟩
  rw [hs'] at h
  have HEF : Hid (F + s = L + 1) := by show F + s = L + 1; omega
  have hs12 : s ≤ 12 := by omega
  clear hs'
  have k0 : w.cell? ⟨p, 0, none⟩ = some (.int .i64 (F : Nat)) := h.row.cell (i := 0) (by omega)
  have k1 : w.cell? ⟨p, 1, none⟩ = some (.int .i64 (L : Nat)) := h.row.cell (i := 1) (by omega)
  have k2 : w.cell? ⟨p, 2, none⟩ = some (.int .i64 (bd : Nat)) := h.row.cell (i := 2) (by omega)
  have hpl := h.row.lt
  have np := World.new_ne w _ k0
  have np' : ¬ p = w.heap.size := by omega
  have C0 : Hid (Chk (w.alloc (.cells #[.int .i64 (F : Nat), .int .i64 (L : Nat)] 26)).drew n p Bb w.heap.size bz ft F L bd hv bv cb gv (hs bz F s) (bs bz F s) (inCamp (hs bz F s) (camp (hs bz F s).length bd)) (.slice none 0 0) (.slice none 0 0) [] []) := by
    have f0 : Fr (fun _ => False) w (w.alloc (.cells #[.int .i64 (F : Nat), .int .i64 (L : Nat)] 26)).drew := ((Fr.refl _ w).alloc _).drew
    refine ⟨h.stays (fun k hk => f0.block k (hft k hk) id) (fun _ hk => hk), fun k hk => Nat.lt_of_lt_of_le (hft k hk) f0.size, f0.row hb id, ?_, ⟨rfl, .inl ⟨rfl, rfl⟩⟩, ⟨rfl, .inl ⟨rfl, rfl⟩⟩⟩
    exact (World.rowIs_alloc w #[.int .i64 (F : Nat), .int .i64 (L : Nat)] 26 _ (fun i hi => by
      match i, hi with
      | 0, _ => rfl
      | 1, _ => rfl)).drew
  have F0 : Hid (Fr (fun _ => False) w (w.alloc (.cells #[.int .i64 (F : Nat), .int .i64 (L : Nat)] 26)).drew) := ((Fr.refl _ w).alloc _).drew
  clear h hb hft
  go_enter Yba.func9, Yba.ntmps9
  go_wp2
  go_region
  generalize (w.alloc (.cells #[.int .i64 (F : Nat), .int .i64 (L : Nat)] 26)).drew = w0 at *
  generalize w.heap.size = x at *
  have a0 : w0.cell? ⟨x, 0, none⟩ = some (.int .i64 (F : Nat)) := C0.out.x.cell (i := 0) (by omega)
  clear k0 k1 k2 np np' hpl
  go_wp2
  clear a0
  go_loopg [11, 12, 13] s (fun gg h1 b1 i wr => ∃ k : Nat, gg = s - k ∧ k ≤ s ∧ i = .int .i64 ((F : Int) + (k : Int)) ∧ wr.ownsRow w0.heap.size 3 1 h1 (hs bz F k).length (ints (hs bz F k)) ∧ wr.ownsRow w0.heap.size 3 1 b1 (bs bz F k).length (ints (bs bz F k)) ∧ (∀ g, h1.ownBlock = some g → b1.ownBlock ≠ some g) ∧ Fr (fun _ => False) w0 wr)
  case atStart => exact ⟨0, by omega, by omega, by simp, ⟨rfl, .inl ⟨rfl, rfl⟩⟩, ⟨rfl, .inl ⟨rfl, rfl⟩⟩, by simp [Value.ownBlock], Fr.refl _ _⟩
  case round =>
    obtain ⟨k, rfl, hk, rfl, hho, hbo, hdj, hfr⟩ := hrel
    have C1 := C0.out.far hfr
    have x0 : wr.cell? ⟨x, 0, none⟩ = some (.int .i64 (F : Nat)) := C1.x.cell (i := 0) (by omega)
    have x1 : wr.cell? ⟨x, 1, none⟩ = some (.int .i64 (L : Nat)) := C1.x.cell (i := 1) (by omega)
    have hbl := both_len bz F k
    have hsz := hfr.size
    by_cases hlt : k < s
    · have hle : F + k ≤ L := by have := HEF.out; omega
      have hck := C1.b.cell (i := F + k) (by omega)
      have hk0 : (0 : Int) ≤ (F : Int) + (k : Int) := by omega
      have hk1 : (F : Int) + (k : Int) < (n : Int) + 1 := by omega
      have hk2 : (F : Int) + (k : Int) ≤ (L : Int) := by omega
      have tn : ((F : Int) + (k : Int)).toNat = F + k := by omega
      have HN : Hid ((wr.alloc (.cells #[.int .i64 ((F : Int) + (k : Int))] 3)).heap[wr.heap.size]? = some (.cells #[.int .i64 ((F : Int) + (k : Int))] 3 (0, 0))) := heap_alloc_new wr _
      have HFr : Hid (Fr _ w0 wr) := hfr
      have HH : Hid (wr.ownsRow w0.heap.size 3 1 u11 (hs bz F k).length (ints (hs bz F k))) := hho
      have HB : Hid (wr.ownsRow w0.heap.size 3 1 u12 (bs bz F k).length (ints (bs bz F k))) := hbo
      have HD : Hid (∀ g, u11.ownBlock = some g → u12.ownBlock ≠ some g) := hdj
      cases hbz : bz (F + k) with
      | true =>
        rw [hbz] at hck
        have hml : (bs bz F k).length + 1 ≤ maxLen := by unfold maxLen; omega
        have hl2 : ((bs bz F k).length + 1) * 8 ≤ 140737488355328 := by omega
        have HZ : Hid (bz (F + k) = true) := hbz
        clear hho hbo hdj hfr hbz C1
        go_wp2_with (at_builtin; refine wpList_append_lies _ rfl _ _ _ rfl w0.heap.size 3 i0 _ 1 8 Yba.underlying27 hi0 hz0 hz1 hz2 rfl (by omega) u12 (bs bz F k).length (ints (bs bz F k)) (by rfl) (HB.out.alloc _) ⟨wr.heap.size, 0, none⟩ 1 1 [.int .i64 ((F : Int) + (k : Int))] (by rfl) (by rfl) (World.news_of_block (cs := #[.int .i64 ((F : Int) + (k : Int))]) (t := 3) (fr := (0, 0)) HN.out) (by simp [Value.oneCell']) (by omega) hml hl2 (by simp; omega) (wr.heap.size + 1) (by simp) ?_; intro g cap w1 hown1 hgrow hat hlt1)
        have R1 := own_far (HH.out.alloc _) hgrow (fun g hg => HD.out g hg)
        rw [← hs_yes _ _ _ HZ.out] at R1
        have R2 : w1.ownsRow w0.heap.size 3 1 (.slice (some ⟨g, 0, none⟩) ((bs bz F k).length + 1) cap) (bs bz F (k + 1)).length (ints (bs bz F (k + 1))) := by rw [bs_yes _ _ _ HZ.out, List.length_append, ints_snoc]; simpa using hown1
        have R3 := (HFr.out.alloc (.cells #[.int .i64 ((F : Int) + (k : Int))] 3)).grown hgrow (fun k hk hl => by have := (own_block HB.out hk).2.2; omega)
        have R4 : ∀ q, u11.ownBlock = some q → (Value.slice (some ⟨g, 0, none⟩) ((bs bz F k).length + 1) cap).ownBlock ≠ some q := fun q hq e => by
          have e' : g = q := by simpa [Value.ownBlock] using e
          subst e'
          rcases hat with ha | ha
          · exact HD.out g hq ha
          · have := (own_block HH.out hq).2.1; omega
        go_roundg (s - (k + 1))
        case measure => omega
        case rel => exact ⟨k + 1, rfl, by omega, by go_num, R1, R2, R4, R3⟩
      | false =>
        rw [hbz] at hck
        have hml : (hs bz F k).length + 1 ≤ maxLen := by unfold maxLen; omega
        have hl2 : ((hs bz F k).length + 1) * 8 ≤ 140737488355328 := by omega
        have HZ : Hid (bz (F + k) = false) := hbz
        clear hho hbo hdj hfr hbz C1
        go_wp2_with (at_builtin; refine wpList_append_lies _ rfl _ _ _ rfl w0.heap.size 3 i0 _ 1 8 Yba.underlying27 hi0 hz0 hz1 hz2 rfl (by omega) u11 (hs bz F k).length (ints (hs bz F k)) (by rfl) (HH.out.alloc _) ⟨wr.heap.size, 0, none⟩ 1 1 [.int .i64 ((F : Int) + (k : Int))] (by rfl) (by rfl) (World.news_of_block (cs := #[.int .i64 ((F : Int) + (k : Int))]) (t := 3) (fr := (0, 0)) HN.out) (by simp [Value.oneCell']) (by omega) hml hl2 (by simp; omega) (wr.heap.size + 1) (by simp) ?_; intro g cap w1 hown1 hgrow hat hlt1)
        have R1 := own_far (HB.out.alloc _) hgrow (fun g hg e => HD.out g e hg)
        rw [← bs_no _ _ _ HZ.out] at R1
        have R2 : w1.ownsRow w0.heap.size 3 1 (.slice (some ⟨g, 0, none⟩) ((hs bz F k).length + 1) cap) (hs bz F (k + 1)).length (ints (hs bz F (k + 1))) := by rw [hs_no _ _ _ HZ.out, List.length_append, ints_snoc]; simpa using hown1
        have R3 := (HFr.out.alloc (.cells #[.int .i64 ((F : Int) + (k : Int))] 3)).grown hgrow (fun k hk hl => by have := (own_block HH.out hk).2.2; omega)
        have R4 : ∀ q, (Value.slice (some ⟨g, 0, none⟩) ((hs bz F k).length + 1) cap).ownBlock = some q → u12.ownBlock ≠ some q := fun q hq e => by
          have e' : g = q := by simpa [Value.ownBlock] using hq
          subst e'
          rcases hat with ha | ha
          · exact HD.out g ha e
          · have := (own_block HB.out e).2.1; omega
        go_roundg (s - (k + 1))
        case measure => omega
        case rel => exact ⟨k + 1, rfl, by omega, by go_num, R2, R1, R4, R3⟩
    · obtain rfl : k = s := by omega
      have hlt' : ((F : Int) + (k : Int) ≤ (L : Int)) = False := eq_false (by have := HEF.out; omega)
      have C2 := C1.lists (own_low hho) (own_low hbo)
      obtain ⟨ha, hc, rfl, hhf⟩ := own_form C2.fr.ho
      obtain ⟨ba, bc, rfl, hbf⟩ := own_form C2.fr.bo
      obtain ⟨ha1, hc1, rfl, hhf1⟩ := own_form C2.ho
      obtain ⟨ba1, bc1, rfl, hbf1⟩ := own_form C2.bo
      have c3 : wr.cell? ⟨p, 3, none⟩ = some (.slice ha (hs bz F k).length hc) := C2.fr.row.cell (i := 3) (by omega)
      have c4 : wr.cell? ⟨p, 4, none⟩ = some (.slice ba (bs bz F k).length bc) := C2.fr.row.cell (i := 4) (by omega)
      have HC2 : Hid (Chk wr _ _ _ _ _ _ _ _ _ _ _ _ _ _ _ _ _ _ _ _) := C2
      have HFr : Hid (Fr _ w wr) := F0.out.trans hfr
      clear C1 C2 hho hbo hdj hfr C0 F0
      go_wp2
      go_loopg [14] (hs bz F k).length (fun gg i wl => ∃ j : Nat, gg = (hs bz F k).length - j ∧ j ≤ (hs bz F k).length ∧ i = .int .i64 (j : Nat) ∧ Fr (fun _ => False) wr wl)
      case atStart => exact ⟨0, by omega, by omega, rfl, Fr.refl _ _⟩
      case round =>
        obtain ⟨j, rfl, hj, rfl, hfj⟩ := hrel
        have C3 := HC2.out.far hfj
        have hjz : (j : Int) ≤ 12 := by omega
        by_cases hjl : j < (hs bz F k).length
        · obtain ⟨g1, e1⟩ : ∃ g, ha = some ⟨g, 0, none⟩ := form_some C3.fr.ho hjl
          obtain ⟨g2, e2⟩ : ∃ g, ha1 = some ⟨g, 0, none⟩ := form_some C3.ho hjl
          subst e1 e2
          obtain ⟨id, hid⟩ : ∃ id, (hs bz F k)[j]? = some id := ⟨_, List.getElem?_eq_getElem hjl⟩
          have q1 : wr.cell? ⟨g1, j, none⟩ = some (.int .i64 (id : Nat)) := form_cell C3.fr.ho hid
          have q2 : wr.cell? ⟨g2, j, none⟩ = some (.int .i64 (id : Nat)) := form_cell C3.ho hid
          have q3 : wr.cell? ⟨p, 3, none⟩ = some (.slice (some ⟨g1, 0, none⟩) (hs bz F k).length hc) := C3.fr.row.cell (i := 3) (by omega)
          have hj1 : (j : Int) < ((hs bz F k).length : Int) := by omega
          have HFj : Hid (Fr _ _ wr) := hfj
          clear C3 hfj
          go_wp2
          go_region
          go_wp2
          go_roundg ((hs bz F k).length - (j + 1))
          case measure => omega
          case rel => exact ⟨j + 1, rfl, by omega, by go_num, HFj.out.drew⟩
        · obtain rfl : j = (hs bz F k).length := by omega

          have HC3 : Hid (Chk wr _ _ _ _ _ _ _ _ _ _ _ _ _ _ _ _ _ _ _ _) := C3
          have HFr3 : Hid (Fr _ w wr) := HFr.out.trans hfj
          clear C3 hfj HC2 HFr
          go_wp2
          go_loopg [15] (bs bz F k).length (fun gg i wl => ∃ j : Nat, gg = (bs bz F k).length - j ∧ j ≤ (bs bz F k).length ∧ i = .int .i64 (j : Nat) ∧ Fr (fun _ => False) wr wl)
          case atStart => exact ⟨0, by omega, by omega, rfl, Fr.refl _ _⟩
          case round =>
            obtain ⟨j, rfl, hj, rfl, hfj⟩ := hrel
            have C3 := HC3.out.far hfj
            have hjz : (j : Int) ≤ 12 := by omega
            by_cases hjl : j < (bs bz F k).length
            · obtain ⟨g1, e1⟩ : ∃ g, ba = some ⟨g, 0, none⟩ := form_some C3.fr.bo hjl
              obtain ⟨g2, e2⟩ : ∃ g, ba1 = some ⟨g, 0, none⟩ := form_some C3.bo hjl
              subst e1 e2
              obtain ⟨id, hid⟩ : ∃ id, (bs bz F k)[j]? = some id := ⟨_, List.getElem?_eq_getElem hjl⟩
              have q1 : wr.cell? ⟨g1, j, none⟩ = some (.int .i64 (id : Nat)) := form_cell C3.fr.bo hid
              have q2 : wr.cell? ⟨g2, j, none⟩ = some (.int .i64 (id : Nat)) := form_cell C3.bo hid
              have q3 : wr.cell? ⟨p, 4, none⟩ = some (.slice (some ⟨g1, 0, none⟩) (bs bz F k).length bc) := C3.fr.row.cell (i := 4) (by omega)
              have hj1 : (j : Int) < ((bs bz F k).length : Int) := by omega
              have HFj : Hid (Fr _ _ wr) := hfj
              clear C3 hfj
              go_wp2
              go_region
              go_wp2
              go_roundg ((bs bz F k).length - (j + 1))
              case measure => omega
              case rel => exact ⟨j + 1, rfl, by omega, by go_num, HFj.out.drew⟩
            · obtain rfl : j = (bs bz F k).length := by omega

              have x0 : wr.cell? ⟨x, 0, none⟩ = some (.int .i64 (F : Nat)) := C3.x.cell (i := 0) (by omega)
              have x1 : wr.cell? ⟨x, 1, none⟩ = some (.int .i64 (L : Nat)) := C3.x.cell (i := 1) (by omega)
              have c5 : wr.cell? ⟨p, 5, none⟩ = some (.slice (some ⟨cb, 0, none⟩) (n + 1) (n + 1)) := C3.fr.row.cell (i := 5) (by omega)
              have HC4 : Hid (Chk wr _ _ _ _ _ _ _ _ _ _ _ _ _ _ _ _ _ _ _ _) := C3
              have HFr4 : Hid (Fr _ w wr) := HFr3.out.trans hfj
              clear C3 hfj HC3 HFr3
              have hmk2 : ∀ w, (Instr.makeSlice 22 (.int .i64 ((n : Int) + 1)) (.int .i64 ((n : Int) + 1))).run Yba.prog w = .ok (.slice (some ⟨w.heap.size, 0, none⟩) (n + 1) (n + 1)) (w.alloc (.cells (madeCells #[.bool false] (n + 1)) 4)) := run_make_row' (P := Yba.prog) 22 4 (.bool false) 1 Yba.underlying22 Yba.info4a rfl .i64 .i64 (n + 1) (by omega) (by omega)
              obtain ⟨K, hK⟩ : ∃ K, camp (hs bz F k).length bd = K := ⟨_, rfl⟩
              have hKl : K ≤ (hs bz F k).length := by rw [← hK]; exact camp_le _ _
              have y0 : ((L : Int) - (F : Int) + 1 - ((bs bz F k).length : Int) + 1).tdiv 2 = ((((hs bz F k).length + 1) / 2 : Nat) : Int) := by
                have e : (L : Int) - (F : Int) + 1 - ((bs bz F k).length : Int) + 1 = (((hs bz F k).length + 1 : Nat) : Int) := by have := HEF.out; omega
                rw [e, Int.tdiv_eq_ediv_of_nonneg (by omega)]
                omega
              have HY : Hid (_ = _) := y0
              have HK : Hid (camp (hs bz F k).length bd = K) := hK
              clear y0 hK
              go_wp2
              · have e18 : ((L : Int) - (F : Int) + 1 - ((bs bz F k).length : Int) + 1).tdiv 2 = (K : Int) := by
                  have hh : (L : Int) - (F : Int) + 1 - (bd : Int) - ((bs bz F k).length : Int) < ((L : Int) - (F : Int) + 1 - ((bs bz F k).length : Int) + 1).tdiv 2 := by assumption
                  have := HEF.out
                  have hK := HK.out
                  rw [HY.out] at hh ⊢
                  unfold camp at hK
                  omega
                rw [e18]
                clear e18
                have C5 := HC4.out.far ((Fr.refl _ wr).alloc (.cells (madeCells #[.bool false] (n + 1)) 4))
                have rm := World.rowIs_made wr (.bool false) (n + 1) 4
                have f5 := (Fr.refl (fun _ => False) wr).alloc (.cells (madeCells #[.bool false] (n + 1)) 4)
                clear C5
                go_loopg [21] K (fun gg i wl => ∃ j : Nat, gg = K - j ∧ j ≤ K ∧ i = .int .i64 (j : Nat) ∧ wl.rowIs wr.heap.size 4 (n + 1) (fun i => .bool (inCamp (hs bz F k) j i)) ∧ Fr (fun _ => False) wr wl)
                case atStart => exact ⟨0, by omega, by omega, rfl, rm.congr (fun i _ => by simp [inCamp]), f5⟩
                case round =>
                  clear rm f5
                  obtain ⟨j, rfl, hj, rfl, hrm, hfj⟩ := hrel
                  have C3 := HC4.out.far hfj
                  by_cases hjl : j < K
                  · obtain ⟨g2, e2⟩ : ∃ g, ha1 = some ⟨g, 0, none⟩ := form_some (j := j) C3.ho (by omega)
                    subst e2
                    obtain ⟨id, hid⟩ : ∃ id, (hs bz F k)[j]? = some id := ⟨_, List.getElem?_eq_getElem (by omega)⟩
                    have hmem := hs_mem bz F k id (List.mem_of_getElem? hid)
                    have hidn : id < n + 1 := by have := HEF.out; omega
                    have q2 : wr.cell? ⟨g2, j, none⟩ = some (.int .i64 (id : Nat)) := form_cell C3.ho hid
                    have q3 := hrm.cell (i := id) hidn
                    have q4 := hrm.frozen id
                    have hj1 : (j : Int) < (K : Int) := by omega
                    have hj2 : (j : Int) < ((hs bz F k).length : Int) := by omega
                    have HRM : Hid (wr.rowIs _ 4 (n + 1) _) := hrm
                    have HFj : Hid (Fr _ _ wr) := hfj
                    have HID : Hid ((hs bz F k)[j]? = some id) := hid
                    clear C3 hfj hrm hid
                    go_wp2
                    have R1 := (HRM.out.set id (.bool true)).congr (fun i _ => inCamp_step HID.out i)
                    have R2 := HFj.out.setCell (p := ⟨_, id, none⟩) (fun hl => absurd hl (Nat.lt_irrefl _)) (.bool true)
                    go_roundg (K - (j + 1))
                    case measure => omega
                    case rel => exact ⟨j + 1, rfl, by omega, by go_num, R1, R2⟩
                  · obtain rfl : j = K := by omega
                    have HC6 : Hid (Chk wr _ _ _ _ _ _ _ _ _ _ _ _ _ _ _ _ _ _ _ _) := C3
                    have HRM : Hid (wr.rowIs _ 4 (n + 1) _) := hrm
                    have HFr6 : Hid (Fr _ w wr) := HFr4.out.trans hfj
                    clear C3 hfj hrm HC4 HFr4
                    go_wp2
                    go_loopg [22] (n + 1) (fun gg i wl => ∃ j : Nat, gg = n + 1 - j ∧ j ≤ n + 1 ∧ i = .int .i64 (j : Nat) ∧ Fr (fun _ => False) wr wl)
                    case atStart => exact ⟨0, by omega, by omega, rfl, Fr.refl _ _⟩
                    case round =>
                      obtain ⟨i, rfl, hi, rfl, hfi⟩ := hrel
                      have C7 := HC6.out.far hfi
                      have R7 := hfi.row HRM.out id
                      by_cases hin : i < n + 1
                      · have hi1 : (i : Int) ≤ (n : Int) := by omega
                        have hi2 : (i : Int) < (n : Int) + 1 := by omega
                        have hi3 : (0 : Int) ≤ (i : Int) := by omega
                        have q1 : wr.cell? ⟨p, 5, none⟩ = some (.slice (some ⟨cb, 0, none⟩) (n + 1) (n + 1)) := C7.fr.row.cell (i := 5) (by omega)
                        have q2 := C7.fr.campRow.2.cell (i := i) hin
                        have q3 := R7.cell (i := i) hin
                        rw [HK.out] at q2
                        have HFi : Hid (Fr _ _ wr) := hfi
                        clear C7 R7 hfi
                        generalize inCamp (hs bz F k) j i = bb at *
                        cases bb
                        all_goals
                          go_wp2
                          go_region
                          go_wp2
                          go_roundg (n + 1 - (i + 1))
                          case measure => omega
                          case rel => exact ⟨i + 1, rfl, by omega, by go_num, HFi.out.drew⟩
                      · have hi1 : ((i : Int) ≤ (n : Int)) = False := eq_false (by omega)
                        have HFi : Hid (Fr _ w wr) := HFr6.out.trans hfi
                        clear C7 R7 hfi
                        go_wp2
                        go_ret
                        exact ⟨rfl, HFi.out⟩
              · have e18 : (L : Int) - (F : Int) + 1 - (bd : Int) - ((bs bz F k).length : Int) = (K : Int) := by
                  have hh : ((L : Int) - (F : Int) + 1 - ((bs bz F k).length : Int) + 1).tdiv 2 ≤ (L : Int) - (F : Int) + 1 - (bd : Int) - ((bs bz F k).length : Int) := by assumption
                  have := HEF.out
                  have hK := HK.out
                  rw [HY.out] at hh
                  unfold camp at hK
                  omega
                rw [e18]
                clear e18
                have C5 := HC4.out.far ((Fr.refl _ wr).alloc (.cells (madeCells #[.bool false] (n + 1)) 4))
                have rm := World.rowIs_made wr (.bool false) (n + 1) 4
                have f5 := (Fr.refl (fun _ => False) wr).alloc (.cells (madeCells #[.bool false] (n + 1)) 4)
                clear C5
                go_loopg [21] K (fun gg i wl => ∃ j : Nat, gg = K - j ∧ j ≤ K ∧ i = .int .i64 (j : Nat) ∧ wl.rowIs wr.heap.size 4 (n + 1) (fun i => .bool (inCamp (hs bz F k) j i)) ∧ Fr (fun _ => False) wr wl)
                case atStart => exact ⟨0, by omega, by omega, rfl, rm.congr (fun i _ => by simp [inCamp]), f5⟩
                case round =>
                  clear rm f5
                  obtain ⟨j, rfl, hj, rfl, hrm, hfj⟩ := hrel
                  have C3 := HC4.out.far hfj
                  by_cases hjl : j < K
                  · obtain ⟨g2, e2⟩ : ∃ g, ha1 = some ⟨g, 0, none⟩ := form_some (j := j) C3.ho (by omega)
                    subst e2
                    obtain ⟨id, hid⟩ : ∃ id, (hs bz F k)[j]? = some id := ⟨_, List.getElem?_eq_getElem (by omega)⟩
                    have hmem := hs_mem bz F k id (List.mem_of_getElem? hid)
                    have hidn : id < n + 1 := by have := HEF.out; omega
                    have q2 : wr.cell? ⟨g2, j, none⟩ = some (.int .i64 (id : Nat)) := form_cell C3.ho hid
                    have q3 := hrm.cell (i := id) hidn
                    have q4 := hrm.frozen id
                    have hj1 : (j : Int) < (K : Int) := by omega
                    have hj2 : (j : Int) < ((hs bz F k).length : Int) := by omega
                    have HRM : Hid (wr.rowIs _ 4 (n + 1) _) := hrm
                    have HFj : Hid (Fr _ _ wr) := hfj
                    have HID : Hid ((hs bz F k)[j]? = some id) := hid
                    clear C3 hfj hrm hid
                    go_wp2
                    have R1 := (HRM.out.set id (.bool true)).congr (fun i _ => inCamp_step HID.out i)
                    have R2 := HFj.out.setCell (p := ⟨_, id, none⟩) (fun hl => absurd hl (Nat.lt_irrefl _)) (.bool true)
                    go_roundg (K - (j + 1))
                    case measure => omega
                    case rel => exact ⟨j + 1, rfl, by omega, by go_num, R1, R2⟩
                  · obtain rfl : j = K := by omega
                    have HC6 : Hid (Chk wr _ _ _ _ _ _ _ _ _ _ _ _ _ _ _ _ _ _ _ _) := C3
                    have HRM : Hid (wr.rowIs _ 4 (n + 1) _) := hrm
                    have HFr6 : Hid (Fr _ w wr) := HFr4.out.trans hfj
                    clear C3 hfj hrm HC4 HFr4
                    go_wp2
                    go_loopg [22] (n + 1) (fun gg i wl => ∃ j : Nat, gg = n + 1 - j ∧ j ≤ n + 1 ∧ i = .int .i64 (j : Nat) ∧ Fr (fun _ => False) wr wl)
                    case atStart => exact ⟨0, by omega, by omega, rfl, Fr.refl _ _⟩
                    case round =>
                      obtain ⟨i, rfl, hi, rfl, hfi⟩ := hrel
                      have C7 := HC6.out.far hfi
                      have R7 := hfi.row HRM.out id
                      by_cases hin : i < n + 1
                      · have hi1 : (i : Int) ≤ (n : Int) := by omega
                        have hi2 : (i : Int) < (n : Int) + 1 := by omega
                        have hi3 : (0 : Int) ≤ (i : Int) := by omega
                        have q1 : wr.cell? ⟨p, 5, none⟩ = some (.slice (some ⟨cb, 0, none⟩) (n + 1) (n + 1)) := C7.fr.row.cell (i := 5) (by omega)
                        have q2 := C7.fr.campRow.2.cell (i := i) hin
                        have q3 := R7.cell (i := i) hin
                        rw [HK.out] at q2
                        have HFi : Hid (Fr _ _ wr) := hfi
                        clear C7 R7 hfi
                        generalize inCamp (hs bz F k) j i = bb at *
                        cases bb
                        all_goals
                          go_wp2
                          go_region
                          go_wp2
                          go_roundg (n + 1 - (i + 1))
                          case measure => omega
                          case rel => exact ⟨i + 1, rfl, by omega, by go_num, HFi.out.drew⟩
                      · have hi1 : ((i : Int) ≤ (n : Int)) = False := eq_false (by omega)
                        have HFi : Hid (Fr _ w wr) := HFr6.out.trans hfi
                        clear C7 R7 hfi
                        go_wp2
                        go_ret
                        exact ⟨rfl, HFi.out⟩
end Go.Proofs.Ybulkahbw
