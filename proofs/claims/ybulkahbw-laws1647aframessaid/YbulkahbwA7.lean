/-
  Package attack: the walk of LawS1647AFrames.
-/
import Derived.Test.YbulkahbwRows
import Derived.Test.YbulkahbwA6
import Derived.Test.YbulkahbwA8
import Derived.LaidEqlPtr
import Derived.Lib.Builder
import Derived.Laws.Cover3
import Derived.Laws.Pointers
import Derived.WalkKit
import Derived.WalkSpells
import Derived.OwnWalk
import Derived.Outline
import Derived.RegionTactic
import Derived.Deep.LoopGhost
import Derived.Lib.SliceRun
import Derived.BigQuiet
import Derived.Deep.QuietTactic
import Derived.Deep.RegionHeld3
namespace Go.Proofs.Ybulkahbw
open Go.RowKit Go.Deep

theorem Yba.ptr24 : Yba.prog.underlying 24 = some (.pointer 30) := by kernel_rfl
theorem Yba.info30 : (Yba.prog.info? 30).map (fun i => i.size) = some 9 := by kernel_rfl
theorem ptr_neq_same (a : Addr) (w : World) : (binOp .neq 24 (.pointer (some a)) (.pointer (some a))).run Yba.prog w = .ok (.bool false) w := by
  obtain ⟨i, hi, _⟩ := Option.map_eq_some_iff.1 Yba.info30
  exact Go.Lib.run_neq_ptr_same w a Yba.ptr24 hi
theorem ptr_eql_other {w : World} {p E : Nat} {f g : Nat → Value} (hp : w.rowIs p 30 9 f) (hE : w.rowIs E 30 9 g) (hne : ¬ p = E) : (binOp .eql 24 (.pointer (some ⟨p, 0, none⟩)) (.pointer (some ⟨E, 0, none⟩))).run Yba.prog w = .ok (.bool false) w := by
  obtain ⟨i, hi, hs⟩ := Option.map_eq_some_iff.1 Yba.info30
  obtain ⟨c, hc, _⟩ := hp
  obtain ⟨c', hc', _⟩ := hE
  exact run_eql_ptr_other w Yba.ptr24 hi (by omega) (fun e => hne (congrArg Addr.block e)) hc hc'
theorem ptr_eql_nil (a : Addr) (w : World) : (binOp .eql 24 (.pointer (some a)) (.pointer none)).run Yba.prog w = .ok (.bool false) w := run_eql_pointer_nil w 24 (some a) (by kernel_rfl)
theorem sl27_nil (w : World) : (binOp .neq 27 (.slice none 0 0) (.slice none 0 0)).run Yba.prog w = .ok (.bool false) w := run_neq_slice_nil w 27 3 none 0 0 Yba.underlying27
theorem sl22_nil (w : World) : (binOp .neq 22 (.slice none 0 0) (.slice none 0 0)).run Yba.prog w = .ok (.bool false) w := run_neq_slice_nil w 22 4 none 0 0 Yba.underlying22
def w5e (w : World) (n Bb E : Nat) : World := ((((w.alloc (.cells zeroFr 30)).alloc (.cells (tmArr n Bb E) 43)).alloc (.cells b8 44)).alloc (.cells i16 45)).alloc (.cells i8 46)
def LawPost (w : World) (e : Ending) (w' : World) : Prop := e = .returned (.bool true) ∧ Fr (fun _ => False) w w'

/-- who is Byzantine, by the first m of 1..n laid -/
def bzAt (len : Nat) (f : Nat → Bool) (m : Nat) (i : Nat) : Bool := decide (1 ≤ i ∧ i < m ∧ i - 1 < len) && f (i - 1)

theorem bzAt_zero {len : Nat} {f : Nat → Bool} (i : Nat) : Value.bool false = .bool (bzAt len f (0 + 1) i) := by
  have h : ¬ (1 ≤ i ∧ i < 0 + 1 ∧ i - 1 < len) := by omega
  unfold bzAt
  rw [decide_eq_false h]; rfl
theorem bzAt_hit {len q : Nat} {f : Nat → Bool} (hq : q < len) (i : Nat) : (if i = q + 1 then Value.bool (f q) else .bool (bzAt len f (q + 1) i)) = .bool (bzAt len f (q + 1 + 1) i) := by
  unfold bzAt
  by_cases hi : i = q + 1
  · subst hi
    have h : (1 ≤ q + 1 ∧ q + 1 < q + 1 + 1 ∧ q + 1 - 1 < len) := by omega
    rw [if_pos rfl, decide_eq_true h]; rfl
  · have h : (1 ≤ i ∧ i < q + 1 + 1 ∧ i - 1 < len) ↔ (1 ≤ i ∧ i < q + 1 ∧ i - 1 < len) := by omega
    rw [if_neg hi, decide_eq_decide.2 h]
theorem bzAt_miss {len q : Nat} {f : Nat → Bool} (hq : ¬ q < len) (i : Nat) : Value.bool (bzAt len f (q + 1) i) = .bool (bzAt len f (q + 1 + 1) i) := by
  unfold bzAt
  have h : (1 ≤ i ∧ i < q + 1 + 1 ∧ i - 1 < len) ↔ (1 ≤ i ∧ i < q + 1 ∧ i - 1 < len) := by omega
  rw [decide_eq_decide.2 h]

set_option maxRecDepth 100000 in
set_option maxHeartbeats 3200000 in
theorem frames_law (z : Nat) (hz : z < 256) (a1 : Option Addr) (len1 cap1 : Nat) (f : Nat → Bool) (a2 : Option Addr) (len2 cap2 : Nat) (V : Nat → Nat → Nat) (w : World) (hB : RowBo w a1 len1 f) (hS : RowSt w a2 len2 V) :
    Calls Yba.prog 3 #[.int .u8 z, .slice a1 len1 cap1, .slice a2 len2 cap2] w (LawPost w) := by
  by_cases hlen : len2 ≤ 1024
  · obtain ⟨n, hn⟩ : ∃ n, n = z % 12 + 1 := ⟨_, rfl⟩
    have en : (z : Int) % 12 + 1 = (n : Int) := by omega
    have en2 : (z : Int).tmod 12 + 1 = (n : Int) := by rw [Int.tmod_eq_emod_of_nonneg (by omega)]; exact en
    have hn12 : n ≤ 12 := by omega
    have hn1 : 1 ≤ n := by omega
    clear hn
    have pns := ptr_neq_same
    have pen := ptr_eql_nil
    have s27 := sl27_nil
    have s22 := sl22_nil
    have hmk2 : ∀ w, (Instr.makeSlice 22 (.int .i64 ((n : Int) + 1)) (.int .i64 ((n : Int) + 1))).run Yba.prog w = .ok (.slice (some ⟨w.heap.size, 0, none⟩) (n + 1) (n + 1)) (w.alloc (.cells (madeCells #[.bool false] (n + 1)) 4)) := run_make_row' (P := Yba.prog) 22 4 (.bool false) 1 Yba.underlying22 Yba.info4a rfl .i64 .i64 (n + 1) (by omega) (by omega)
    go_enter Yba.func3, Yba.ntmps3
    have hL : (1024 : Int) < (len2 : Int) ↔ False := ⟨fun h => by omega, False.elim⟩
    go_wp2
    have rB := World.rowIs_made w (.bool false) (n + 1) 4
    have HS : Hid (RowSt w a2 len2 V) := hS
    have HB : Hid (RowBo w a1 len1 f) := hB
    clear hS hB hmk2 en en2
    go_loopg [9] n (fun gg i wr => ∃ q : Nat, gg = n - q ∧ q ≤ n ∧ i = .int .i64 ((q : Int) + 1) ∧ wr.rowIs w.heap.size 4 (n + 1) (fun i => .bool (bzAt len1 f (q + 1) i)) ∧ Fr (fun _ => False) w wr)
    case atStart => exact ⟨0, by omega, by omega, by simp, rB.congr (fun i _ => bzAt_zero i), (Fr.refl _ _).alloc _⟩
    case round =>
      clear rB
      obtain ⟨q, rfl, hq, rfl, hrow, hfr⟩ := hrel
      have hq0 : (q : Int) + 1 - 1 = (q : Int) := by omega
      by_cases hlt : q < n
      · have hq1 : (q : Int) + 1 ≤ (n : Int) := by omega
        have hq2 : (q : Int) + 1 < (n : Int) + 1 := by omega
        have tn : ((q : Int) + 1).toNat = q + 1 := by omega
        have HR : Hid (wr.rowIs w.heap.size 4 (n + 1) _) := hrow
        have HFr : Hid (Fr _ w wr) := hfr
        by_cases hq3 : q < len1
        · obtain ⟨b, off, e1, hbl, hcell⟩ := HB.out.resolve_left (by omega)
          subst e1
          have c1 : wr.cell? ⟨b, off + q, none⟩ = some (.bool (f q)) := (hfr.cell (p := ⟨b, off + q, none⟩) hbl id).trans (hcell q hq3)
          have c2 := hrow.cell (i := q + 1) (by omega)
          have z2 := hrow.frozen (q + 1)
          have hq4 : (q : Int) < (len1 : Int) := by omega
          clear hrow hfr
          go_wp2
          have R1 := (HR.out.set (q + 1) (.bool (f q))).congr (g := fun i => .bool (bzAt len1 f (q + 1 + 1) i)) (fun i _ => bzAt_hit hq3 i)
          have R2 := HFr.out.setCell (p := ⟨w.heap.size, q + 1, none⟩) (fun hl => absurd hl (Nat.lt_irrefl _)) (.bool (f q))
          go_roundg (n - (q + 1))
          case measure => omega
          case rel => exact ⟨q + 1, rfl, by omega, by go_num, R1, R2⟩
        · have hq4 : ((q : Int) < (len1 : Int)) = False := eq_false (by omega)
          have R1 := hrow.congr (g := fun i => .bool (bzAt len1 f (q + 1 + 1) i)) (fun i _ => bzAt_miss hq3 i)
          have HR1 : Hid (wr.rowIs w.heap.size 4 (n + 1) _) := R1
          clear hrow hfr R1
          go_wp2
          go_roundg (n - (q + 1))
          case measure => omega
          case rel => exact ⟨q + 1, rfl, by omega, by go_num, HR1.out, HFr.out⟩
      · have hq1 : ((q : Int) + 1 ≤ (n : Int)) = False := eq_false (by omega)
        have HR : Hid (wr.rowIs w.heap.size 4 (n + 1) _) := hrow
        have HFr : Hid (Fr _ w wr) := hfr
        clear hrow hfr
        go_wp2
        obtain ⟨E, hE⟩ : ∃ E, E = wr.heap.size := ⟨_, rfl⟩
        have HL : Hid (Lw (w5e wr n w.heap.size E) n (E + 1) E w.heap.size (E + 1 + 1) (E + 1 + 1 + 1) (E + 1 + 1 + 1 + 1) (E + 5) (bzAt len1 f (q + 1)) (fun _ => none) 0) := by rw [hE]; exact lw_start HR.out
        have HF : Hid (Fr (fun _ => False) w (w5e wr n w.heap.size E)) := by rw [hE]; exact HFr.out.trans (fr_w5 _ _ _)
        have hEl : w.heap.size ≤ E := by rw [hE]; exact HFr.out.size
        have hge : w.heap.size ≤ E + 1 ∧ w.heap.size ≤ E + 1 + 1 ∧ w.heap.size ≤ E + 1 + 1 + 1 ∧ w.heap.size ≤ E + 1 + 1 + 1 + 1 ∧ w.heap.size ≤ E + 5 := by omega
        rw [← hE]
        clear hE HR HFr
        generalize E + 5 = N at *
        generalize E + 1 = T at *
        generalize T + 1 = H at *
        generalize H + 1 = S at *
        generalize S + 1 = D at *
        generalize bzAt len1 f (q + 1) = bz at *
        go_loopg [15, 63] len2 (fun gg wa i wl => ∃ (j k : Nat) (st : Nat → Option (Nat × Nat × Nat)), gg = len2 - j ∧ j ≤ len2 ∧ wa = .int .i64 (k : Nat) ∧ i = .int .i64 (j : Nat) ∧ Lw wl n T E w.heap.size H S D N bz st k ∧ Fr (fun _ => False) w wl)
        case atStart => exact ⟨0, 0, _, rfl, by omega, rfl, rfl, HL.out, HF.out⟩
        case round =>
          clear HL HF
          obtain ⟨j, k, st, rfl, hj, rfl, rfl, hL, hfr⟩ := hrel
          have hj0 : (j : Int) ≤ 1024 := by omega
          by_cases hjl : j < len2
          · obtain ⟨b, off, e2, hbl, hcell⟩ := HS.out.2.resolve_left (by omega)
            subst e2
            have hV := HS.out.1
            have v0 : wr.cell? ⟨b, off + j * 5, none⟩ = some (.int .u8 (V j 0 : Nat)) := (hfr.cell (p := ⟨b, off + j * 5, none⟩) hbl id).trans (hcell j 0 hjl (by omega))
            have v1 : wr.cell? ⟨b, off + j * 5 + 1, none⟩ = some (.int .u8 (V j 1 : Nat)) := (hfr.cell (p := ⟨b, off + j * 5 + 1, none⟩) hbl id).trans (hcell j 1 hjl (by omega))
            have v2 : wr.cell? ⟨b, off + j * 5 + 2, none⟩ = some (.int .u8 (V j 2 : Nat)) := (hfr.cell (p := ⟨b, off + j * 5 + 2, none⟩) hbl id).trans (hcell j 2 hjl (by omega))
            have v3 : wr.cell? ⟨b, off + j * 5 + 3, none⟩ = some (.int .u8 (V j 3 : Nat)) := (hfr.cell (p := ⟨b, off + j * 5 + 3, none⟩) hbl id).trans (hcell j 3 hjl (by omega))
            have v4 : wr.cell? ⟨b, off + j * 5 + 4, none⟩ = some (.int .u8 (V j 4 : Nat)) := (hfr.cell (p := ⟨b, off + j * 5 + 4, none⟩) hbl id).trans (hcell j 4 hjl (by omega))
            have u0 := hV j 0
            have u1 := hV j 1
            have u2 := hV j 2
            have u3 := hV j 3
            have u4 := hV j 4
            have hjl' : (j : Int) < (len2 : Int) := by omega
            obtain ⟨ow, cv, ps, zz, F0, L0, bd0, d0, hpk, hT⟩ := hL.tm
            have k7 : wr.cell? ⟨T, 7, none⟩ = some (.int .i64 0) := hT.t.cell (i := 7) (by omega)
            have z7 := hT.t.frozen 7
            have k8 : wr.cell? ⟨T, 8, none⟩ = some (.int .i64 0) := hT.t.cell (i := 8) (by omega)
            have z8 := hT.t.frozen 8
            have k9 : wr.cell? ⟨T, 9, none⟩ = some (.int .i64 0) := hT.t.cell (i := 9) (by omega)
            have z9 := hT.t.frozen 9
            have k10 : wr.cell? ⟨T, 10, none⟩ = some (.int .i64 0) := hT.t.cell (i := 10) (by omega)
            have z10 := hT.t.frozen 10
            have k11 : wr.cell? ⟨T, 11, none⟩ = some (.int .i64 0) := hT.t.cell (i := 11) (by omega)
            have z11 := hT.t.frozen 11
            have k12 : wr.cell? ⟨T, 12, none⟩ = some (.int .i64 (F0 : Nat)) := hT.t.cell (i := 12) (by omega)
            have z12 := hT.t.frozen 12
            have k13 : wr.cell? ⟨T, 13, none⟩ = some (.int .i64 (L0 : Nat)) := hT.t.cell (i := 13) (by omega)
            have z13 := hT.t.frozen 13
            have k14 : wr.cell? ⟨T, 14, none⟩ = some (.int .i64 (bd0 : Nat)) := hT.t.cell (i := 14) (by omega)
            have z14 := hT.t.frozen 14
            have k15 : wr.cell? ⟨T, 15, none⟩ = some (.int .i64 (d0 : Nat)) := hT.t.cell (i := 15) (by omega)
            have z15 := hT.t.frozen 15
            have k16 : wr.cell? ⟨T, 16, none⟩ = some (.bool false) := hT.t.cell (i := 16) (by omega)
            have z16 := hT.t.frozen 16
            have k17 : wr.cell? ⟨T, 17, none⟩ = some (.int .i64 0) := hT.t.cell (i := 17) (by omega)
            have z17 := hT.t.frozen 17
            have k18 : wr.cell? ⟨T, 18, none⟩ = some (.int .i64 0) := hT.t.cell (i := 18) (by omega)
            have z18 := hT.t.frozen 18
            have k19 : wr.cell? ⟨T, 19, none⟩ = some (.int .i64 0) := hT.t.cell (i := 19) (by omega)
            have z19 := hT.t.frozen 19
            have k20 : wr.cell? ⟨T, 20, none⟩ = some (.int .i64 0) := hT.t.cell (i := 20) (by omega)
            have z20 := hT.t.frozen 20
            have hTl := hT.t.lt
            have tne : ¬ T = wr.heap.size := by omega
            have tne' : ¬ wr.heap.size = T := by omega
            have HLw : Hid (Lw wr n T E w.heap.size H S D N bz st k) := hL
            have HTm : Hid (Team wr n T E w.heap.size N bz ow cv ps st zz F0 L0 bd0 d0) := hT
            have HFr : Hid (Fr _ w wr) := hfr
            generalize V j 0 = V0 at *
            generalize V j 1 = V1 at *
            generalize V j 2 = V2 at *
            generalize V j 3 = V3 at *
            generalize V j 4 = V4 at *
            clear hL hT hfr hV hcell
            by_cases hsel : V0 % 4 = 0
            · have hs1 : (V0 : Int) % 4 = 0 := by omega
              have HN : Hid (Team ((setNow wr T 0 0 0 0).alloc (.cells #[.int .u8 (V0 : Nat), .int .u8 (V1 : Nat), .int .u8 (V2 : Nat), .int .u8 (V3 : Nat), .int .u8 (V4 : Nat)] 48)) n T E w.heap.size N bz ow cv ps st zz 0 0 0 0) := (setNow_team HTm.out 0 0 0 0).same (by simp) (fun k hk => Below.heap_alloc _ _ _ hk)
              have HLn : Hid (Lw ((setNow wr T 0 0 0 0).alloc (.cells #[.int .u8 (V0 : Nat), .int .u8 (V1 : Nat), .int .u8 (V2 : Nat), .int .u8 (V3 : Nat), .int .u8 (V4 : Nat)] 48)) n T E w.heap.size H S D N bz st k) := (lw_now HLw.out 0 0 0 0).far ((Fr.refl _ _).alloc _)
              have HFn : Hid (Fr (fun _ => False) w ((setNow wr T 0 0 0 0).alloc (.cells #[.int .u8 (V0 : Nat), .int .u8 (V1 : Nat), .int .u8 (V2 : Nat), .int .u8 (V3 : Nat), .int .u8 (V4 : Nat)] 48))) := (HFr.out.trans' (setNow_fr wr T 0 0 0 0) (fun i hi e => by have := hge.1; omega)).alloc _
              go_wp2_with fail
              refine (frame_none _ HN.out).mono ?_
              rintro e wt ⟨rfl, hff⟩
              have HLt : Hid (Lw wt n T E w.heap.size H S D N bz st k) := HLn.out.far hff
              have HFt : Hid (Fr (fun _ => False) w wt) := HFn.out.trans hff
              clear hff HN HLn HFn k7 z7 k8 z8 k9 z9 k10 z10 k11 z11 k12 z12 k13 z13 k14 z14 k15 z15 k16 z16 k17 z17 k18 z18 k19 z19 k20 z20 v0 v1 v2 v3 v4 HLw HTm HFr
              obtain ⟨ow', cv', ps', zz', F1, L1, bd1, d1, hpk', hTt⟩ := HLt.out.tm
              obtain ⟨ao, cap, hcv, hcf⟩ := ptr_form hTt.c
              subst hcv
              subst hpk'
              have t5 : wt.cell? ⟨T, 5, none⟩ = some (.slice ao ps'.length cap) := hTt.t.cell (i := 5) (by omega)
              have e0 : wt.cell? ⟨E, 0, none⟩ = some (.int .i64 0) := hTt.e.cell (i := 0) (by omega)
              have e1 : wt.cell? ⟨E, 1, none⟩ = some (.int .i64 0) := hTt.e.cell (i := 1) (by omega)
              have e3 : wt.cell? ⟨E, 3, none⟩ = some (.slice none 0 0) := hTt.e.cell (i := 3) (by omega)
              have e5 : wt.cell? ⟨E, 5, none⟩ = some (.slice none 0 0) := hTt.e.cell (i := 5) (by omega)
              have HTt : Hid (Team wt n T E w.heap.size N bz ow' _ ps' _ zz' F1 L1 bd1 d1) := hTt
              clear hTt
              have hlen8 := HTt.out.len
              go_wp2
              go_loopg [24] ps'.length (fun gg i wl => ∃ i' : Nat, gg = ps'.length - i' ∧ i' ≤ ps'.length ∧ i = .int .i64 (i' : Nat) ∧ Fr (fun _ => False) wt wl)
              case atStart => exact ⟨0, by omega, by omega, rfl, Fr.refl _ _⟩
              case round =>
                clear t5 e0 e1 e3 e5
                obtain ⟨i, rfl, hi, rfl, hfi⟩ := hrel
                have hTi := HTt.out.same hfi.size (fun k hk => hfi.block k hk id)
                have hLi := HLt.out.far hfi
                have t5 : wr.cell? ⟨T, 5, none⟩ = some (.slice ao ps'.length cap) := hTi.t.cell (i := 5) (by omega)
                by_cases hil : i < ps'.length
                · obtain ⟨g, eg⟩ : ∃ g, ao = some ⟨g, 0, none⟩ := by
                    rcases hcf with ⟨_, _, e⟩ | ⟨g, e, _⟩
                    · rw [e] at hil; exact absurd hil (by simp)
                    · exact ⟨g, e⟩
                  subst eg
                  obtain ⟨p, hpi⟩ : ∃ p, ps'[i]? = some p := ⟨_, List.getElem?_eq_getElem hil⟩
                  have cg : wr.cell? ⟨g, i, none⟩ = some (.pointer (some ⟨p, 0, none⟩)) := by
                    have := hTi.c.cellAt i (by omega)
                    simpa [ptrs, hpi] using this
                  have hok := hTi.fr i p hpi
                  have hpE : ¬ p = E := by
                    obtain ⟨_, _, _, _, _, _, _, _, _, _, hr, _⟩ := hok.raw
                    have h1 := hTi.own p i hr.fp
                    have h2 := hTi.lt
                    omega
                  have hpE' : ¬ E = p := fun e => hpE e.symm
                  have peo : (binOp .eql 24 (.pointer (some ⟨p, 0, none⟩)) (.pointer (some ⟨E, 0, none⟩))).run Yba.prog wr = .ok (.bool false) wr := by
                    obtain ⟨_, _, _, _, _, _, _, _, _, _, hr, _⟩ := hok.raw
                    exact ptr_eql_other hr.row hTi.e hpE
                  have hi1 : (i : Int) < (ps'.length : Int) := by omega
                  have hi2 : (i : Int) < 8 := by omega
                  have hi3 : (0 : Int) ≤ (i : Int) := by omega
                  have ch := hLi.h.cell (i := i) (by omega)
                  have cs0 := hLi.s.cell (i := i * 2) (by omega)
                  have cs1 := hLi.s.cell (i := i * 2 + 1) (by omega)
                  have cd := hLi.d.cell (i := i) (by omega)
                  have HFi : Hid (Fr _ wt wr) := hfi
                  have HTi : Hid (Team wr n T E w.heap.size N bz ow' _ ps' _ zz' F1 L1 bd1 d1) := hTi
                  have HLi : Hid (Lw wr n T E w.heap.size H S D N bz _ _) := hLi
                  cases hsti : st i with
                  | none =>
                    rw [hsti] at hok ch
                    obtain ⟨gv, hr⟩ := hok
                    have p0 : wr.cell? ⟨p, 0, none⟩ = some (.int .i64 0) := hr.row.cell (i := 0) (by omega)
                    have p1 : wr.cell? ⟨p, 1, none⟩ = some (.int .i64 0) := hr.row.cell (i := 1) (by omega)
                    have p3 : wr.cell? ⟨p, 3, none⟩ = some (.slice none 0 0) := hr.row.cell (i := 3) (by omega)
                    have p5 : wr.cell? ⟨p, 5, none⟩ = some (.slice none 0 0) := hr.row.cell (i := 5) (by omega)
                    have ch' : wr.cell? ⟨H, i, none⟩ = some (.bool false) := ch
                    clear hTi hLi hfi hr ch cs0 cs1 cd hsti
                    go_wp2
                    go_roundg (ps'.length - (i + 1))
                    case measure => omega
                    case rel => exact ⟨i + 1, rfl, by omega, by go_num, HFi.out⟩
                  | some tr =>
                    obtain ⟨F9, L9, bd9⟩ := tr
                    rw [hsti] at hok ch
                    obtain ⟨⟨q1, q2, q3, q4⟩, hv, bv, cb, gv, hr⟩ := hok
                    have ch' : wr.cell? ⟨H, i, none⟩ = some (.bool true) := ch
                    have sv0 : setv (st) (i * 2) = F9 := by unfold setv; rw [show i * 2 / 2 = i by omega, hsti]; simp
                    have sv1 : setv (st) (i * 2 + 1) = L9 := by unfold setv; rw [show (i * 2 + 1) / 2 = i by omega, hsti]; simp
                    have sv2 : bdv (st) i = bd9 := by unfold bdv; rw [hsti]
                    rw [sv0] at cs0
                    rw [sv1] at cs1
                    rw [sv2] at cd
                    have HR : Hid (FrRaw wr _ _ _ _ _ _ _ _ _ _ _ _ _) := hr
                    clear hTi hLi hfi hr ch hsti sv0 sv1 sv2
                    go_wp2
                    go_region_held3 (fun w' => w'.cell? ⟨S, i * 2, none⟩ = some (.int .i64 (F9 : Nat)) ∧ w'.cell? ⟨S, i * 2 + 1, none⟩ = some (.int .i64 (L9 : Nat)) ∧ w'.cell? ⟨D, i, none⟩ = some (.int .i64 (bd9 : Nat))) (go_keep) ((go_at_call 9; refine (check_any n p w.heap.size bz (fun k => ow' k = some i) F9 L9 bd9 hv bv cb gv wr.drew (HR.out.stays (fun _ _ => rfl) (fun _ hk => hk)) (fun k hk => (HTi.out.own k i hk).2) HTi.out.drew.b q1 q2 q3 q4 hn12).mono ?_; rintro e wc ⟨rfl, hfc⟩; have y0 : wc.cell? ⟨S, i * 2, none⟩ = some (.int .i64 (F9 : Nat)) := (hfc.cell (p := ⟨S, i * 2, none⟩) (HLi.out.s.lt) id).trans cs0; have y1 : wc.cell? ⟨S, i * 2 + 1, none⟩ = some (.int .i64 (L9 : Nat)) := (hfc.cell (p := ⟨S, i * 2 + 1, none⟩) (HLi.out.s.lt) id).trans cs1; have y2 : wc.cell? ⟨D, i, none⟩ = some (.int .i64 (bd9 : Nat)) := (hfc.cell (p := ⟨D, i, none⟩) (HLi.out.d.lt) id).trans cd))
                    go_wp2
                    go_roundg (ps'.length - (i + 1))
                    case measure => omega
                    case rel => exact ⟨i + 1, rfl, by omega, by go_num, HFi.out.drew.trans hfc⟩
                · obtain rfl : i = ps'.length := by omega
                  have HF9 : Hid (Fr _ w wr) := HFt.out.trans hfi
                  have HL9 : Hid (Lw wr n T E w.heap.size H S D N bz _ _) := hLi
                  clear hTi hLi hfi
                  go_wp2
                  go_roundg (len2 - (j + 1))
                  case measure => omega
                  case rel => exact ⟨j + 1, ps'.length, _, rfl, by omega, rfl, by go_num, HL9.out, HF9.out⟩

            · obtain ⟨F, hFe⟩ : ∃ F, F = V1 % n + 1 := ⟨_, rfl⟩
              have hFn : V1 % n < n := Nat.mod_lt _ (by omega)
              obtain ⟨L, hLe⟩ : ∃ L, L = F + V2 % (n - F + 1) := ⟨_, rfl⟩
              have hLn : V2 % (n - F + 1) < n - F + 1 := Nat.mod_lt _ (by omega)
              obtain ⟨bd, hbe⟩ : ∃ bd, bd = V3 % (n + 1) := ⟨_, rfl⟩
              have hbn : V3 % (n + 1) < n + 1 := Nat.mod_lt _ (by omega)
              obtain ⟨d, hde⟩ : ∃ d, d = V4 % 8 := ⟨_, rfl⟩
              have hs1 : ((V0 : Int) % 4 == 0) = false := beq_eq_false_iff_ne.2 (by omega)
              have hF1 : 1 ≤ F := by omega
              have hFL : F ≤ L := by omega
              have hLn' : L ≤ n := by omega
              have hbd : bd ≤ n := by omega
              have hd8 : d < 8 := by omega
              have cF : (V1 : Int).tmod (n : Int) + 1 = (F : Int) := by rw [Int.tmod_eq_emod_of_nonneg (by omega), hFe]; simp
              have cF' : (V1 : Int) % (n : Int) + 1 = (F : Int) := by rw [hFe]; simp
              have cLm : (F : Int) + (V2 : Int) % ((n : Int) - (F : Int) + 1) = (L : Int) := by
                rw [hLe, show (n : Int) - (F : Int) + 1 = ((n - F + 1 : Nat) : Int) by omega]; simp
              have HcL : Hid (wrap64 ((F : Int) + (V2 : Int) % ((n : Int) - (F : Int) + 1)) = (L : Int)) := by
                show wrap64 _ = _
                rw [cLm]; unfold wrap64; omega
              have cL : (F : Int) + (V2 : Int).tmod ((n : Int) - (F : Int) + 1) = (L : Int) := by
                rw [Int.tmod_eq_emod_of_nonneg (by omega)]; exact cLm
              clear cLm
              have cB : (V3 : Int).tmod ((n : Int) + 1) = (bd : Int) := by
                rw [Int.tmod_eq_emod_of_nonneg (by omega), hbe, show (n : Int) + 1 = ((n + 1 : Nat) : Int) by omega]; simp
              have cD : (V4 : Int) % 8 = (d : Int) := by omega
              clear hFe hLe hbe hde hFn hLn hbn
              have HN : Hid (Team (((setNow wr T F L bd d).alloc (.cells #[.int .u8 (V0 : Nat), .int .u8 (V1 : Nat), .int .u8 (V2 : Nat), .int .u8 (V3 : Nat), .int .u8 (V4 : Nat)] 48)).alloc (.cells #[.int .i64 (F : Nat), .int .i64 (L : Nat)] 26)) n T E w.heap.size N bz ow cv ps st zz F L bd d) := (setNow_team HTm.out F L bd d).same (by simp; omega) (fun k hk => by rw [Below.heap_alloc _ _ _ (by simp; omega), Below.heap_alloc _ _ _ hk])
              have HLn : Hid (Lw (((setNow wr T F L bd d).alloc (.cells #[.int .u8 (V0 : Nat), .int .u8 (V1 : Nat), .int .u8 (V2 : Nat), .int .u8 (V3 : Nat), .int .u8 (V4 : Nat)] 48)).alloc (.cells #[.int .i64 (F : Nat), .int .i64 (L : Nat)] 26)) n T E w.heap.size H S D N bz st k) := (lw_now HLw.out F L bd d).far (((Fr.refl _ _).alloc _).alloc _)
              have HFn : Hid (Fr (fun _ => False) w (((setNow wr T F L bd d).alloc (.cells #[.int .u8 (V0 : Nat), .int .u8 (V1 : Nat), .int .u8 (V2 : Nat), .int .u8 (V3 : Nat), .int .u8 (V4 : Nat)] 48)).alloc (.cells #[.int .i64 (F : Nat), .int .i64 (L : Nat)] 26))) := ((HFr.out.trans' (setNow_fr wr T F L bd d) (fun i hi e => by have := hge.1; omega)).alloc _).alloc _
              have HXn : Hid ((((setNow wr T F L bd d).alloc (.cells #[.int .u8 (V0 : Nat), .int .u8 (V1 : Nat), .int .u8 (V2 : Nat), .int .u8 (V3 : Nat), .int .u8 (V4 : Nat)] 48)).alloc (.cells #[.int .i64 (F : Nat), .int .i64 (L : Nat)] 26)).rowIs (wr.heap.size + 1) 26 2 (fun j => if j = 0 then .int .i64 (F : Nat) else .int .i64 (L : Nat))) := by
                have := World.rowIs_alloc ((setNow wr T F L bd d).alloc (.cells #[.int .u8 (V0 : Nat), .int .u8 (V1 : Nat), .int .u8 (V2 : Nat), .int .u8 (V3 : Nat), .int .u8 (V4 : Nat)] 48)) #[.int .i64 (F : Nat), .int .i64 (L : Nat)] 26 (fun j => if j = 0 then .int .i64 (F : Nat) else .int .i64 (L : Nat)) (fun i hi => by
                  match i, hi with
                  | 0, _ => rfl
                  | 1, _ => rfl)
                rw [World.size_alloc, setNow_size] at this
                exact this
              go_wp2_with fail
              simp only [HcL.out, cD]
              refine (frame_some _ HN.out (fun i hi => HLw.out.nst i (by omega)) hd8 hF1 hFL hLn' hbd hn12).mono ?_
              rintro e w' ⟨ow1, cv1, ps1, p, rfl, hpd, hpl, hT1, hf1⟩
              obtain ⟨K, hK⟩ : ∃ K, K = max k (d + 1) := ⟨_, rfl⟩
              obtain ⟨rH, rS, rD, hLw⟩ := lw_some (k' := K) HLn.out hf1 hT1 (by omega) hK
              obtain ⟨ao1, cap1', hcv1, hcf1⟩ := ptr_form hT1.c
              subst hcv1
              have hdl : d < ps1.length := by omega
              obtain ⟨g1, eg1⟩ : ∃ g, ao1 = some ⟨g, 0, none⟩ := by
                rcases hcf1 with ⟨_, _, e⟩ | ⟨g, e, _⟩
                · rw [e] at hdl; exact absurd hdl (by simp)
                · exact ⟨g, e⟩
              subst eg1
              have r0 := HTm.out.lt
              have hlt3 := HLw.out.lt
              have hpr := (hT1.fr d p hpd).raw
              have hpE : ¬ p = E := by
                obtain ⟨_, _, _, _, _, _, _, _, _, _, hr, _⟩ := hpr
                have h1 := hT1.own p d hr.fp
                have h2 := hT1.lt
                omega
              have peo : (binOp .eql 24 (.pointer (some ⟨p, 0, none⟩)) (.pointer (some ⟨E, 0, none⟩))).run Yba.prog w' = .ok (.bool false) w' := by
                obtain ⟨_, _, _, _, _, _, _, _, _, _, hr, _⟩ := hpr
                exact ptr_eql_other hr.row hT1.e hpE
              have c1 : w'.cell? ⟨T, 5, none⟩ = some (.slice (some ⟨g1, 0, none⟩) ps1.length cap1') := hT1.t.cell (i := 5) (by omega)
              have c2 : w'.cell? ⟨g1, d, none⟩ = some (.pointer (some ⟨p, 0, none⟩)) := by
                have := hT1.c.cellAt d (by omega)
                simpa [ptrs, hpd] using this
              have c3 := rH.cell (i := d) (by omega)
              have f3 := rH.frozen d
              have c4 := rS.cell (i := d * 2) (by omega)
              have f4 := rS.frozen (d * 2)
              have c5 := rS.cell (i := d * 2 + 1) (by omega)
              have f5 := rS.frozen (d * 2 + 1)
              have c6 := rD.cell (i := d) (by omega)
              have f6 := rD.frozen d
              have rx := hf1.row HXn.out (fun e => e.elim (fun e => by omega) (fun e => by
                rcases e.2 with e | e
                · have := (own_block HTm.out.c e).2.1; omega
                · cases ho : ow (wr.heap.size + 1) with
                  | none => exact e ho
                  | some i => have := HTm.out.own _ i ho; omega))
              have x0 : w'.cell? ⟨wr.heap.size + 1, 0, none⟩ = some (.int .i64 (F : Nat)) := rx.cell (i := 0) (by omega)
              have x1 : w'.cell? ⟨wr.heap.size + 1, 1, none⟩ = some (.int .i64 (L : Nat)) := rx.cell (i := 1) (by omega)
              have e0 : w'.cell? ⟨E, 0, none⟩ = some (.int .i64 0) := hT1.e.cell (i := 0) (by omega)
              have e1 : w'.cell? ⟨E, 1, none⟩ = some (.int .i64 0) := hT1.e.cell (i := 1) (by omega)
              have e3 : w'.cell? ⟨E, 3, none⟩ = some (.slice none 0 0) := hT1.e.cell (i := 3) (by omega)
              have e5 : w'.cell? ⟨E, 5, none⟩ = some (.slice none 0 0) := hT1.e.cell (i := 5) (by omega)
              have n1 : ¬ wr.heap.size + 1 = H := by omega
              have n2 : ¬ T = H := row_ne hT1.t rH (by decide)
              have n3 : ¬ T = S := row_ne hT1.t rS (by decide)
              have n4 : ¬ T = D := row_ne hT1.t rD (by decide)
              have n5 : ¬ E = H := row_ne hT1.e rH (by decide)
              have n6 : ¬ E = S := row_ne hT1.e rS (by decide)
              have n7 : ¬ E = D := row_ne hT1.e rD (by decide)
              have n8 : ¬ S = H := row_ne rS rH (by decide)
              have n9 : ¬ D = H := row_ne rD rH (by decide)
              have n10 : ¬ D = S := row_ne rD rS (by decide)
              have hd1 : (d : Int) < (ps1.length : Int) := by omega
              have hd2 : (d : Int) < 8 := by omega
              have hd3 : (0 : Int) ≤ (d : Int) := by omega
              have HLs : Hid (Lw (setTab w' H S D d F L bd) n T E w.heap.size H S D N bz (stPut st d F L bd) K) := hLw
              have HFs : Hid (Fr (fun _ => False) w (setTab w' H S D d F L bd)) := ((HFn.out.trans' hf1 (fun i hi e => by have := hge; rcases e with e | e <;> omega)).trans' (setTab_fr w' H S D d F L bd) (fun i hi e => by have := hge; rcases e with e | e | e <;> omega))
              have HPL : Hid (ps1.length = max ps.length (d + 1)) := hpl
              have HKk : Hid (K = max k (d + 1)) := hK
              have hpkk := hpk
              clear hLw hf1 hT1 rH rS rD rx hpr hpd HN HLn HFn HXn HLw HTm HFr hcf1 cF cF' cL cB HcL k7 z7 k8 z8 k9 z9 k10 z10 k11 z11 k12 z12 k13 z13 k14 z14 k15 z15 k16 z16 k17 z17 k18 z18 k19 z19 k20 z20 v0 v1 v2 v3 v4
              by_cases hkd : k < d + 1
              · have hk1 : (k : Int) < (d : Int) + 1 := by omega
                have hw : (ps1.length : Int) = (d : Int) + 1 := by omega
                clear hpl hK hpk
                go_wp2
                have HLt : Hid (Lw (setTab w' H S D d F L bd) n T E w.heap.size H S D N bz (stPut st d F L bd) K) := HLs
                have HFt : Hid (Fr (fun _ => False) w (setTab w' H S D d F L bd)) := HFs
                have hKm := HKk.out
                clear HLs HFs c1 c2 c3 f3 c4 f4 c5 f5 c6 f6 x0 x1 e0 e1 e3 e5 peo
                unfold setTab at HLt HFt
                generalize (((w'.setCell ⟨H, d, none⟩ (.bool true)).setCell ⟨S, d * 2, none⟩ (.int .i64 (F : Nat))).setCell ⟨S, d * 2 + 1, none⟩ (.int .i64 (L : Nat))).setCell ⟨D, d, none⟩ (.int .i64 (bd : Nat)) = wt at *
                obtain ⟨ow', cv', ps', zz', F1, L1, bd1, d1, hpk', hTt⟩ := HLt.out.tm
                obtain ⟨ao, cap, hcv, hcf⟩ := ptr_form hTt.c
                subst hcv
                subst hpk'
                have HTt : Hid (Team wt n T E w.heap.size N bz ow' _ ps' _ zz' F1 L1 bd1 d1) := hTt
                clear hTt
                have hlen8 := HTt.out.len
                go_loopg [24] ps'.length (fun gg i wl => ∃ i' : Nat, gg = ps'.length - i' ∧ i' ≤ ps'.length ∧ i = .int .i64 (i' : Nat) ∧ Fr (fun _ => False) wt wl)
                case atStart => exact ⟨0, by omega, by omega, rfl, Fr.refl _ _⟩
                case round =>
                  obtain ⟨i, rfl, hi, rfl, hfi⟩ := hrel
                  have hTi := HTt.out.same hfi.size (fun k hk => hfi.block k hk id)
                  have hLi := HLt.out.far hfi
                  have t5 : wr.cell? ⟨T, 5, none⟩ = some (.slice ao ps'.length cap) := hTi.t.cell (i := 5) (by omega)
                  by_cases hil : i < ps'.length
                  · obtain ⟨g, eg⟩ : ∃ g, ao = some ⟨g, 0, none⟩ := by
                      rcases hcf with ⟨_, _, e⟩ | ⟨g, e, _⟩
                      · rw [e] at hil; exact absurd hil (by simp)
                      · exact ⟨g, e⟩
                    subst eg
                    obtain ⟨p, hpi⟩ : ∃ p, ps'[i]? = some p := ⟨_, List.getElem?_eq_getElem hil⟩
                    have cg : wr.cell? ⟨g, i, none⟩ = some (.pointer (some ⟨p, 0, none⟩)) := by
                      have := hTi.c.cellAt i (by omega)
                      simpa [ptrs, hpi] using this
                    have hok := hTi.fr i p hpi
                    have hpE : ¬ p = E := by
                      obtain ⟨_, _, _, _, _, _, _, _, _, _, hr, _⟩ := hok.raw
                      have h1 := hTi.own p i hr.fp
                      have h2 := hTi.lt
                      omega
                    have hpE' : ¬ E = p := fun e => hpE e.symm
                    have peo : (binOp .eql 24 (.pointer (some ⟨p, 0, none⟩)) (.pointer (some ⟨E, 0, none⟩))).run Yba.prog wr = .ok (.bool false) wr := by
                      obtain ⟨_, _, _, _, _, _, _, _, _, _, hr, _⟩ := hok.raw
                      exact ptr_eql_other hr.row hTi.e hpE
                    have hi1 : (i : Int) < (ps'.length : Int) := by omega
                    have hi2 : (i : Int) < 8 := by omega
                    have hi3 : (0 : Int) ≤ (i : Int) := by omega
                    have ch := hLi.h.cell (i := i) (by omega)
                    have cs0 := hLi.s.cell (i := i * 2) (by omega)
                    have cs1 := hLi.s.cell (i := i * 2 + 1) (by omega)
                    have cd := hLi.d.cell (i := i) (by omega)
                    have HFi : Hid (Fr _ wt wr) := hfi
                    have HTi : Hid (Team wr n T E w.heap.size N bz ow' _ ps' _ zz' F1 L1 bd1 d1) := hTi
                    have HLi : Hid (Lw wr n T E w.heap.size H S D N bz _ _) := hLi
                    cases hsti : stPut st d F L bd i with
                    | none =>
                      rw [hsti] at hok ch
                      obtain ⟨gv, hr⟩ := hok
                      have p0 : wr.cell? ⟨p, 0, none⟩ = some (.int .i64 0) := hr.row.cell (i := 0) (by omega)
                      have p1 : wr.cell? ⟨p, 1, none⟩ = some (.int .i64 0) := hr.row.cell (i := 1) (by omega)
                      have p3 : wr.cell? ⟨p, 3, none⟩ = some (.slice none 0 0) := hr.row.cell (i := 3) (by omega)
                      have p5 : wr.cell? ⟨p, 5, none⟩ = some (.slice none 0 0) := hr.row.cell (i := 5) (by omega)
                      have ch' : wr.cell? ⟨H, i, none⟩ = some (.bool false) := ch
                      clear hTi hLi hfi hr ch cs0 cs1 cd hsti
                      go_wp2
                      go_roundg (ps'.length - (i + 1))
                      case measure => omega
                      case rel => exact ⟨i + 1, rfl, by omega, by go_num, HFi.out⟩
                    | some tr =>
                      obtain ⟨F9, L9, bd9⟩ := tr
                      rw [hsti] at hok ch
                      obtain ⟨⟨q1, q2, q3, q4⟩, hv, bv, cb, gv, hr⟩ := hok
                      have ch' : wr.cell? ⟨H, i, none⟩ = some (.bool true) := ch
                      have sv0 : setv (stPut st d F L bd) (i * 2) = F9 := by unfold setv; rw [show i * 2 / 2 = i by omega, hsti]; simp
                      have sv1 : setv (stPut st d F L bd) (i * 2 + 1) = L9 := by unfold setv; rw [show (i * 2 + 1) / 2 = i by omega, hsti]; simp
                      have sv2 : bdv (stPut st d F L bd) i = bd9 := by unfold bdv; rw [hsti]
                      rw [sv0] at cs0
                      rw [sv1] at cs1
                      rw [sv2] at cd
                      have HR : Hid (FrRaw wr _ _ _ _ _ _ _ _ _ _ _ _ _) := hr
                      clear hTi hLi hfi hr ch hsti sv0 sv1 sv2
                      go_wp2
                      go_region_held3 (fun w' => w'.cell? ⟨S, i * 2, none⟩ = some (.int .i64 (F9 : Nat)) ∧ w'.cell? ⟨S, i * 2 + 1, none⟩ = some (.int .i64 (L9 : Nat)) ∧ w'.cell? ⟨D, i, none⟩ = some (.int .i64 (bd9 : Nat))) (go_keep) ((go_at_call 9; refine (check_any n p w.heap.size bz (fun k => ow' k = some i) F9 L9 bd9 hv bv cb gv wr.drew (HR.out.stays (fun _ _ => rfl) (fun _ hk => hk)) (fun k hk => (HTi.out.own k i hk).2) HTi.out.drew.b q1 q2 q3 q4 hn12).mono ?_; rintro e wc ⟨rfl, hfc⟩; have y0 : wc.cell? ⟨S, i * 2, none⟩ = some (.int .i64 (F9 : Nat)) := (hfc.cell (p := ⟨S, i * 2, none⟩) (HLi.out.s.lt) id).trans cs0; have y1 : wc.cell? ⟨S, i * 2 + 1, none⟩ = some (.int .i64 (L9 : Nat)) := (hfc.cell (p := ⟨S, i * 2 + 1, none⟩) (HLi.out.s.lt) id).trans cs1; have y2 : wc.cell? ⟨D, i, none⟩ = some (.int .i64 (bd9 : Nat)) := (hfc.cell (p := ⟨D, i, none⟩) (HLi.out.d.lt) id).trans cd))
                      go_wp2
                      go_roundg (ps'.length - (i + 1))
                      case measure => omega
                      case rel => exact ⟨i + 1, rfl, by omega, by go_num, HFi.out.drew.trans hfc⟩
                  · obtain rfl : i = ps'.length := by omega
                    have HF9 : Hid (Fr _ w wr) := HFt.out.trans hfi
                    have HL9 : Hid (Lw wr n T E w.heap.size H S D N bz _ _) := hLi
                    clear hTi hLi hfi
                    go_wp2
                    go_roundg (len2 - (j + 1))
                    case measure => omega
                    case rel => exact ⟨j + 1, ps'.length, _, rfl, by omega, by first | rfl | (congr 1; omega), by go_num, HL9.out, HF9.out⟩

              · have hk1 : ((k : Int) < (d : Int) + 1) = False := eq_false (by omega)
                have hw : (ps1.length : Int) = (k : Int) := by omega
                clear hpl hK hpk
                go_wp2
                have HLt : Hid (Lw (setTab w' H S D d F L bd) n T E w.heap.size H S D N bz (stPut st d F L bd) K) := HLs
                have HFt : Hid (Fr (fun _ => False) w (setTab w' H S D d F L bd)) := HFs
                have hKm := HKk.out
                clear HLs HFs c1 c2 c3 f3 c4 f4 c5 f5 c6 f6 x0 x1 e0 e1 e3 e5 peo
                unfold setTab at HLt HFt
                generalize (((w'.setCell ⟨H, d, none⟩ (.bool true)).setCell ⟨S, d * 2, none⟩ (.int .i64 (F : Nat))).setCell ⟨S, d * 2 + 1, none⟩ (.int .i64 (L : Nat))).setCell ⟨D, d, none⟩ (.int .i64 (bd : Nat)) = wt at *
                obtain ⟨ow', cv', ps', zz', F1, L1, bd1, d1, hpk', hTt⟩ := HLt.out.tm
                obtain ⟨ao, cap, hcv, hcf⟩ := ptr_form hTt.c
                subst hcv
                subst hpk'
                have HTt : Hid (Team wt n T E w.heap.size N bz ow' _ ps' _ zz' F1 L1 bd1 d1) := hTt
                clear hTt
                have hlen8 := HTt.out.len
                go_loopg [24] ps'.length (fun gg i wl => ∃ i' : Nat, gg = ps'.length - i' ∧ i' ≤ ps'.length ∧ i = .int .i64 (i' : Nat) ∧ Fr (fun _ => False) wt wl)
                case atStart => exact ⟨0, by omega, by omega, rfl, Fr.refl _ _⟩
                case round =>
                  obtain ⟨i, rfl, hi, rfl, hfi⟩ := hrel
                  have hTi := HTt.out.same hfi.size (fun k hk => hfi.block k hk id)
                  have hLi := HLt.out.far hfi
                  have t5 : wr.cell? ⟨T, 5, none⟩ = some (.slice ao ps'.length cap) := hTi.t.cell (i := 5) (by omega)
                  by_cases hil : i < ps'.length
                  · obtain ⟨g, eg⟩ : ∃ g, ao = some ⟨g, 0, none⟩ := by
                      rcases hcf with ⟨_, _, e⟩ | ⟨g, e, _⟩
                      · rw [e] at hil; exact absurd hil (by simp)
                      · exact ⟨g, e⟩
                    subst eg
                    obtain ⟨p, hpi⟩ : ∃ p, ps'[i]? = some p := ⟨_, List.getElem?_eq_getElem hil⟩
                    have cg : wr.cell? ⟨g, i, none⟩ = some (.pointer (some ⟨p, 0, none⟩)) := by
                      have := hTi.c.cellAt i (by omega)
                      simpa [ptrs, hpi] using this
                    have hok := hTi.fr i p hpi
                    have hpE : ¬ p = E := by
                      obtain ⟨_, _, _, _, _, _, _, _, _, _, hr, _⟩ := hok.raw
                      have h1 := hTi.own p i hr.fp
                      have h2 := hTi.lt
                      omega
                    have hpE' : ¬ E = p := fun e => hpE e.symm
                    have peo : (binOp .eql 24 (.pointer (some ⟨p, 0, none⟩)) (.pointer (some ⟨E, 0, none⟩))).run Yba.prog wr = .ok (.bool false) wr := by
                      obtain ⟨_, _, _, _, _, _, _, _, _, _, hr, _⟩ := hok.raw
                      exact ptr_eql_other hr.row hTi.e hpE
                    have hi1 : (i : Int) < (ps'.length : Int) := by omega
                    have hi2 : (i : Int) < 8 := by omega
                    have hi3 : (0 : Int) ≤ (i : Int) := by omega
                    have ch := hLi.h.cell (i := i) (by omega)
                    have cs0 := hLi.s.cell (i := i * 2) (by omega)
                    have cs1 := hLi.s.cell (i := i * 2 + 1) (by omega)
                    have cd := hLi.d.cell (i := i) (by omega)
                    have HFi : Hid (Fr _ wt wr) := hfi
                    have HTi : Hid (Team wr n T E w.heap.size N bz ow' _ ps' _ zz' F1 L1 bd1 d1) := hTi
                    have HLi : Hid (Lw wr n T E w.heap.size H S D N bz _ _) := hLi
                    cases hsti : stPut st d F L bd i with
                    | none =>
                      rw [hsti] at hok ch
                      obtain ⟨gv, hr⟩ := hok
                      have p0 : wr.cell? ⟨p, 0, none⟩ = some (.int .i64 0) := hr.row.cell (i := 0) (by omega)
                      have p1 : wr.cell? ⟨p, 1, none⟩ = some (.int .i64 0) := hr.row.cell (i := 1) (by omega)
                      have p3 : wr.cell? ⟨p, 3, none⟩ = some (.slice none 0 0) := hr.row.cell (i := 3) (by omega)
                      have p5 : wr.cell? ⟨p, 5, none⟩ = some (.slice none 0 0) := hr.row.cell (i := 5) (by omega)
                      have ch' : wr.cell? ⟨H, i, none⟩ = some (.bool false) := ch
                      clear hTi hLi hfi hr ch cs0 cs1 cd hsti
                      go_wp2
                      go_roundg (ps'.length - (i + 1))
                      case measure => omega
                      case rel => exact ⟨i + 1, rfl, by omega, by go_num, HFi.out⟩
                    | some tr =>
                      obtain ⟨F9, L9, bd9⟩ := tr
                      rw [hsti] at hok ch
                      obtain ⟨⟨q1, q2, q3, q4⟩, hv, bv, cb, gv, hr⟩ := hok
                      have ch' : wr.cell? ⟨H, i, none⟩ = some (.bool true) := ch
                      have sv0 : setv (stPut st d F L bd) (i * 2) = F9 := by unfold setv; rw [show i * 2 / 2 = i by omega, hsti]; simp
                      have sv1 : setv (stPut st d F L bd) (i * 2 + 1) = L9 := by unfold setv; rw [show (i * 2 + 1) / 2 = i by omega, hsti]; simp
                      have sv2 : bdv (stPut st d F L bd) i = bd9 := by unfold bdv; rw [hsti]
                      rw [sv0] at cs0
                      rw [sv1] at cs1
                      rw [sv2] at cd
                      have HR : Hid (FrRaw wr _ _ _ _ _ _ _ _ _ _ _ _ _) := hr
                      clear hTi hLi hfi hr ch hsti sv0 sv1 sv2
                      go_wp2
                      go_region_held3 (fun w' => w'.cell? ⟨S, i * 2, none⟩ = some (.int .i64 (F9 : Nat)) ∧ w'.cell? ⟨S, i * 2 + 1, none⟩ = some (.int .i64 (L9 : Nat)) ∧ w'.cell? ⟨D, i, none⟩ = some (.int .i64 (bd9 : Nat))) (go_keep) ((go_at_call 9; refine (check_any n p w.heap.size bz (fun k => ow' k = some i) F9 L9 bd9 hv bv cb gv wr.drew (HR.out.stays (fun _ _ => rfl) (fun _ hk => hk)) (fun k hk => (HTi.out.own k i hk).2) HTi.out.drew.b q1 q2 q3 q4 hn12).mono ?_; rintro e wc ⟨rfl, hfc⟩; have y0 : wc.cell? ⟨S, i * 2, none⟩ = some (.int .i64 (F9 : Nat)) := (hfc.cell (p := ⟨S, i * 2, none⟩) (HLi.out.s.lt) id).trans cs0; have y1 : wc.cell? ⟨S, i * 2 + 1, none⟩ = some (.int .i64 (L9 : Nat)) := (hfc.cell (p := ⟨S, i * 2 + 1, none⟩) (HLi.out.s.lt) id).trans cs1; have y2 : wc.cell? ⟨D, i, none⟩ = some (.int .i64 (bd9 : Nat)) := (hfc.cell (p := ⟨D, i, none⟩) (HLi.out.d.lt) id).trans cd))
                      go_wp2
                      go_roundg (ps'.length - (i + 1))
                      case measure => omega
                      case rel => exact ⟨i + 1, rfl, by omega, by go_num, HFi.out.drew.trans hfc⟩
                  · obtain rfl : i = ps'.length := by omega
                    have HF9 : Hid (Fr _ w wr) := HFt.out.trans hfi
                    have HL9 : Hid (Lw wr n T E w.heap.size H S D N bz _ _) := hLi
                    clear hTi hLi hfi
                    go_wp2
                    go_roundg (len2 - (j + 1))
                    case measure => omega
                    case rel => exact ⟨j + 1, ps'.length, _, rfl, by omega, by first | rfl | (congr 1; omega), by go_num, HL9.out, HF9.out⟩

          · obtain rfl : j = len2 := by omega
            have HFr : Hid (Fr _ w wr) := hfr
            clear hL hfr
            go_wp2
            go_ret
            exact ⟨rfl, HFr.out⟩
  · have hl : ((len2 : Int) ≤ 1024) = False := eq_false (by omega)
    go_enter Yba.func3, Yba.ntmps3
    go_wp2
    go_ret
    exact ⟨rfl, Fr.refl _ _⟩
end Go.Proofs.Ybulkahbw
