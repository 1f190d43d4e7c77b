/-
  Package server: the walk of LawS1651CBody where the codings are not nil.
-/
import Derived.Test.YbulkaheaW4
namespace Go.Proofs.Ybulkahea
open Go.RowKit Go.Deep
theorem Yba.info9 : (Yba.prog.info? 9).map (fun i => (i.zero, i.size, i.bytes)) = some (some (.string ⟨#[]⟩), 1, 16) := by kernel_rfl

theorem mk_codings (len : Nat) (h : len ≤ 1024) (w : World) : (Instr.makeSlice 31 (.int .i64 0) (.int .i64 (len : Nat))).run Yba.prog w = .ok (.slice (some ⟨w.heap.size, 0, none⟩) 0 len) (w.alloc (.cells (madeCells #[.string ⟨#[]⟩] len) 9)) := by
  obtain ⟨i0, hi, hz0, hz1, hz2⟩ := info_parts Yba.info9
  have := run_make (P := Yba.prog) w 31 9 i0 _ Yba.underlying31 hi hz0 .i64 .i64 0 (len : Nat) (by omega) (by omega) (by rw [hz2]; omega) (by omega)
  rw [this, hz1]
  simp only [Int.toNat_natCast, Int.toNat_zero, Nat.mul_one]
  rfl

/-- the codings gathered so far -/
def cods (Z : Nat → Nat) (k : Nat) : List Value := (List.range k).map fun i => Value.string (cod (Z i))
theorem cods_succ (Z : Nat → Nat) (k : Nat) : cods Z (k + 1) = cods Z k ++ [.string (cod (Z k))] := by simp [cods, List.range_succ]
theorem cods_len (Z : Nat → Nat) (k : Nat) : (cods Z k).length = k := by simp [cods]

set_option maxRecDepth 100000 in
set_option maxHeartbeats 3200000 in
/-- the law where the codings are not nil -/
theorem law_some (b10 : Bool) (hosts : Int) (host : ByteArray) (L : Int) (hl : Bool) (a : Option Addr) (len cap : Nat) (Z : Nat → Nat) (w : World) (hlen : len ≤ 1024) (h : Row8 w a len Z) :
    Calls Yba.prog 4 #[.agg #[.bool b10, .int .i64 hosts, .string host, .int .i64 L, .bool hl, .bool false, .slice a len cap]] w fun e w' => e = .returned (.bool true) ∧ Below w.heap.size w w' := by
  obtain ⟨j0, hj0, hz0, hz1, hz2⟩ := info_parts Yba.info9
  have hmk := mk_codings len hlen
  have hnn := nil_slice
  generalize hO : spec b10 hosts L hl false len Z = o
  have HO : Hid (_ = o) := hO
  clear hO
  obtain ⟨ch, n, ro⟩ := o
  go_enter Yba.func4, Yba.ntmps4
  go_wp2
  clear hmk
  go_loopg [3, 29] len (fun gg v i wr => ∃ (k g cp : Nat), gg = len - k ∧ k ≤ len ∧ i = .int .i64 k ∧ v = .slice (some ⟨g, 0, none⟩) k cp ∧ wr.ownsRow (w.heap.size + 1) 9 1 v k (cods Z k) ∧ Fr (fun _ => False) (w.alloc (.cells #[.bool b10, .int .i64 hosts, .string host, .int .i64 L, .bool hl, .bool false, .slice a len cap] 30)) wr)
  case atStart =>
    refine ⟨0, w.heap.size + 1, len, by omega, by omega, rfl, rfl, ?_, (Fr.refl _ _).alloc _⟩
    have := World.ownsRow_made (w.alloc (.cells #[.bool b10, .int .i64 hosts, .string host, .int .i64 L, .bool hl, .bool false, .slice a len cap] 30)) (base := w.heap.size + 1) (e := 9) (size := 1) (madeCells #[.string ⟨#[]⟩] len) len (by simp) (by unfold maxLen; omega) (by simp [size_madeCells])
    simpa [cods] using this
  case round =>
    obtain ⟨k, g, cp, rfl, hk, rfl, rfl, hown, hfr⟩ := hrel
    have hz := h.1
    have bel : Below w.heap.size w wr := ((Below.refl _ w).alloc (Nat.le_refl _) _).trans (hfr.below (B := w.heap.size) (by simp) (fun _ _ => id))
    by_cases hlt : k < len
    · have h' := h.below bel
      rcases h'.2 with h2 | ⟨b, off, rfl, hbl, hc⟩
      · omega
      have hck := hc k hlt
      have hzk := hz k
      have hsz : w.heap.size + 1 ≤ wr.heap.size := by have := hfr.size; simpa using this
      have hk0 : (0 : Int) ≤ (k : Int) := by omega
      have hk1 : (k : Int) < (len : Int) := by omega
      have hml : k + 1 ≤ maxLen := by unfold maxLen; omega
      have hl2 : (k + 1) * 16 ≤ 140737488355328 := by omega
      have HN : Hid ((wr.alloc (.cells #[.string (cod (Z k))] 9)).heap[wr.heap.size]? = some (.cells #[.string (cod (Z k))] 9 (0, 0))) := heap_alloc_new wr _
      have HF : Hid (Fr _ _ wr) := hfr
      clear hc h' hfr bel
      go_wp2_with fail
      refine (coding_any _ hzk _).mono ?_
      rintro e w1 ⟨rfl, rfl⟩
      go_wp2_with (at_builtin; refine wpList_append_lies _ rfl _ _ _ rfl (w.heap.size + 1) 9 j0 _ 1 16 Yba.underlying31 hj0 hz0 hz1 hz2 rfl (by omega) (.slice (some ⟨g, 0, none⟩) k cp) k (cods Z k) (by rfl) (hown.alloc _) ⟨w1.heap.size, 0, none⟩ 1 1 [.string (cod (Z k))] (by rfl) (by rfl) (World.news_of_block (cs := #[.string (cod (Z k))]) (t := 9) (fr := (0, 0)) HN.out) (by simp [Value.oneCell']) (by omega) hml hl2 (by simp; omega) (w1.heap.size + 1) (by simp) ?_; intro g' cap' w2 hown1 hgrow hat hlt1)
      have hne : ∀ j, (Value.slice (some ⟨g, 0, none⟩) k cp).ownBlock = some j → j < (w.alloc (.cells #[.bool b10, .int .i64 hosts, .string host, .int .i64 L, .bool hl, .bool false, .slice (some ⟨b, off, none⟩) len cap] 30)).heap.size → False := by
        intro j hj hjl
        rcases hown.2 with ⟨e, _⟩ | ⟨g2, cp2, cur, e, hb2, _⟩
        · cases e
        · cases e
          simp [Value.ownBlock] at hj hjl
          omega
      have hfr2 := (HF.out.alloc _).grown hgrow hne
      rw [← cods_succ] at hown1
      go_roundg (len - (k + 1))
      case measure => omega
      case rel => exact ⟨k + 1, g', cap', rfl, by omega, by go_num, rfl, hown1, hfr2⟩
    · obtain rfl : k = len := by omega
      have hI := (in7_new w b10 hosts host L hl false (.slice a k cap)).fr hfr
      have hR : RowS wr g k cp Z := by
        rcases hown.2 with ⟨e, _⟩ | ⟨g2, cp2, cur, e, hb2, hg, hkc, _⟩
        · cases e
        · cases e
          refine ⟨lt_of_block hg, hkc, hlen, fun i hi => ?_⟩
          rw [hown.cellAt i (by omega)]
          simp [cods, hi]
      have HI : Hid (In7 _ _ _ _ _ _ _ _ _) := hI
      have HR : Hid (RowS wr g k cp Z) := hR
      have i0 := hI.c0
      have i1 := hI.c1
      have i2 := hI.c2
      have i3 := hI.c3
      have i4 := hI.c4
      clear hown hfr hI hR
      go_wp2_with fail
      have hf0 : Fr (fun _ => False) wr (wr.alloc (.cells #[.bool b10, .int .i64 hosts, .string host, .int .i64 L, .bool hl, .slice (some ⟨g, 0, none⟩) k cp] 35)) := (Fr.refl _ _).alloc _
      have hC : Cods wr (.slice (some ⟨g, 0, none⟩) k cp) false k Z := .inr ⟨rfl, g, cp, rfl, HR.out⟩
      have hC1 := hC.fr hf0
      have hF := frm_new wr b10 hosts host L hl (.slice (some ⟨g, 0, none⟩) k cp)
      have hB := body_any wr.heap.size b10 hosts host L hl false k Z _ _ hF hC1
      rw [HO.out] at hB
      refine hB.mono ?_
      rintro e w1 ⟨p, rfl, hp0, hp1, hfr⟩
      have hI1 := HI.out.fr (hf0.trans hfr)
      have hF1 := hF.fr hfr
      have hC2 := hC1.fr hfr
      have bel1 : Below w.heap.size w w1 := bel.trans ((hf0.trans hfr).below bel.size (fun _ _ => id))
      have hx : ∀ j, j < k → w1.cell? ⟨g, j, none⟩ = some (.string (cod (Z j))) := by
        rcases hC2 with ⟨e, _⟩ | ⟨_, g2, cp2, e, _, _, _, h5⟩
        · cases e
        · cases e; exact h5
      have hzc : ∀ j, j < k → ∃ b off, a = some ⟨b, off, none⟩ ∧ w1.cell? ⟨b, off + j, none⟩ = some (.int .u8 (Z j : Nat)) := by
        intro j hj
        rcases (h.below bel1).2 with h0 | ⟨b, off, ha, _, hc⟩
        · omega
        · exact ⟨b, off, ha, hc j hj⟩
      have HX : Hid (∀ j, j < k → w1.cell? ⟨g, j, none⟩ = some (.string (cod (Z j)))) := hx
      have HZ : Hid (∀ j, j < k → ∃ b off, a = some ⟨b, off, none⟩ ∧ w1.cell? ⟨b, off + j, none⟩ = some (.int .u8 (Z j : Nat))) := hzc
      have hWt := want_any b10 hosts L hl false k Z (.slice (some ⟨g, 0, none⟩) k cp) w1 hC2
      rw [HO.out] at hWt
      unfold Wants at hWt
      have HW : Hid (Calls _ _ _ _ _) := hWt
      clear hWt hx hzc hC hC1 hC2 hF hB hfr hf0 bel i0 i1 i2 i3 i4 HI HR h
      obtain ⟨i0, i1, i2, i3, i4, i5, i6⟩ := hI1
      obtain ⟨f0, f1, f2, f3, f4, f5⟩ := hF1
      cases ro with
      | none =>
        obtain rfl := hp0 rfl
        clear hp0 hp1
        go_wp2_with fail
        refine HW.out.mono ?_
        rintro e w2 ⟨rfl, rfl⟩
        clear HW
        go_wp2
        go_quiet (fail)
        go_wp2
        obtain ⟨wo, ho⟩ : ∃ wo : Nat, wo = wr.heap.size := ⟨_, rfl⟩
        rw [← ho] at f0 f1 f2 f3 f4 f5 ⊢
        clear ho
        clear wr
        go_loopw [14] (fun i wx => ∃ j : Nat, j ≤ k ∧ i = .int .i64 j ∧ ∃ q, wx = w2.drewN q) (fun i _ => k - (intOf i).toNat)
        case atStart => exact ⟨0, by omega, rfl, nq, rfl⟩
        case round =>
          obtain ⟨j, hj, rfl, q, hq⟩ := hrel
          have HQ : Hid (_ = w2.drewN q) := hq
          have cc : ∀ p, wr.cell? p = w2.cell? p := fun p => by rw [hq]; rfl
          have f5' : wr.cell? ⟨_, 5, none⟩ = some _ := (cc _).trans f5
          have i6' : wr.cell? ⟨_, 6, none⟩ = some _ := (cc _).trans i6
          clear hq
          by_cases hjl : j < k
          · have x1 := (cc _).trans (HX.out j hjl)
            obtain ⟨b, off, ha, x2'⟩ := HZ.out j hjl
            have x2 := (cc _).trans x2'
            subst ha
            clear cc x2' i0 i1 i2 i3 i4 i5 i6 f0 f1 f2 f3 f4 f5
            have hzj := hz j
            have hj0 : (0 : Int) ≤ (j : Int) := by omega
            have hj1 : (j : Int) < (k : Int) := by omega
            go_wp2
            go_quiet ((go_at_call 6; exact Calls.quiet_of_same (coding_any _ hzj _)))
            go_wp2
            go_roundw
            case rel => exact ⟨j + 1, by omega, by go_num, q + nq, by rw [HQ.out, World.drewN_drewN]⟩
            case measure => simp [intOf]; omega
          · clear cc
            go_wp2
            go_ret
            exact ⟨rfl, by rw [HQ.out]; exact below_drewN' bel1 q⟩
      | some r =>
        obtain ⟨R, rfl, q0, q1⟩ := hp1 r rfl
        clear hp0 hp1
        go_wp2_with fail
        refine HW.out.mono ?_
        rintro e w2 ⟨rfl, rfl⟩
        clear HW
        go_wp2
        go_quiet (fail)
        go_wp2
        obtain ⟨wo, ho⟩ : ∃ wo : Nat, wo = wr.heap.size := ⟨_, rfl⟩
        rw [← ho] at f0 f1 f2 f3 f4 f5 ⊢
        clear ho
        clear wr
        go_loopw [14] (fun i wx => ∃ j : Nat, j ≤ k ∧ i = .int .i64 j ∧ ∃ q, wx = w2.drewN q) (fun i _ => k - (intOf i).toNat)
        case atStart => exact ⟨0, by omega, rfl, nq, rfl⟩
        case round =>
          obtain ⟨j, hj, rfl, q, hq⟩ := hrel
          have HQ : Hid (_ = w2.drewN q) := hq
          have cc : ∀ p, wr.cell? p = w2.cell? p := fun p => by rw [hq]; rfl
          have f5' : wr.cell? ⟨_, 5, none⟩ = some _ := (cc _).trans f5
          have i6' : wr.cell? ⟨_, 6, none⟩ = some _ := (cc _).trans i6
          clear hq
          by_cases hjl : j < k
          · have x1 := (cc _).trans (HX.out j hjl)
            obtain ⟨b, off, ha, x2'⟩ := HZ.out j hjl
            have x2 := (cc _).trans x2'
            subst ha
            clear cc x2' i0 i1 i2 i3 i4 i5 i6 f0 f1 f2 f3 f4 f5
            have hzj := hz j
            have hj0 : (0 : Int) ≤ (j : Int) := by omega
            have hj1 : (j : Int) < (k : Int) := by omega
            go_wp2
            go_quiet ((go_at_call 6; exact Calls.quiet_of_same (coding_any _ hzj _)))
            go_wp2
            go_roundw
            case rel => exact ⟨j + 1, by omega, by go_num, q + nq, by rw [HQ.out, World.drewN_drewN]⟩
            case measure => simp [intOf]; omega
          · clear cc
            go_wp2
            go_ret
            exact ⟨rfl, by rw [HQ.out]; exact below_drewN' bel1 q⟩

set_option maxRecDepth 100000 in
/-- LawS1651CBody. -/
theorem body_law (b10 : Bool) (hosts : Int) (host : ByteArray) (L : Int) (hl nilc : Bool) (a : Option Addr) (len cap : Nat) (Z : Nat → Nat) (w : World) (h : Row8 w a len Z) :
    Calls Yba.prog 4 #[.agg #[.bool b10, .int .i64 hosts, .string host, .int .i64 L, .bool hl, .bool nilc, .slice a len cap]] w fun e w' => e = .returned (.bool true) ∧ Below w.heap.size w w' := by
  by_cases hlen : len ≤ 1024
  · cases nilc with
    | true => exact law_nil b10 hosts host L hl a len cap Z w hlen
    | false => exact law_some b10 hosts host L hl a len cap Z w hlen h
  · go_enter Yba.func4, Yba.ntmps4
    go_wp2
    go_ret
    exact ⟨rfl, (Below.refl _ _).alloc (Nat.le_refl _) _⟩
end Go.Proofs.Ybulkahea
