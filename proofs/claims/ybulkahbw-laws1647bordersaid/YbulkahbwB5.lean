/-
  Package scenario: the walks of zzs1647bdigits, of LawS1647BOrder's literal and of LawS1647BOrder.
-/
import Derived.Test.YbulkahbwB4
namespace Go.Proofs.Ybulkahbw
open Go.RowKit Go.Deep

theorem wrap_small (n : Nat) (h : n ≤ 1000000) : wrap64 (n : Int) = (n : Int) := by unfold wrap64; omega
theorem wt_step (Z : Nat → Nat) (n k : Nat) (hk : k + 1 ≤ n) : Rdx.wt (rr Z) n (n - k) = rad (Z k) * Rdx.wt (rr Z) n (n - (k + 1)) := by
  rw [show n - k = (n - (k + 1)) + 1 from by omega, Rdx.wt, show n - 1 - (n - (k + 1)) = k from by omega]
  rfl
theorem dg_at (Z : Nat → Nat) (n c k : Nat) (hk : k + 1 ≤ n) : Rdx.dg (rr Z) n c k = c / Rdx.wt (rr Z) n (n - (k + 1)) % rad (Z k) := by
  unfold Rdx.dg Rdx.pw
  rw [show n - 1 - k = n - (k + 1) from by omega]
  rfl

set_option maxHeartbeats 800000 in
/-- zzs1647bdigits. -/
theorem digits_any (a : Option Addr) (len cap c : Nat) (Z : Nat → Nat) (w : World) (hlen : len ≤ 1024) (hc : c ≤ 4096) (h : Row8 w a len Z) :
    Calls Yba.prog 14 #[.slice a len cap, .int .i64 c] w fun e w' => e = .returned (.slice (some ⟨w.heap.size, 0, none⟩) len len) ∧ w'.rowIs w.heap.size 3 len (fun j => .int .i64 (Rdx.dg (rr Z) len c j : Nat)) ∧ Fr (fun _ => False) w w' := by
  have hmk := run_make_row' (P := Yba.prog) 27 3 (.int .i64 0) 8 Yba.underlying27 Yba.info3 rfl .i64 .i64 len (by omega) (by omega)
  go_enter Yba.func14, Yba.ntmps14
  go_wp2
  clear hmk
  go_loopg [6, 7] len (fun k q i wr => k ≤ len ∧ i = .int .i64 ((k : Int) - 1) ∧ q = .int .i64 (c / Rdx.wt (rr Z) len (len - k) : Nat) ∧ wr.rowIs w.heap.size 3 len (fun j => .int .i64 (if j < k then 0 else Rdx.dg (rr Z) len c j : Nat)) ∧ Fr (fun _ => False) w wr)
  case atStart =>
    exact ⟨Nat.le_refl _, rfl, by simp [Rdx.wt], (World.rowIs_made w _ len 3).congr (fun i hi => by simp [hi]), (Fr.refl _ _).alloc _⟩
  case round =>
    obtain ⟨hk, rfl, rfl, hrow, hfr⟩ := hrel
    rcases Nat.eq_zero_or_pos gk with rfl | hpos
    · have hrow' := hrow.congr (g := fun j => .int .i64 (Rdx.dg (rr Z) len c j : Nat)) (fun j hj => by simp)
      clear hrow
      go_wp2
      go_ret
      exact ⟨rfl, hrow', hfr⟩
    · obtain ⟨k, rfl⟩ : ∃ k, gk = k + 1 := ⟨gk - 1, by omega⟩
      have ek : ((k + 1 : Nat) : Int) - 1 = (k : Int) := by omega
      rw [ek]
      have h' := h.below (hfr.below (Nat.le_refl _) (fun _ _ => id))
      have hzk := h.1 k
      rcases h'.2 with h2 | ⟨b, off, rfl, hbl, hcs⟩
      · omega
      have hck := hcs k (by omega)
      have hI : wr.cell? ⟨w.heap.size, k, none⟩ = some (.int .i64 0) := by
        have := hrow.cell (i := k) (by omega)
        simpa using this
      have hfz := hrow.frozen k
      have hk0 : (0 : Int) ≤ (k : Int) := by omega
      have hk1 : (k : Int) < (len : Int) := by omega
      have hr0 := rad_pos (Z k)
      have hr1 := rad_le (Z k)
      have hr2 : (0 : Int) < (rad (Z k) : Nat) := by omega
      have hq : c / Rdx.wt (rr Z) len (len - (k + 1)) ≤ 4096 := Nat.le_trans (Nat.div_le_self _ _) hc
      have E1 : Hid (Rdx.dg (rr Z) len c k = c / Rdx.wt (rr Z) len (len - (k + 1)) % rad (Z k)) := dg_at Z len c k hk
      have E2 : Hid (c / Rdx.wt (rr Z) len (len - k) = c / Rdx.wt (rr Z) len (len - (k + 1)) / rad (Z k)) := by
        show _ = _
        rw [wt_step Z len k hk, Nat.mul_comm, ← Nat.div_div_eq_div_mul]
      generalize c / Rdx.wt (rr Z) len (len - (k + 1)) = q at *
      have HR : Hid (wr.rowIs _ _ _ _) := hrow
      have HF : Hid (Fr _ w wr) := hfr
      clear hrow hfr h' hcs ek hpos
      go_wp2_with fail
      refine (radix_any _ hzk _).mono ?_
      rintro e w1 ⟨rfl, rfl⟩
      go_wp2
      go_roundg k
      case measure => omega
      case rel =>
        refine ⟨by omega, rfl, ?_, (HR.out.set k _).congr (fun j hj => ?_), HF.out.setCell (fun h => absurd h (Nat.lt_irrefl _)) _⟩
        · rw [E2.out, ← Int.natCast_ediv, wrap_small _ (Nat.le_trans (Nat.div_le_self _ _) (by omega))]
        · by_cases h1 : j = k
          · subst h1
            rw [if_pos rfl, if_neg (Nat.lt_irrefl _), E1.out, ← Int.natCast_emod]
          · rw [if_neg h1]
            by_cases h2 : j < k
            · rw [if_pos h2, if_pos (by omega)]
            · rw [if_neg h2, if_neg (by omega)]

theorem enter13 (args : Array Value) (w : World) : (callFunc 13 args).run Yba.prog w = .ok (.enter 13 args) w := enter_of Yba.func13 (by kernel_rfl) (by kernel_rfl) args w

/-- the state of the law's variables ahead of the call number c; W is the world in which the law began -/
structure OrdY (W : World) (C T L O : Nat) (a : Option Addr) (len cap : Nat) (Z : Nat → Nat) (c : Nat) (w : World) : Prop where
  cc : w.cell? ⟨C, 0, none⟩ = some (.int .i64 (c : Nat))
  cf : w.frozen? ⟨C, 0, none⟩ = false
  tt : w.cell? ⟨T, 0, none⟩ = some (.int .i64 (tp Z len : Nat))
  ll : w.cell? ⟨L, 0, none⟩ = some (.slice a len cap)
  oo : w.cell? ⟨O, 0, none⟩ = some (.bool true)
  row : Row8 W a len Z
  bel : Below W.heap.size W w

theorem OrdY.below {W : World} {C T L O : Nat} {a : Option Addr} {len cap : Nat} {Z : Nat → Nat} {c : Nat} {w w' : World} {N : Nat} (h : OrdY W C T L O a len cap Z c w) (hb : Below N w w') (hW : W.heap.size ≤ N) (hC : C < N) (hT : T < N) (hL : L < N) (hO : O < N) : OrdY W C T L O a len cap Z c w' :=
  ⟨by rw [hb.cell (p := ⟨C, 0, none⟩) hC]; exact h.cc, by rw [hb.frozen (p := ⟨C, 0, none⟩) hC]; exact h.cf, by rw [hb.cell (p := ⟨T, 0, none⟩) hT]; exact h.tt, by rw [hb.cell (p := ⟨L, 0, none⟩) hL]; exact h.ll, by rw [hb.cell (p := ⟨O, 0, none⟩) hO]; exact h.oo, h.row, h.bel.trans (hb.mono hW)⟩

set_option maxHeartbeats 800000 in
theorem order1 (W : World) (C T L O : Nat) (a : Option Addr) (len cap : Nat) (Z : Nat → Nat) (c I : Nat) (w : World) (h : OrdY W C T L O a len cap Z c w) (hlen : len ≤ 1024) (hc : c < tp Z len) (ht : tp Z len ≤ 4096)
    (hrow : w.rowIs I 3 len (fun j => .int .i64 (Rdx.dg (rr Z) len c j : Nat))) :
    Calls Yba.prog 13 #[.slice (some ⟨I, 0, none⟩) len len, .pointer (some ⟨C, 0, none⟩), .pointer (some ⟨T, 0, none⟩), .pointer (some ⟨L, 0, none⟩), .pointer (some ⟨O, 0, none⟩)] w fun e w' => e = .returned (.bool true) ∧
      ∃ w1, Fr (fun _ => False) w w1 ∧ w' = w1.setCell ⟨C, 0, none⟩ (.int .i64 ((c : Int) + 1)) := by
  have hr8 := h.row.below h.bel
  have k1 := h.cc
  have k3 := h.tt
  have k4 := h.ll
  have hC := World.block_lt_of_cell? _ _ k1
  have kf := h.cf
  have hlne : ((len : Int) != (len : Int)) = false := by simp
  simp only at hC
  go_enter Yba.func13, Yba.ntmps13
  go_wp2_with fail
  refine (digits_any a len cap c Z _ hlen (by omega) hr8).mono ?_
  rintro e w1 ⟨rfl, hd, hfr⟩
  have hrow1 := hfr.row hrow id
  have q1 : w1.cell? ⟨C, 0, none⟩ = some (.int .i64 (c : Nat)) := by rw [hfr.cell (p := ⟨C, 0, none⟩) hC id]; exact k1
  have qf : w1.frozen? ⟨C, 0, none⟩ = false := by rw [hfr.frozen (p := ⟨C, 0, none⟩) hC id]; exact kf
  clear k1 k3 k4 kf hr8 h
  go_wp2
  go_loopw [8] (fun i wr => ∃ k : Nat, k ≤ len ∧ i = .int .i64 k ∧ ∃ nq, wr = w1.drewN nq) (fun i _ => len - (intOf i).toNat)
  case atStart => exact ⟨0, by omega, rfl, 0, rfl⟩
  case round =>
    obtain ⟨k, hk, rfl, nq, rfl⟩ := hrel
    by_cases hlt : k < len
    · have x1 := hrow1.cell (i := k) hlt
      have x2 := hd.cell (i := k) hlt
      have hk0 : (0 : Int) ≤ (k : Int) := by omega
      have hk1 : (k : Int) < (len : Int) := by omega
      have hne : (((Rdx.dg (rr Z) len c k : Nat) : Int) != ((Rdx.dg (rr Z) len c k : Nat) : Int)) = false := by simp
      go_wp2
      go_quiet (fail)
      go_wp2
      go_roundw
      case rel => exact ⟨k + 1, by omega, by go_num, _, rfl⟩
      case measure => simp [intOf]; omega
    · go_wp2
      go_ret
      exact ⟨rfl, _, hfr.drewN nq, rfl⟩

theorem order_yields (W : World) (C T L O : Nat) (a : Option Addr) (len cap : Nat) (Z : Nat → Nat) (N : Nat) (hlen : len ≤ 1024) (ht : tp Z len ≤ 4096) (h0 : W.heap.size ≤ C) (h1 : ¬ C = T) (h2 : ¬ C = L) (h3 : ¬ C = O) :
    Yields 13 #[.pointer (some ⟨C, 0, none⟩), .pointer (some ⟨T, 0, none⟩), .pointer (some ⟨L, 0, none⟩), .pointer (some ⟨O, 0, none⟩)] N len Z (fun k => k = C) (OrdY W C T L O a len cap Z) (fun _ => False) := by
  intro c I wr _ hc hY hrow
  refine (order1 W C T L O a len cap Z c I wr hY hlen hc ht hrow).mono ?_
  rintro e w' ⟨rfl, w1, hfr, rfl⟩
  have g : ∀ x v, wr.cell? ⟨x, 0, none⟩ = some v → w1.cell? ⟨x, 0, none⟩ = some v := fun x v h => by
    rw [hfr.cell (p := ⟨x, 0, none⟩) (World.block_lt_of_cell? _ _ h) id]; exact h
  have hC := World.block_lt_of_cell? _ _ hY.cc
  have cC : (w1.setCell ⟨C, 0, none⟩ (.int .i64 ((c : Int) + 1))).cell? ⟨C, 0, none⟩ = some (.int .i64 ((c + 1 : Nat) : Int)) := World.cell?_setCell_same _ _ _ (g _ _ hY.cc)
  have cx : ∀ x, ¬ C = x → (w1.setCell ⟨C, 0, none⟩ (.int .i64 ((c : Int) + 1))).cell? ⟨x, 0, none⟩ = w1.cell? ⟨x, 0, none⟩ := fun x hx => World.cell?_setCell_other _ _ _ _ (fun e => hx (congrArg Addr.block e))
  refine ⟨true, rfl, .inl ⟨rfl, cC, ?_, by rw [cx T h1]; exact g _ _ hY.tt, by rw [cx L h2]; exact g _ _ hY.ll, by rw [cx O h3]; exact g _ _ hY.oo, hY.row, ?_⟩, Fr.setCell (S := fun k => k = C) (hfr.mono (fun _ _ h => h.elim)) (fun _ => rfl) _⟩
  · rw [World.frozen?_setCell, hfr.frozen (p := ⟨C, 0, none⟩) hC id]; exact hY.cf
  · exact (hY.bel.trans (hfr.below (B := W.heap.size) hY.bel.size (fun _ _ => id))).setCell (p := ⟨C, 0, none⟩) h0 _

/-- the run of the combinations with the law's own function -/
theorem order_run (W w2 : World) (T L S len cap : Nat) (a : Option Addr) (Z : Nat → Nat) (hlen : len ≤ 1024) (ht : tp Z len ≤ 4096) (hm : SwpMade w2 S len Z) (bT : w2.cell? ⟨T, 0, none⟩ = some (.int .i64 (tp Z len : Nat))) (bL : w2.cell? ⟨L, 0, none⟩ = some (.slice a len cap)) (hr : Row8 W a len Z) (hW : Below W.heap.size W w2) :
    Calls Yba.prog 22 #[.func (Fn.func 13) #[] #[.pointer (some ⟨w2.heap.size, 0, none⟩), .pointer (some ⟨T, 0, none⟩), .pointer (some ⟨L, 0, none⟩), .pointer (some ⟨w2.heap.size + 1, 0, none⟩)], .pointer (some ⟨w2.heap.size + 1 + 1, 0, none⟩)]
      (((w2.alloc (.cells #[.int .i64 0] 3)).alloc (.cells #[.bool true] 4)).alloc (.cells #[.pointer (some ⟨S, 0, none⟩)] 54)) fun e w' => e = .returned (.tuple #[]) ∧
        w'.cell? ⟨w2.heap.size + 1, 0, none⟩ = some (.bool true) ∧ w'.cell? ⟨w2.heap.size, 0, none⟩ = some (.int .i64 (tp Z len : Nat)) ∧ w'.cell? ⟨T, 0, none⟩ = some (.int .i64 (tp Z len : Nat)) ∧ Below w2.heap.size w2 w' := by
  have hT := World.block_lt_of_cell? _ _ bT
  have hL := World.block_lt_of_cell? _ _ bL
  simp only at hT hL
  have hsz := hW.size
  have bel : Below w2.heap.size w2 (((w2.alloc (.cells #[.int .i64 0] 3)).alloc (.cells #[.bool true] 4)).alloc (.cells #[.pointer (some ⟨S, 0, none⟩)] 54)) := ((((Below.refl _ w2).alloc (Nat.le_refl _) _).alloc (by simp) _).alloc (by simp; omega) _)
  obtain ⟨ao, cap', G, hSG, hG, hS, hsw⟩ := swp_of_made (.cells #[.int .i64 0] 3) (.cells #[.bool true] 4) hm
  refine (combos 13 _ enter13 (w2.heap.size + 1 + 1) S G len cap' ao Z (fun k => k = w2.heap.size) (OrdY W w2.heap.size T L (w2.heap.size + 1) a len cap Z) (fun _ => False) _ hlen hsw
    (by omega) (by omega) (by omega) (fun k hk => by simp; omega) (order_yields _ _ _ _ _ _ _ _ _ _ hlen ht hsz (by omega) (by omega) (by omega)) ?_ ?_).mono ?_
  · intro c w1 w2' hb hY
    exact hY.below hb (by simp <;> omega) (by simp <;> omega) (by simp <;> omega) (by simp <;> omega) (by simp <;> omega)
  · refine ⟨?_, ?_, ?_, ?_, ?_, hr, hW.trans (bel.mono hsz)⟩
    · rw [World.cell?_alloc_old _ _ _ (by simp; omega), World.cell?_alloc_old _ _ _ (by simp)]; simp
    · rw [World.frozen?_alloc_old _ _ _ (by simp; omega), World.frozen?_alloc_old _ _ _ (by simp)]; simp
    · rw [bel.cell (p := ⟨T, 0, none⟩) hT]; exact bT
    · rw [bel.cell (p := ⟨L, 0, none⟩) hL]; exact bL
    · rw [World.cell?_alloc_old _ _ _ (by simp)]
      simp
  · rintro e w' ⟨rfl, he, hf⟩
    rcases he with he | he
    · exact he.elim
    · exact ⟨rfl, he.oo, he.cc, he.tt, bel.trans (hf.below (B := w2.heap.size) (by simp; omega) (fun k hk => by omega))⟩

set_option maxRecDepth 100000 in
set_option maxHeartbeats 800000 in
/-- LawS1647BOrder. -/
theorem order_law (a : Option Addr) (len cap : Nat) (Z : Nat → Nat) (w : World) (h : Row8 w a len Z) :
    Calls Yba.prog 4 #[.slice a len cap] w fun e w' => e = .returned (.bool true) ∧ Below w.heap.size w w' := by
  have hmf : ∀ (fn : Fn) (first cap : Array Value) (w : World), (Instr.makeFunc fn first cap).run Yba.prog w = .ok (.func fn first cap) w := fun _ _ _ _ => rfl
  have hb1 : Below w.heap.size w (w.alloc (.cells #[.slice a len cap] 52)) := (Below.refl _ _).alloc (Nat.le_refl _) _
  by_cases hlen : len ≤ 1024
  · go_enter Yba.func4, Yba.ntmps4
    go_wp2_with fail
    refine (total_any a len cap Z _ hlen (h.below hb1)).mono ?_
    rintro e w1 ⟨ht, rfl⟩
    rcases ht with rfl | ⟨rfl, ht⟩
    · go_wp2
      go_ret
      exact ⟨rfl, hb1.alloc (by simp) _⟩
    · have hp := tp_pos Z len
      go_wp2_with fail
      have hb2 : Below w.heap.size w ((w.alloc (.cells #[.slice a len cap] 52)).alloc (.cells #[.int .i64 (tp Z len : Nat)] 3)) := hb1.alloc (by simp) _
      refine (sweep_any a len cap Z _ hlen (h.below hb2)).mono ?_
      rintro e w2 ⟨rfl, hmade, hfr⟩
      have bL : w2.cell? ⟨w.heap.size, 0, none⟩ = some (.slice a len cap) := by
        rw [hfr.cell (p := ⟨w.heap.size, 0, none⟩) (by simp; omega) id, World.cell?_alloc_old _ _ _ (by simp)]
        simp
      have bT : w2.cell? ⟨w.heap.size + 1, 0, none⟩ = some (.int .i64 (tp Z len : Nat)) := by
        rw [hfr.cell (p := ⟨w.heap.size + 1, 0, none⟩) (by simp) id]
        simp
      have bel : Below w.heap.size w w2 := hb2.trans ((hfr.below (Nat.le_refl _) (fun _ _ => id)).mono (by simp; omega))
      have hs2 : w.heap.size + 2 ≤ w2.heap.size := by have := hfr.size; simpa using this
      have hm : SwpMade w2 (w.heap.size + 1 + 1) len Z := by simpa using hmade
      have HM : Hid (SwpMade w2 (w.heap.size + 1 + 1) len Z) := hm
      clear hfr hmade hm hb1 hb2
      go_wp2_with fail
      refine (comb12 _ _).mono ?_
      rintro e w3 ⟨rfl, rfl⟩
      go_wp2_with fail
      refine (order_run w w2 _ _ _ len cap a Z hlen ht HM.out bT bL h bel).mono ?_
      rintro e w4 ⟨rfl, hO, hC, hT, hB⟩
      go_wp2
      go_ret
      exact ⟨by simp, bel.trans (hB.mono (by omega))⟩
  · go_enter Yba.func4, Yba.ntmps4
    go_wp2
    go_ret
    exact ⟨rfl, hb1⟩
end Go.Proofs.Ybulkahbw
