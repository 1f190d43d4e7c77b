import Derived.Test.YbulkahbwB3
namespace Go.Proofs.Ybulkahbw
open Go.RowKit Go.Deep

/-- A call of a function that has a Go body enters it. -/
theorem enter_of {P : Program} {f : FuncId} {fn : Func} (hf : P.funcs[f]? = some fn) (hname : (fn.name == "runtime.NumGoroutine") = false) (hb : fn.body.isSome = true) (args : Array Value) (w : World) :
    (callFunc f args).run P w = .ok (.enter f args) w := by
  have h1 : fn.name ≠ "runtime.NumGoroutine" := by simpa using hname
  obtain ⟨c, hc⟩ := Option.isSome_iff_exists.1 hb
  simp [callFunc, hf, h1, hc]
theorem enter15 (args : Array Value) (w : World) : (callFunc 15 args).run Yba.prog w = .ok (.enter 15 args) w := enter_of Yba.func15 (by kernel_rfl) (by kernel_rfl) args w

/-- the state of the law's variables ahead of the call number c -/
structure StopY (C T O D : Nat) (tot st : Nat) (c : Nat) (w : World) : Prop where
  cc : w.cell? ⟨C, 0, none⟩ = some (.int .i64 (c : Nat))
  cf : w.frozen? ⟨C, 0, none⟩ = false
  tt : w.cell? ⟨T, 0, none⟩ = some (.int .i64 (tot : Nat))
  oo : w.cell? ⟨O, 0, none⟩ = some (.bool true)
  dd : w.cell? ⟨D, 0, none⟩ = some (.int .i64 (st : Nat))
  lt : c < st
/-- and behind the last call -/
structure StopFin (C O : Nat) (tot st : Nat) (w : World) : Prop where
  cc : w.cell? ⟨C, 0, none⟩ = some (.int .i64 (st : Nat))
  oo : w.cell? ⟨O, 0, none⟩ = some (.bool true)
  le : st ≤ tot

theorem stop1 (C T O D : Nat) (tot st c : Nat) (v : Value) (w : World) (h : StopY C T O D tot st c w) (hc : c < tot) (ht : tot ≤ 4096) (h3 : ¬ C = D) :
    Calls Yba.prog 15 #[v, .pointer (some ⟨C, 0, none⟩), .pointer (some ⟨T, 0, none⟩), .pointer (some ⟨O, 0, none⟩), .pointer (some ⟨D, 0, none⟩)] w fun e w' => e = .returned (.bool (decide (((c : Nat) : Int) + 1 < (st : Nat)))) ∧ w' = w.setCell ⟨C, 0, none⟩ (.int .i64 ((c : Int) + 1)) := by
  obtain ⟨k1, k2, k3, k4, k5, k6⟩ := h
  go_enter Yba.func15, Yba.ntmps15
  go_wp2
  go_ret
  exact ⟨rfl, rfl⟩

theorem StopY.below {C T O D tot st c : Nat} {w w' : World} {N : Nat} (h : StopY C T O D tot st c w) (hb : Below N w w') (hC : C < N) (hT : T < N) (hO : O < N) (hD : D < N) : StopY C T O D tot st c w' :=
  ⟨by rw [hb.cell (p := ⟨C, 0, none⟩) hC]; exact h.cc, by rw [hb.frozen (p := ⟨C, 0, none⟩) hC]; exact h.cf, by rw [hb.cell (p := ⟨T, 0, none⟩) hT]; exact h.tt, by rw [hb.cell (p := ⟨O, 0, none⟩) hO]; exact h.oo, by rw [hb.cell (p := ⟨D, 0, none⟩) hD]; exact h.dd, h.lt⟩

theorem stop_yields (C T O D : Nat) (n : Nat) (Z : Nat → Nat) (st N : Nat) (ht : tp Z n ≤ 4096) (h1 : ¬ C = T) (h2 : ¬ C = O) (h3 : ¬ C = D) :
    Yields 15 #[.pointer (some ⟨C, 0, none⟩), .pointer (some ⟨T, 0, none⟩), .pointer (some ⟨O, 0, none⟩), .pointer (some ⟨D, 0, none⟩)] N n Z (fun k => k = C) (StopY C T O D (tp Z n) st) (StopFin C O (tp Z n) st) := by
  intro c I wr _ hc hY _
  refine (stop1 C T O D (tp Z n) st c _ wr hY hc ht h3).mono ?_
  rintro e w' ⟨rfl, rfl⟩
  have cC : (wr.setCell ⟨C, 0, none⟩ (.int .i64 ((c : Int) + 1))).cell? ⟨C, 0, none⟩ = some (.int .i64 ((c + 1 : Nat) : Int)) := World.cell?_setCell_same _ _ _ hY.cc
  have cx : ∀ x, ¬ C = x → (wr.setCell ⟨C, 0, none⟩ (.int .i64 ((c : Int) + 1))).cell? ⟨x, 0, none⟩ = wr.cell? ⟨x, 0, none⟩ := fun x hx => World.cell?_setCell_other _ _ _ _ (fun e => hx (congrArg Addr.block e))
  refine ⟨_, rfl, ?_, Fr.setCell (S := fun k => k = C) (Fr.refl _ _) (fun _ => rfl) _⟩
  have hl := hY.lt
  by_cases h : c + 1 < st
  · refine .inl ⟨by simp; omega, cC, by simpa using hY.cf, by rw [cx T h1]; exact hY.tt, by rw [cx O h2]; exact hY.oo, by rw [cx D h3]; exact hY.dd, h⟩
  · obtain rfl : c + 1 = st := by omega
    exact .inr ⟨by simp, cC, by rw [cx O h2]; exact hY.oo, hc⟩

/-- (*Sweep).combinations. -/
theorem comb12 (S : Nat) (w : World) : Calls Yba.prog 12 #[.pointer (some ⟨S, 0, none⟩)] w fun e w' => e = .returned (.func (Fn.func 22) #[] #[.pointer (some ⟨w.heap.size, 0, none⟩)]) ∧ w' = w.alloc (.cells #[.pointer (some ⟨S, 0, none⟩)] 54) := by
  have hmf : ∀ (fn : Fn) (first cap : Array Value) (w : World), (Instr.makeFunc fn first cap).run Yba.prog w = .ok (.func fn first cap) w := fun _ _ _ _ => rfl
  go_enter Yba.func12, Yba.ntmps12
  go_wp2
  go_ret
  exact ⟨rfl, rfl⟩

/-- the sweep, behind the box that holds its address -/
theorem swp_of_made {w : World} {S n : Nat} {Z : Nat → Nat} (o1 o2 : Obj) (h : SwpMade w S n Z) : ∃ ao cap G, S ≤ G ∧ G < w.heap.size ∧ S < w.heap.size ∧
    Swp (((w.alloc o1).alloc o2).alloc (.cells #[.pointer (some ⟨S, 0, none⟩)] 54)) (w.heap.size + 2) S G ao n cap Z := by
  obtain ⟨ao, cap, G, c, ha, hS, hSG, hG, he⟩ := h
  have f : Fr (fun _ => False) w (((w.alloc o1).alloc o2).alloc (.cells #[.pointer (some ⟨S, 0, none⟩)] 54)) := (((Fr.refl _ w).alloc _).alloc _).alloc _
  refine ⟨ao, cap, G, hSG, hG, hS, ⟨?_, ?_, ha, fun i hi => ?_, by simp, by simp; omega, by simp; omega⟩⟩
  · have := World.cell?_alloc_new ((w.alloc o1).alloc o2) #[.pointer (some ⟨S, 0, none⟩)] 54 0
    simpa using this
  · rw [f.cell (p := ⟨S, 3, none⟩) hS id]; exact c
  · rw [f.cell (p := ⟨G, i * 4 + 3, none⟩) hG id]; exact he i hi

/-- the run of the combinations with the law's own function -/
theorem stop_run (w2 : World) (T D S len : Nat) (Z : Nat → Nat) (st : Nat) (hlen : len ≤ 1024) (ht : tp Z len ≤ 4096) (hst : 1 ≤ st) (hm : SwpMade w2 S len Z) (bT : w2.cell? ⟨T, 0, none⟩ = some (.int .i64 (tp Z len : Nat))) (bD : w2.cell? ⟨D, 0, none⟩ = some (.int .i64 (st : Nat))) :
    Calls Yba.prog 22 #[.func (Fn.func 15) #[] #[.pointer (some ⟨w2.heap.size, 0, none⟩), .pointer (some ⟨T, 0, none⟩), .pointer (some ⟨w2.heap.size + 1, 0, none⟩), .pointer (some ⟨D, 0, none⟩)], .pointer (some ⟨w2.heap.size + 1 + 1, 0, none⟩)]
      (((w2.alloc (.cells #[.int .i64 0] 3)).alloc (.cells #[.bool true] 4)).alloc (.cells #[.pointer (some ⟨S, 0, none⟩)] 54)) fun e w' => e = .returned (.tuple #[]) ∧
        w'.cell? ⟨w2.heap.size + 1, 0, none⟩ = some (.bool true) ∧ w'.cell? ⟨w2.heap.size, 0, none⟩ = some (.int .i64 (if tp Z len < st then tp Z len else st : Nat)) ∧ Below w2.heap.size w2 w' := by
  have hT := World.block_lt_of_cell? _ _ bT
  have hD := World.block_lt_of_cell? _ _ bD
  simp only at hT hD
  obtain ⟨ao, cap, G, hSG, hG, hS, hsw⟩ := swp_of_made (.cells #[.int .i64 0] 3) (.cells #[.bool true] 4) hm
  refine (combos 15 _ enter15 (w2.heap.size + 1 + 1) S G len cap ao Z (fun k => k = w2.heap.size) (StopY w2.heap.size T (w2.heap.size + 1) D (tp Z len) st) (StopFin w2.heap.size (w2.heap.size + 1) (tp Z len) st) _ hlen hsw
    (by omega) (by omega) (by omega) (fun k hk => by simp; omega) (stop_yields _ _ _ _ _ _ _ _ ht (by omega) (by omega) (by omega)) ?_ ?_).mono ?_
  · intro c w1 w2' hb hY
    exact hY.below hb (by simp <;> omega) (by simp <;> omega) (by simp <;> omega) (by simp <;> omega)
  · refine ⟨?_, ?_, ?_, ?_, ?_, hst⟩
    · rw [World.cell?_alloc_old _ _ _ (by simp; omega), World.cell?_alloc_old _ _ _ (by simp)]; simp
    · rw [World.frozen?_alloc_old _ _ _ (by simp; omega), World.frozen?_alloc_old _ _ _ (by simp)]; simp
    · rw [World.cell?_alloc_old _ _ _ (by simp; omega), World.cell?_alloc_old _ _ _ (by simp; omega), World.cell?_alloc_old _ _ _ (by simp; omega)]; exact bT
    · rw [World.cell?_alloc_old _ _ _ (by simp)]
      simp
    · rw [World.cell?_alloc_old _ _ _ (by simp; omega), World.cell?_alloc_old _ _ _ (by simp; omega), World.cell?_alloc_old _ _ _ (by simp; omega)]; exact bD
  · rintro e w' ⟨rfl, he, hf⟩
    have hbel : Below w2.heap.size w2 w' := ((((Below.refl _ w2).alloc (Nat.le_refl _) _).alloc (by simp) _).alloc (by simp; omega) _).trans ((hf.below (B := w2.heap.size) (by simp; omega) (fun k hk => by omega)))
    rcases he with he | he
    · refine ⟨rfl, he.oo, ?_, hbel⟩
      rw [if_neg (by have := he.le; omega)]; exact he.cc
    · refine ⟨rfl, he.oo, ?_, hbel⟩
      rw [if_pos he.lt]; exact he.cc

set_option maxRecDepth 100000 in
set_option maxHeartbeats 800000 in
theorem stop_law (a : Option Addr) (len cap : Nat) (Z : Nat → Nat) (z : Nat) (w : World) (hz : z < 256) (h : Row8 w a len Z) :
    Calls Yba.prog 5 #[.slice a len cap, .int .u8 z] w fun e w' => e = .returned (.bool true) ∧ Below w.heap.size w w' := by
  have hmf : ∀ (fn : Fn) (first cap : Array Value) (w : World), (Instr.makeFunc fn first cap).run Yba.prog w = .ok (.func fn first cap) w := fun _ _ _ _ => rfl
  by_cases hlen : len ≤ 1024
  · go_enter Yba.func5, Yba.ntmps5
    go_wp2_with fail
    refine (total_any a len cap Z w hlen h).mono ?_
    rintro e w1 ⟨ht, rfl⟩
    rcases ht with rfl | ⟨rfl, ht⟩
    · go_wp2
      go_ret
      exact ⟨rfl, (Below.refl _ _).alloc (Nat.le_refl _) _⟩
    · have hp := tp_pos Z len
      obtain ⟨st, hst⟩ : ∃ st, st = z % 16 + 1 := ⟨_, rfl⟩
      have HST : Hid (_ = _) := hst
      have e1 : (z : Int) % 16 + 1 = (st : Int) := by omega
      have hst1 : 1 ≤ st := by omega
      have hst2 : st ≤ 16 := by omega
      clear hst
      by_cases hlt : tp Z len < st
      · go_wp2_with fail
        refine (sweep_any a len cap Z _ hlen (h.below (((Below.refl _ _).alloc (Nat.le_refl _) _).alloc (by simp) _))).mono ?_
        rintro e w2 ⟨rfl, hmade, hfr⟩
        have bT : w2.cell? ⟨w1.heap.size, 0, none⟩ = some (.int .i64 (tp Z len : Nat)) := by
          rw [hfr.cell (p := ⟨w1.heap.size, 0, none⟩) (by simp; omega) id, World.cell?_alloc_old _ _ _ (by simp)]
          simp
        have bD : w2.cell? ⟨w1.heap.size + 1, 0, none⟩ = some (.int .i64 (st : Nat)) := by
          rw [hfr.cell (p := ⟨w1.heap.size + 1, 0, none⟩) (by simp) id]
          simp
        have bel : Below w1.heap.size w1 w2 := (((Below.refl _ w1).alloc (Nat.le_refl _) _).alloc (by simp) _).trans ((hfr.below (Nat.le_refl _) (fun _ _ => id)).mono (by simp; omega))
        have hs2 : w1.heap.size + 2 ≤ w2.heap.size := by have := hfr.size; simpa using this
        have hm : SwpMade w2 (w1.heap.size + 1 + 1) len Z := by simpa using hmade
        have HM : Hid (SwpMade w2 (w1.heap.size + 1 + 1) len Z) := hm
        clear hfr hmade hm
        go_wp2_with fail
        refine (comb12 _ _).mono ?_
        rintro e w3 ⟨rfl, rfl⟩
        go_wp2_with fail
        refine (stop_run w2 _ _ _ len Z st hlen ht hst1 HM.out bT bD).mono ?_
        rintro e w4 ⟨rfl, hO, hC, hB⟩
        rw [if_pos hlt] at hC
        go_wp2
        go_ret
        exact ⟨by simp, bel.trans (hB.mono (by omega))⟩
      · go_wp2_with fail
        refine (sweep_any a len cap Z _ hlen (h.below (((Below.refl _ _).alloc (Nat.le_refl _) _).alloc (by simp) _))).mono ?_
        rintro e w2 ⟨rfl, hmade, hfr⟩
        have bT : w2.cell? ⟨w1.heap.size, 0, none⟩ = some (.int .i64 (tp Z len : Nat)) := by
          rw [hfr.cell (p := ⟨w1.heap.size, 0, none⟩) (by simp; omega) id, World.cell?_alloc_old _ _ _ (by simp)]
          simp
        have bD : w2.cell? ⟨w1.heap.size + 1, 0, none⟩ = some (.int .i64 (st : Nat)) := by
          rw [hfr.cell (p := ⟨w1.heap.size + 1, 0, none⟩) (by simp) id]
          simp
        have bel : Below w1.heap.size w1 w2 := (((Below.refl _ w1).alloc (Nat.le_refl _) _).alloc (by simp) _).trans ((hfr.below (Nat.le_refl _) (fun _ _ => id)).mono (by simp; omega))
        have hs2 : w1.heap.size + 2 ≤ w2.heap.size := by have := hfr.size; simpa using this
        have hm : SwpMade w2 (w1.heap.size + 1 + 1) len Z := by simpa using hmade
        have HM : Hid (SwpMade w2 (w1.heap.size + 1 + 1) len Z) := hm
        clear hfr hmade hm
        go_wp2_with fail
        refine (comb12 _ _).mono ?_
        rintro e w3 ⟨rfl, rfl⟩
        go_wp2_with fail
        refine (stop_run w2 _ _ _ len Z st hlen ht hst1 HM.out bT bD).mono ?_
        rintro e w4 ⟨rfl, hO, hC, hB⟩
        rw [if_neg hlt] at hC
        go_wp2
        go_ret
        exact ⟨by simp, bel.trans (hB.mono (by omega))⟩
  · go_enter Yba.func5, Yba.ntmps5
    go_wp2
    go_ret
    exact ⟨rfl, Below.refl _ _⟩
end Go.Proofs.Ybulkahbw
