import Derived.Test.YbulkahbwB1
import Derived.Test.YbulkahbwFr
import Derived.Deep.LoopGhost
import Derived.Outline
import Derived.BigQuiet
import Derived.Deep.QuietTactic
namespace Go.Proofs.Ybulkahbw
open Go.RowKit Go.Deep
theorem Yba.info3 : (Yba.prog.info? 3).map (fun i => (i.zero, i.size, i.bytes)) = some (some (.int .i64 0), 1, 8) := by kernel_rfl

/-- the sweep as it lies in memory -/
structure Swp (w : World) (X S G : Nat) (ao : Option Addr) (n cap : Nat) (Z : Nat → Nat) : Prop where
  x : w.cell? ⟨X, 0, none⟩ = some (.pointer (some ⟨S, 0, none⟩))
  s : w.cell? ⟨S, 3, none⟩ = some (.slice ao n cap)
  a : n = 0 ∨ ao = some ⟨G, 0, none⟩
  e : ∀ i, i < n → ∃ vo vc, w.cell? ⟨G, i * 4 + 3, none⟩ = some (.slice vo (Z i % 4) vc)
  xl : X < w.heap.size
  sl : S < w.heap.size
  gl : G < w.heap.size

theorem Swp.fr {w w' : World} {X S G : Nat} {ao : Option Addr} {n cap : Nat} {Z : Nat → Nat} {T : Nat → Prop} (h : Swp w X S G ao n cap Z) (f : Fr T w w') (hx : ¬ T X) (hs : ¬ T S) (hg : ¬ T G) : Swp w' X S G ao n cap Z :=
  ⟨by rw [f.cell (p := ⟨X, 0, none⟩) h.xl hx]; exact h.x, by rw [f.cell (p := ⟨S, 3, none⟩) h.sl hs]; exact h.s, h.a,
    fun i hi => by rw [f.cell (p := ⟨G, i * 4 + 3, none⟩) h.gl hg]; exact h.e i hi, Nat.lt_of_lt_of_le h.xl f.size, Nat.lt_of_lt_of_le h.sl f.size, Nat.lt_of_lt_of_le h.gl f.size⟩

/-- what the function handed in does -/
def Yields (K : Nat) (caps : Array Value) (N n : Nat) (Z : Nat → Nat) (SY : Nat → Prop) (Y : Nat → World → Prop) (Fin : World → Prop) : Prop :=
  ∀ c I wr, N ≤ I → c < tp Z n → Y c wr → wr.rowIs I 3 n (fun j => .int .i64 (Rdx.dg (rr Z) n c j : Nat)) →
    Calls Yba.prog K (#[.slice (some ⟨I, 0, none⟩) n n] ++ caps) wr fun e w'' => ∃ b, e = .returned (.bool b) ∧ ((b = true ∧ Y (c + 1) w'') ∨ (b = false ∧ Fin w'')) ∧ Fr SY wr w''
/-- how it ends -/
def Ends (n : Nat) (Z : Nat → Nat) (SY : Nat → Prop) (Y : Nat → World → Prop) (Fin : World → Prop) (w : World) (w' : World) : Prop :=
  (Fin w' ∨ Y (tp Z n) w') ∧ Fr SY w w'

theorem more_here (Z : Nat → Nat) (n c k : Nat) (hk : k < n) (hd : Rdx.pw (rr Z) n k ∣ c + 1) (hc : c < tp Z n) (hlt : Rdx.dg (rr Z) n c k + 1 < rr Z k) : c + 1 < tp Z n := by
  have hpt : tp Z n = Rdx.tot (rr Z) n := Rdx.pr_tot _ _
  rw [hpt] at hc ⊢
  exact Rdx.more _ _ _ k hk (fun _ _ => rad_pos _) hd hc hlt
theorem next_digits (Z : Nat → Nat) (n c k j : Nat) (hk : k < n) (hj : j < n) (hpw : 0 < Rdx.pw (rr Z) n k) (hd : Rdx.pw (rr Z) n k ∣ c + 1) (hlt : Rdx.dg (rr Z) n c k + 1 < rr Z k) :
    (if j = k then Value.int .i64 ((Rdx.dg (rr Z) n c k : Nat) + 1 : Int) else .int .i64 (if j < k + 1 then Rdx.dg (rr Z) n c j else 0 : Nat)) = .int .i64 (Rdx.dg (rr Z) n (c + 1) j : Nat) := by
  by_cases h1 : j = k
  · subst h1
    rw [if_pos rfl, Rdx.dg_step (rr Z) n c j hpw hd hlt]
    simp
  · rw [if_neg h1]
    by_cases h2 : j < k
    · rw [if_pos (by omega), Rdx.dg_same (rr Z) n c k j h2 hk hpw (rad_pos _) hd hlt]
    · rw [if_neg (by omega), Rdx.dg_zero (rr Z) n (c + 1) k j (by omega) hj (Rdx.wt_pos _ _ _ (fun _ _ => rad_pos _) (by omega)) hd]

set_option maxHeartbeats 800000 in
theorem combos (K : Nat) (caps : Array Value) (hcf : ∀ args w, (callFunc K args).run Yba.prog w = .ok (.enter K args) w) (X S G n cap : Nat) (ao : Option Addr) (Z : Nat → Nat) (SY : Nat → Prop) (Y : Nat → World → Prop) (Fin : World → Prop) (w : World) (hn : n ≤ 1024)
    (hsw : Swp w X S G ao n cap Z) (hxs : ¬ SY X) (hss : ¬ SY S) (hgs : ¬ SY G) (hSY : ∀ k, SY k → k < w.heap.size)
    (hy : Yields K caps w.heap.size n Z SY Y Fin) (hY : ∀ c w1 w2, Below w.heap.size w1 w2 → Y c w1 → Y c w2) (h0 : Y 0 w) :
    Calls Yba.prog 22 #[.func (Fn.func K) #[] caps, .pointer (some ⟨X, 0, none⟩)] w fun e w' => e = .returned (.tuple #[]) ∧ Ends n Z SY Y Fin w w' := by
  have hmk := run_make_row' (P := Yba.prog) 27 3 (.int .i64 0) 8 Yba.underlying27 Yba.info3 rfl .i64 .i64 n (by omega) (by omega)
  have c1 := hsw.x
  have c2 := hsw.s
  go_enter Yba.func22, Yba.ntmps22
  go_wp2
  clear c1 c2 hmk
  go_loopg [4] (tp Z n) (fun k _ wr => ∃ c, k = tp Z n - c ∧ c < tp Z n ∧ wr.rowIs w.heap.size 3 n (fun j => .int .i64 (Rdx.dg (rr Z) n c j : Nat)) ∧ Y c wr ∧ Fr SY w wr ∧ w.heap.size < wr.heap.size)
  case atStart =>
    exact ⟨0, by omega, tp_pos Z n, (World.rowIs_made w _ n 3).congr (fun i _ => by simp [Rdx.dg_start]), hY _ _ _ ((Below.refl _ _).alloc (Nat.le_refl _) _) h0, (Fr.refl _ _).alloc _, by simp⟩
  case round =>
    obtain ⟨c, rfl, hc, hrow, hYc, hfr, hsz⟩ := hrel
    go_wp2_with fail
    refine (hy c w.heap.size wr (Nat.le_refl _) hc hYc hrow).mono ?_
    rintro e w1 ⟨b, rfl, hb, hf1⟩
    have hsI : ¬ SY w.heap.size := fun h => Nat.lt_irrefl _ (hSY _ h)
    have hrow1 := hf1.row hrow hsI
    have hf2 := hfr.trans hf1
    have hsz1 : w.heap.size < w1.heap.size := Nat.lt_of_lt_of_le hsz hf1.size
    clear hrow hfr hf1 hYc hsz
    rcases hb with ⟨rfl, hY1⟩ | ⟨rfl, hfin⟩
    · go_wp2
      clear wr
      go_loopg [4] n (fun k i wr => k ≤ n ∧ i = .int .i64 ((k : Int) - 1) ∧ wr.rowIs w.heap.size 3 n (fun j => .int .i64 (if j < k then Rdx.dg (rr Z) n c j else 0 : Nat)) ∧ Rdx.wt (rr Z) n (n - k) ∣ c + 1 ∧ Y (c + 1) wr ∧ Fr SY w wr ∧ w.heap.size < wr.heap.size)
      case atStart =>
        exact ⟨Nat.le_refl _, rfl, hrow1.congr (fun i hi => by simp [hi]), by simp [Rdx.wt], hY1, hf2, hsz1⟩
      case round =>
        clear hrow1 hY1 hf2 hsz1 w1
        obtain ⟨hk, rfl, hrow, hdv, hY1, hfr, hsz⟩ := hrel
        rcases Nat.eq_zero_or_pos gk with rfl | hpos
        · go_wp2
          refine bodyPost_ret (results_none rfl _ _ _) rfl ⟨rfl, .inr ?_, hfr⟩
          have e : c + 1 = tp Z n := by
            have hpt : tp Z n = Rdx.tot (rr Z) n := Rdx.pr_tot _ _
            rw [hpt] at hc ⊢
            exact Rdx.last _ _ _ hc hdv
          rw [← e]; exact hY1
        · obtain ⟨k, rfl⟩ : ∃ k, gk = k + 1 := ⟨gk - 1, by omega⟩
          have ek : ((k + 1 : Nat) : Int) - 1 = (k : Int) := by omega
          rw [ek]
          obtain ⟨vo, vc, hvk⟩ := (hsw.fr hfr hxs hss hgs).e k (by omega)
          have c1 := (hsw.fr hfr hxs hss hgs).x
          have c2 := (hsw.fr hfr hxs hss hgs).s
          obtain rfl : ao = some ⟨G, 0, none⟩ := by
            rcases hsw.a with h | h
            · omega
            · exact h
          have hck : wr.cell? ⟨w.heap.size, k, none⟩ = some (.int .i64 (Rdx.dg (rr Z) n c k : Nat)) := by
            have := hrow.cell (i := k) (by omega)
            simpa using this
          have hfz := hrow.frozen k
          have hX : ¬ w.heap.size = X := by have := hsw.xl; omega
          have hS : ¬ w.heap.size = S := by have := hsw.sl; omega
          have hG : ¬ w.heap.size = G := by have := hsw.gl; omega
          have hd1 : Rdx.dg (rr Z) n c k < rad (Z k) := Rdx.dg_lt _ _ _ _ (rad_pos _)
          have hd2 := rad_le (Z k)
          have hpw : 0 < Rdx.pw (rr Z) n k := Rdx.wt_pos _ _ _ (fun _ _ => rad_pos _) (by omega)
          have hdv' : Rdx.pw (rr Z) n k ∣ c + 1 := by unfold Rdx.pw; rw [show n - 1 - k = n - (k + 1) from by omega]; exact hdv
          have hk0 : (0 : Int) ≤ (k : Int) := by omega
          have hk1 : (k : Int) < (n : Int) := by omega
          have HR : Hid (wr.rowIs _ _ _ _) := hrow
          have HF : Hid (Fr SY w wr) := hfr
          clear hrow hfr ek hpos
          by_cases hlt : Rdx.dg (rr Z) n c k + 1 < Z k % 4
          · go_wp2
            go_quiet (fail)
            go_wp2
            have hlt' : Rdx.dg (rr Z) n c k + 1 < rr Z k := by
              have : rr Z k = rad (Z k) := rfl
              rw [this]; unfold rad; split <;> omega
            go_roundg (tp Z n - (c + 1))
            case measure => omega
            case rel =>
              refine ⟨c + 1, rfl, more_here Z n c k (by omega) hdv' hc hlt', row_drewN ((HR.out.set k _).congr (fun j hj => ?_)) nq, hY _ _ _ (below_drewN' ((Below.refl w.heap.size wr).setCell (p := ⟨w.heap.size, k, none⟩) (Nat.le_refl _) _) nq) hY1, (HF.out.setCell (fun h => absurd h (Nat.lt_irrefl _)) _).drewN nq, by simpa [heap_drewN] using hsz⟩
              exact next_digits Z n c k j (by omega) hj hpw hdv' hlt'
          · go_wp2
            go_quiet (fail)
            go_wp2
            have hlt' : ¬ Rdx.dg (rr Z) n c k + 1 < rr Z k := by
              have : rr Z k = rad (Z k) := rfl
              rw [this]; rw [show rad (Z k) = if Z k % 4 < 1 then 1 else Z k % 4 from rfl]; split <;> omega
            have hcar := Rdx.dg_carry (rr Z) n c k hpw (rad_pos _) hdv' hlt'
            go_roundg k
            case measure => omega
            case rel =>
              refine ⟨by omega, rfl, ((row_drewN (HR.out.set k _) nq).set k _).congr (fun j hj => ?_), ?_, hY _ _ _ ((below_drewN' ((Below.refl w.heap.size wr).setCell (p := ⟨w.heap.size, k, none⟩) (Nat.le_refl _) _) nq).setCell (p := ⟨w.heap.size, k, none⟩) (Nat.le_refl _) _) hY1, ((HF.out.setCell (fun h => absurd h (Nat.lt_irrefl _)) _).drewN nq).setCell (fun h => absurd h (Nat.lt_irrefl _)) _, by simpa [heap_drewN] using hsz⟩
              · by_cases h1 : j = k
                · subst h1; simp
                · have : (j < k + 1) = (j < k) := by simp; omega
                  simp [h1, this]
              · rw [show n - k = (n - (k + 1)) + 1 from by omega, Rdx.wt, show n - 1 - (n - (k + 1)) = k from by omega]
                have := hcar
                unfold Rdx.pw at this
                rwa [show n - 1 - k = n - (k + 1) from by omega] at this
    · go_wp2
      exact bodyPost_ret (results_none rfl _ _ _) rfl ⟨rfl, .inl hfin, hf2⟩
end Go.Proofs.Ybulkahbw
