/-
  Package server: the walks of badRequest and (*framing).body.
-/
import Derived.Test.YbulkaheaW1
namespace Go.Proofs.Ybulkahea
open Go.RowKit Go.Deep

theorem bad_any (r : ByteArray) (w : World) : Calls Yba.prog 11 #[.string r] w fun e w' => e = .returned (.pointer (some ⟨w.heap.size, 0, none⟩)) ∧ w' = w.alloc (.cells #[.int .i64 400, .string r] 26) := by
  go_enter Yba.func11, Yba.ntmps11
  go_wp2
  go_ret
  exact ⟨rfl, rfl⟩

/-- the framing as it lies in block F -/
structure Frm (w : World) (F : Nat) (b10 : Bool) (hosts : Int) (host : ByteArray) (L : Int) (hl : Bool) (v : Value) : Prop where
  c0 : w.cell? ⟨F, 0, none⟩ = some (.bool b10)
  c1 : w.cell? ⟨F, 1, none⟩ = some (.int .i64 hosts)
  c2 : w.cell? ⟨F, 2, none⟩ = some (.string host)
  c3 : w.cell? ⟨F, 3, none⟩ = some (.int .i64 L)
  c4 : w.cell? ⟨F, 4, none⟩ = some (.bool hl)
  c5 : w.cell? ⟨F, 5, none⟩ = some v

/-- what body hands back -/
def Bods (o : Bool × Int × Option ByteArray) (w : World) (e : Ending) (w' : World) : Prop :=
  ∃ p : Option Addr, e = .returned (.tuple #[.bool o.1, .int .i64 o.2.1, .pointer p]) ∧ (o.2.2 = none → p = none) ∧
    (∀ r, o.2.2 = some r → ∃ R, p = some ⟨R, 0, none⟩ ∧ w'.cell? ⟨R, 0, none⟩ = some (.int .i64 400) ∧ w'.cell? ⟨R, 1, none⟩ = some (.string r)) ∧ Fr (fun _ => False) w w'

theorem bods_bad (r : ByteArray) (w : World) (q : Nat) : Bods (false, 0, some r) w (.returned (.tuple #[.bool false, .int .i64 0, .pointer (some ⟨w.heap.size, 0, none⟩)])) ((w.drewN q).alloc (.cells #[.int .i64 400, .string r] 26)) := by
  refine ⟨_, rfl, (fun h => by cases h), (fun r' hr => ?_), ((Fr.refl _ w).drewN q).alloc _⟩
  cases hr
  refine ⟨w.heap.size, rfl, ?_, ?_⟩
  · have := World.cell?_alloc_new (w.drewN q) #[.int .i64 400, .string r] 26 0
    simpa using this
  · have := World.cell?_alloc_new (w.drewN q) #[.int .i64 400, .string r] 26 1
    simpa using this
theorem bods_ok (ch : Bool) (n : Int) (w : World) (q : Nat) : Bods (ch, n, none) w (.returned (.tuple #[.bool ch, .int .i64 n, .pointer none])) (w.drewN q) :=
  ⟨_, rfl, (fun _ => rfl), (fun r' hr => by cases hr), (Fr.refl _ w).drewN q⟩

/-- the loop's answer -/
theorem nch_last (Z : Nat → Nat) (m : Nat) (h : lch Z (m + 1) = true) : nch Z (m + 1) = nch Z m + 1 := by
  rw [lch_succ] at h
  rw [nch_succ, if_pos (by simpa using h)]

theorem nch_pos (Z : Nat → Nat) (k m : Nat) (hk : k < m) (h : Z k % 4 = 0) : 0 < nch Z m := by
  induction m with
  | zero => omega
  | succ m ih =>
    rw [nch_succ]
    by_cases e : k = m
    · subst e; rw [if_pos h]; omega
    · have := ih (by omega); omega

set_option maxHeartbeats 1600000 in
theorem body_loop (F : Nat) (hosts : Int) (host : ByteArray) (L : Int) (g len cap : Nat) (Z : Nat → Nat) (w : World) (hf : Frm w F false hosts host L false (.slice (some ⟨g, 0, none⟩) len cap)) (hr : RowS w g len cap Z) (h1 : ¬ 1 < hosts) (h2 : ¬ hosts = 0) :
    Calls Yba.prog 7 #[.pointer (some ⟨F, 0, none⟩)] w fun e w' => Bods (if lch Z len = false then (false, 0, some r5) else if 1 < nch Z len then (false, 0, some r6) else (true, 0, none)) w e w' := by
  obtain ⟨k0, k1, k2, k3, k4, k5⟩ := hf
  obtain ⟨_, hlc, hc, hcell⟩ := hr
  have hnn := nil_slice
  have h2' : (hosts == 0) = false := beq_eq_false_iff_ne.2 h2
  have HC : Hid (∀ i, i < len → w.cell? ⟨g, i, none⟩ = some (.string (cod (Z i)))) := hcell
  clear hcell k2 k3
  cases hl : lch Z len with
  | false =>
    simp only [if_true]
    rcases Nat.eq_zero_or_pos len with rfl | hpos
    · go_enter Yba.func7, Yba.ntmps7
      go_wp2_with fail
      refine (bad_any r5 _).mono ?_
      rintro e w1 ⟨rfl, rfl⟩
      go_wp2
      go_ret3
      exact bods_bad r5 w 0
    · obtain ⟨m, rfl⟩ : ∃ m, len = m + 1 := ⟨len - 1, by omega⟩
      rw [lch_succ] at hl
      have hck := HC.out m (by omega)
      have em : ((m + 1 : Nat) : Int) - 1 = (m : Int) := by omega
      have hm0 : (0 : Int) ≤ (m : Int) := by omega
      have hm1 : (m : Int) < ((m + 1 : Nat) : Int) := by omega
      have hz : ¬ Z m % 4 = 0 := by simpa using hl
      clear hl
      rcases (show Z m % 4 = 1 ∨ Z m % 4 = 2 ∨ Z m % 4 = 3 from by omega) with h | h | h
      · rw [cod1 _ h] at hck
        go_enter Yba.func7, Yba.ntmps7
        go_wp2_with fail
        refine (bad_any r5 _).mono ?_
        rintro e w1 ⟨rfl, rfl⟩
        go_wp2
        go_ret3
        exact bods_bad r5 w 0
      · rw [cod2 _ h] at hck
        go_enter Yba.func7, Yba.ntmps7
        go_wp2_with fail
        refine (bad_any r5 _).mono ?_
        rintro e w1 ⟨rfl, rfl⟩
        go_wp2
        go_ret3
        exact bods_bad r5 w 0
      · rw [cod3 _ h] at hck
        go_enter Yba.func7, Yba.ntmps7
        go_wp2_with fail
        refine (bad_any r5 _).mono ?_
        rintro e w1 ⟨rfl, rfl⟩
        go_wp2
        go_ret3
        exact bods_bad r5 w 0
  | true =>
    obtain ⟨m, rfl⟩ : ∃ m, len = m + 1 := ⟨len - 1, by
      rcases Nat.eq_zero_or_pos len with rfl | h
      · simp [lch] at hl
      · omega⟩
    have hn1 := nch_last Z m hl
    rw [lch_succ] at hl
    have hz : Z m % 4 = 0 := by simpa using hl
    have hck := HC.out m (by omega)
    rw [cod0 _ hz] at hck
    have em : ((m + 1 : Nat) : Int) - 1 = (m : Int) := by omega
    have hm0 : (0 : Int) ≤ (m : Int) := by omega
    have hm1 : (m : Int) < ((m + 1 : Nat) : Int) := by omega
    have HN : Hid (nch Z (m + 1) = nch Z m + 1) := hn1
    clear hl hn1
    generalize hO : (if true = false then (false, (0 : Int), some r5) else if 1 < nch Z (m + 1) then (false, 0, some r6) else (true, 0, none)) = o
    have HO : Hid (_ = o) := hO
    clear hO
    go_enter Yba.func7, Yba.ntmps7
    go_wp2
    go_quiet (fail)
    go_wp2
    clear hck k0 k1 k4 k5
    go_loop [77] (fun i => ∃ k : Nat, k ≤ m ∧ i = .int .i64 k ∧ nch Z k = 0) (fun i => m - (intOf i).toNat)
    case atStart => exact ⟨0, by omega, rfl, rfl⟩
    case round =>
      obtain ⟨k, hk, rfl, hnk⟩ := hrel
      by_cases hlt : k < m
      · have hck := HC.out k (by omega)
        have HS : Hid (nch Z (k + 1) = nch Z k + (if Z k % 4 = 0 then 1 else 0)) := nch_succ Z k
        have hk0 : (0 : Int) ≤ (k : Int) := by omega
        have hk1 : (k : Int) < (m : Int) := by omega
        rcases (show Z k % 4 = 0 ∨ Z k % 4 = 1 ∨ Z k % 4 = 2 ∨ Z k % 4 = 3 from by omega) with h | h | h | h
        · rw [cod0 _ h] at hck
          have eo : o = (false, 0, some r6) := by
            have hp : 0 < nch Z m := nch_pos Z k m hlt h
            rw [← HO.out, if_neg (by simp), if_pos (by rw [HN.out]; omega)]
          subst eo
          go_wp2_with fail
          refine (bad_any r6 _).mono ?_
          rintro e w1 ⟨rfl, rfl⟩
          go_wp2
          go_ret3
          exact bods_bad r6 w nq
        · rw [cod1 _ h] at hck
          go_wp2
          go_round
          case rel => exact ⟨k + 1, by omega, by go_num, by rw [HS.out, if_neg (by omega)]; exact hnk⟩
          case measure => simp [intOf]; omega
        · rw [cod2 _ h] at hck
          go_wp2
          go_round
          case rel => exact ⟨k + 1, by omega, by go_num, by rw [HS.out, if_neg (by omega)]; exact hnk⟩
          case measure => simp [intOf]; omega
        · rw [cod3 _ h] at hck
          go_wp2
          go_round
          case rel => exact ⟨k + 1, by omega, by go_num, by rw [HS.out, if_neg (by omega)]; exact hnk⟩
          case measure => simp [intOf]; omega
      · obtain rfl : k = m := by omega
        have eo : o = (true, 0, none) := by
          rw [← HO.out, if_neg (by simp), if_neg (by rw [HN.out]; omega)]
        subst eo
        go_wp2
        go_ret3
        exact bods_ok true 0 w nq
end Go.Proofs.Ybulkahea
