/-
  Package server: the walk of (*framing).body, every case.
-/
import Derived.Test.YbulkaheaW2
namespace Go.Proofs.Ybulkahea
open Go.RowKit Go.Deep

set_option maxHeartbeats 1600000 in
/-- (*framing).body. -/
theorem body_any (F : Nat) (b10 : Bool) (hosts : Int) (host : ByteArray) (L : Int) (hl nilc : Bool) (len : Nat) (Z : Nat → Nat) (v : Value) (w : World) (hf : Frm w F b10 hosts host L hl v) (hv : Cods w v nilc len Z) :
    Calls Yba.prog 7 #[.pointer (some ⟨F, 0, none⟩)] w fun e w' => Bods (spec b10 hosts L hl nilc len Z) w e w' := by
  by_cases h1 : 1 < hosts
  · rw [show spec b10 hosts L hl nilc len Z = (false, 0, some r1) from by simp [spec, h1]]
    have k1 := hf.c1
    clear hf hv
    go_enter Yba.func7, Yba.ntmps7
    go_wp2_with fail
    all_goals
      refine (bad_any r1 _).mono ?_
      rintro e w1 ⟨rfl, rfl⟩
      go_wp2
      go_ret3
      exact bods_bad r1 w 0
  by_cases hg : hosts = 0 ∧ b10 = false
  · obtain ⟨rfl, rfl⟩ := hg
    rw [show spec false 0 L hl nilc len Z = (false, 0, some r2) from by simp [spec]]
    have k1 := hf.c1
    have k0 := hf.c0
    clear hf hv
    go_enter Yba.func7, Yba.ntmps7
    go_wp2_with fail
    all_goals
      refine (bad_any r2 _).mono ?_
      rintro e w1 ⟨rfl, rfl⟩
      go_wp2
      go_ret3
      exact bods_bad r2 w 0
  have hnn := nil_slice
  have hn0 := nil_slice0
  rcases hv with ⟨rfl, rfl⟩ | ⟨rfl, g, cap, rfl, hr⟩
  · rw [show spec b10 hosts L hl true len Z = (false, L, none) from by simp only [spec, if_neg h1, if_neg hg]; rfl]
    obtain ⟨k0, k1, k2, k3, k4, k5⟩ := hf
    cases b10 with
    | true =>
      go_enter Yba.func7, Yba.ntmps7
      go_wp2
      all_goals (go_quiet (fail); go_wp2; go_ret3; exact bods_ok false L w _)
    | false =>
      have h2 : (hosts == 0) = false := beq_eq_false_iff_ne.2 (fun e => hg ⟨e, rfl⟩)
      go_enter Yba.func7, Yba.ntmps7
      go_wp2
      all_goals (go_quiet (fail); go_wp2; go_ret3; exact bods_ok false L w _)
  · cases hl with
    | true =>
      rw [show spec b10 hosts L true false len Z = (false, 0, some r3) from by simp only [spec, if_neg h1, if_neg hg]; rfl]
      obtain ⟨k0, k1, k2, k3, k4, k5⟩ := hf
      clear hr
      cases b10 with
      | true =>
        go_enter Yba.func7, Yba.ntmps7
        go_wp2_with fail
        all_goals
          refine (bad_any r3 _).mono ?_
          rintro e w1 ⟨rfl, rfl⟩
          go_wp2
          go_ret3
          exact bods_bad r3 w 0
      | false =>
        have h2 : (hosts == 0) = false := beq_eq_false_iff_ne.2 (fun e => hg ⟨e, rfl⟩)
        go_enter Yba.func7, Yba.ntmps7
        go_wp2_with fail
        all_goals
          refine (bad_any r3 _).mono ?_
          rintro e w1 ⟨rfl, rfl⟩
          go_wp2
          go_ret3
          exact bods_bad r3 w 0
    | false =>
      cases b10 with
      | true =>
        rw [show spec true hosts L false false len Z = (false, 0, some r4) from by simp only [spec, if_neg h1, if_neg hg]; rfl]
        obtain ⟨k0, k1, k2, k3, k4, k5⟩ := hf
        clear hr
        go_enter Yba.func7, Yba.ntmps7
        go_wp2_with fail
        all_goals
          refine (bad_any r4 _).mono ?_
          rintro e w1 ⟨rfl, rfl⟩
          go_wp2
          go_ret3
          exact bods_bad r4 w 0
      | false =>
        have h0 : ¬ hosts = 0 := fun e => hg ⟨e, rfl⟩
        rw [show spec false hosts L false false len Z = (if lch Z len = false then (false, 0, some r5) else if 1 < nch Z len then (false, 0, some r6) else (true, 0, none)) from by simp [spec, h1, h0]]
        exact body_loop F hosts host L g len cap Z w hf hr h1 h0
end Go.Proofs.Ybulkahea
