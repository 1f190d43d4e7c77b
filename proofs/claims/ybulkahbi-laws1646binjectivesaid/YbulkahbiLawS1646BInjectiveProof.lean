/-
  THE SHELL OF A PROOF OF 'Rows.LawS1646BInjectiveSaid' ('example.com/kindred/kindred/protocol.LawS1646BInjective'), WRITTEN BY PROGRAM (proof-skeleton.mjs) off the guide's own print for that function.
  The walk is typed by hand; all else is the guide's template at this function's number and types.
-/
import Derived.Test.YbulkahbiRows
import Derived.Test.YbulkahbiWalks
import Derived.WalkKit
import Derived.ProofKit
import Derived.OpenShut
import Derived.ShutString
namespace Go.Proofs.Ybulkahbi.lawS1646BInjective
open Go.ChangeShapes Go.WideShapes Go.ChangeAt Go.RowKit
open Go.ChangeMaps (open_string shut_string)
set_option linter.unusedVariables false      -- a walk need not use every 'w<i>' (that an integer argument fits its kind)

theorem word {a : Int} (h : (Lit.int .u64 a).wf = true) : ∃ n : Nat, a = (n : Int) ∧ n < 18446744073709551616 := by
  have b := bounds_u64 h
  exact ⟨a.toNat, by omega, by omega⟩

theorem own : ownKnob Yba.prog.godebug = none := by kernel_rfl

/-! ### STEP 1: THE WALK: the Go text returns true. 'Grown w w'': the world has at most new blocks (Derived/RowKit3.lean). Part the cases AHEAD of 'go_enter' where a test parts the walk; take each callee by a contract of your own. -/
theorem walk (a0 : Int) (a1 : Int) (w0 : (Lit.int .u64 a0).wf = true) (w1 : (Lit.int .u64 a1).wf = true) (w : World) :
    Calls Yba.prog 4 #[.int .u64 a0, .int .u64 a1] w fun e w' => e = .returned (.bool true) ∧ Grown w w' := by
  obtain ⟨x, rfl, hx⟩ := word w0
  obtain ⟨y, rfl, hy⟩ := word w1
  have i1 := Mx.mix_inj x y hx hy
  have i2 := Mx.mix_inj x 0 hx (by decide)
  rw [Mx.mix_zero] at i2
  have z0 := Mx.mix_zero
  have t1 : (!(((x : Int) == (y : Int)) == (((Mx.mix x : Nat) : Int) == ((Mx.mix y : Nat) : Int)))) = false := by
    by_cases h : x = y
    · subst h; simp
    · have h' : ¬ Mx.mix x = Mx.mix y := fun e => h (i1 e)
      have a1 : ((x : Int) == (y : Int)) = false := beq_eq_false_iff_ne.2 (by omega)
      have a2 : (((Mx.mix x : Nat) : Int) == ((Mx.mix y : Nat) : Int)) = false := beq_eq_false_iff_ne.2 (by omega)
      rw [a1, a2]; rfl
  have t2 : (((x : Int) == 0) == (((Mx.mix x : Nat) : Int) == 0)) = true := by
    by_cases h : x = 0
    · subst h; rw [Mx.mix_zero]; rfl
    · have h' : ¬ Mx.mix x = 0 := fun e => h (i2 e)
      have a1 : ((x : Int) == 0) = false := beq_eq_false_iff_ne.2 (by omega)
      have a2 : (((Mx.mix x : Nat) : Int) == 0) = false := beq_eq_false_iff_ne.2 (by omega)
      rw [a1, a2]; rfl
  clear i1 i2 z0
  have T2 : Hid (_ = _) := t2
  clear t2
  go_enter Yba.func4, Yba.ntmps4
  go_wp2_with fail
  refine (mix_any x hx _).mono ?_
  rintro e w1 ⟨rfl, rfl⟩
  go_wp2_with fail
  refine (mix_any y hy _).mono ?_
  rintro e w1 ⟨rfl, rfl⟩
  go_wp2
  go_ret
  exact ⟨by rw [← T2.out]; rfl, Grown.refl _⟩

/-! ### THE ROW's STEP: WRITTEN OUT: LEAVE IT -/
set_option maxRecDepth 100000 in
theorem lifted (os : Os) (started : os.Started) (H : Type) (enc : TypeId × Value → H) :
    ReturnsInHanded {} Yba.checked os 4 .any (Rows.lawS1646BInjectiveSpec.pre6 enc Yba.prog Yba.f4 Rows.lawS1646BInjectiveRow.domain false) (Rows.lawS1646BInjectiveSpec.post enc Yba.prog Yba.f4 false true false false) := by
  refine returnsInHanded_of_change (C := Yba.checked) own started (by kernel_rfl) Yba.func4
    (ChangeSpec.witness6 (enc := enc) (C := Yba.checked) false ⟨#[], #[.int .u64 0, .int .u64 0], []⟩ 8 (by kernel_rfl) (by kernel_rfl) (by kernel_rfl) (by kernel_rfl)) ?_
  intro W base args ds gs before hval0 hW hcnd _
  have hval : ∀ (j : Nat) t v, Yba.f4.params[j]? = some t → args[j]? = some v → Value.okWide Yba.prog W .any base t v := hval0
  have hW' := hW
  obtain ⟨p, q, hA0, hV, rfl, hfz, hnd⟩ := hW
  have hA : DataW.TrodAll enc Yba.prog W 0 (fun _ => true) true Yba.f4.params.toList args.toList ds p := hA0
  rw [Yba.params4] at hA hval
  obtain ⟨v0, vs0, d0, ds0, p0, q0, hargs, rfl, rfl, h0, r0⟩ := trodAll_cons hA
  obtain ⟨v1, vs1, d1, ds1, p1, q1, rfl, rfl, rfl, h1, r1⟩ := trodAll_cons r0
  obtain ⟨rfl, rfl, rfl⟩ := trodAll_nil r1
  obtain rfl : args = #[v0, v1] := by cases args; simp_all
  obtain ⟨rfl, rfl⟩ := trodVars_none hV
  obtain ⟨a0, rfl, rfl, rfl, w0⟩ := open_int Yba.underlying22 (hval 0 22 v0 rfl rfl) h0
  obtain ⟨a1, rfl, rfl, rfl, w1⟩ := open_int Yba.underlying22 (hval 1 22 v1 rfl rfl) h1
  clear hA0 hval0
  simp only [List.append_nil] at hW'
  refine (walk a0 a1 w0 w1 W).mono fun e W' ⟨he, hg⟩ => ?_
  subst he
  exact ⟨_, rfl, post_of_same (pa := []) (pv := []) hW' (fun _ _ _ => (trodAll_cons_mk (shut_bool Yba.underlying4 _) trodAll_mk0)) (fun sp _ => (trodAll_cons_mk (shut_int Yba.underlying22 w0) (trodAll_cons_mk (shut_int Yba.underlying22 w1) trodAll_mk0))) (fun _ _ => rfl) rfl
    (hg.frame _) hg.2.1 (ok_one (by kernel_rfl) rfl (okWide_bool_mk Yba.underlying4 _))⟩

theorem over : Rows.lawS1646BInjectiveRow.holds Yba.pinned (OpenSpec.ofChange Rows.lawS1646BInjectiveSpec) :=
  OpenClaim.holds_of_wide 4 Yba.f4 rfl rfl rfl rfl rfl rfl rfl ⟨rfl, rfl, rfl, rfl, rfl⟩ rfl rfl rfl rfl rfl (by kernel_rfl) Yba.func4 (by kernel_rfl)
    (of_decide_eq_true (by kernel_rfl)) (by unfold Func.isWrapper; first | (rw [if_pos (by decide +kernel)]; kernel_rfl) | (rw [if_neg (by decide +kernel)]; exact ⟨rfl, rfl⟩))
    (fun os started H enc _ => lifted os started H enc)

/-- ████ THE STATEMENT ████ -/
theorem proved : Rows.LawS1646BInjectiveSaid :=
  over
#print axioms proved
end Go.Proofs.Ybulkahbi.lawS1646BInjective
