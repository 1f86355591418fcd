/-
  THE PROOF OF 'Rows.FnIsNextOfIsDecimalSuccessorSaid'. The frame is the given shell's (proof-skeleton.mjs); the walk is ours, over the contracts of the texts that it imports.
-/
import Derived.Test.Qxb6608604aRows
import Derived.WalkKit
import Derived.ProofKit
import Derived.OpenShut
import Derived.ShutString
import Derived.Test.Qxb6608604aParts
namespace Go.Proofs.Qxb6608604a.fnIsNextOfIsDecimalSuccessor
open Go.ChangeShapes Go.WideShapes Go.ChangeAt Go.RowKit
open Go.ChangeMaps (open_string shut_string)
open Plain Walks
set_option linter.unusedVariables false      -- a walk need not use every 'w<i>' (that an integer argument fits its kind)

theorem own : ownKnob Try.prog.godebug = none := by kernel_rfl

set_option maxHeartbeats 800000 in
theorem bytes3_yes (d e : ByteArray) (nv ov : Int) (h : d.size + e.size ≤ 1048576) (w : World) :
    Calls Try.prog 7 #[.string d, .int .u64 nv, .string e, .int .u64 ov] w fun r w' => r = .returned (.bool true) ∧ w' = w := by
  go_enter Try.func7, Try.ntmps7
  go_wp2
  go_ret
  exact ⟨rfl, rfl⟩

set_option maxHeartbeats 800000 in
theorem bytes3_no (d e : ByteArray) (nv ov : Int) (h : ¬ d.size + e.size ≤ 1048576) (w : World) :
    Calls Try.prog 7 #[.string d, .int .u64 nv, .string e, .int .u64 ov] w fun r w' => r = .returned (.bool false) ∧ w' = w := by
  go_enter Try.func7, Try.ntmps7
  go_wp2
  all_goals (go_ret; exact ⟨rfl, rfl⟩)

set_option maxHeartbeats 1600000 in
theorem law3 (d e : ByteArray) (nv ov : Int) (hn : 0 ≤ nv ∧ nv ≤ 18446744073709551615) (ho : 0 ≤ ov ∧ ov ≤ 18446744073709551615) (w : World) :
    Calls Try.prog 3 #[.string d, .int .u64 nv, .string e, .int .u64 ov] w fun r w' => r = .returned (.bool true) ∧ Grown w w' := by
  by_cases h : d.size + e.size ≤ 1048576
  · by_cases h1 : 65536 < d.size
    · go_enter Try.func3, Try.ntmps3
      go_wp2_with fail
      refine (bytes3_yes d e nv ov h _).mono ?_
      rintro r w1 ⟨rfl, rfl⟩
      go_wp2
      go_ret
      exact ⟨rfl, Grown.refl _⟩
    by_cases h2 : 65536 < e.size
    · go_enter Try.func3, Try.ntmps3
      go_wp2_with fail
      refine (bytes3_yes d e nv ov h _).mono ?_
      rintro r w1 ⟨rfl, rfl⟩
      go_wp2
      go_ret
      exact ⟨rfl, Grown.refl _⟩
    go_enter Try.func3, Try.ntmps3
    go_wp2_with fail
    refine (bytes3_yes d e nv ov h _).mono ?_
    rintro r w1 ⟨rfl, rfl⟩
    go_wp2_with fail
    refine (wf_int d (by omega) nv hn.1 _).mono ?_
    rintro r w2 ⟨b1, rfl, hb1, rfl⟩
    cases b1
    · clear hb1
      go_wp2
      go_ret
      exact ⟨rfl, Grown.refl _⟩
    have HW1 : Hid (WF d.data.toList nv.toNat) := hb1 rfl
    clear hb1
    go_wp2_with fail
    refine (wf_int e (by omega) ov ho.1 _).mono ?_
    rintro r w2 ⟨b2, rfl, hb2, rfl⟩
    cases b2
    · clear hb2
      go_wp2
      go_ret
      exact ⟨rfl, Grown.refl _⟩
    have HW2 : Hid (WF e.data.toList ov.toNat) := hb2 rfl
    clear hb2
    go_wp2_with fail
    refine (new_calls d nv _).mono ?_
    rintro r w3 ⟨rfl, rfl⟩
    go_wp2_with fail
    refine (new_calls e ov _).mono ?_
    rintro r w3 ⟨rfl, rfl⟩
    go_wp2_with fail
    refine (next_calls d e nv ov (by omega) (by omega) HW2.out.1 hn ho _).mono ?_
    rintro r w3 ⟨rfl, g3⟩
    rw [next_iff HW1.out HW2.out]
    go_wp2_with fail
    refine (inc_calls e (by omega) HW2.out.1 _).mono ?_
    rintro r w4 ⟨rfl, g4⟩
    go_wp2
    go_ret
    refine ⟨?_, grown_trans (Grown.alloc (Grown.alloc (Grown.alloc (Grown.alloc (Grown.refl _) _ _) _ _) _ _) _ _) (grown_trans g3 g4)⟩
    have hfin : (decide (d.data.toList = incL e.data.toList) == (d.toList == incL e.data.toList)) = true := by
      rw [ByteArray.toList_eq, beq_iff_eq, Bool.eq_iff_iff, decide_eq_true_iff, beq_iff_eq]
    show Ending.returned (.bool (decide (d.data.toList = incL e.data.toList) == (d.toList == incL e.data.toList))) = _
    rw [hfin]
  · go_enter Try.func3, Try.ntmps3
    go_wp2_with fail
    refine (bytes3_no d e nv ov h _).mono ?_
    rintro r w1 ⟨rfl, rfl⟩
    go_wp2
    go_ret
    exact ⟨rfl, Grown.refl _⟩

/-! ### STEP 1: THE WALK: the Go text returns true. 'Grown w w'': the world has at most new blocks (Derived/RowKit3.lean). Part the cases AHEAD of 'go_enter' where a test parts the walk; take each callee by a contract of your own. -/
theorem walk (a0 : ByteArray) (a1 : Int) (a2 : ByteArray) (a3 : Int) (w0 : a0.size ≤ maxLen) (w1 : (Lit.int .u64 a1).wf = true) (w2 : a2.size ≤ maxLen) (w3 : (Lit.int .u64 a3).wf = true) (w : World) :
    Calls Try.prog 3 #[.string a0, .int .u64 a1, .string a2, .int .u64 a3] w fun e w' => e = .returned (.bool true) ∧ Grown w w' := by
  exact law3 a0 a2 a1 a3 (bounds_u64 w1) (bounds_u64 w3) w

/-! ### THE ROW's STEP: WRITTEN OUT: LEAVE IT -/
set_option maxRecDepth 100000 in
theorem lifted (os : Os) (started : os.Started) (H : Type) (enc : TypeId × Value → H) :
    ReturnsInHanded {} Try.checked os 3 .any (Rows.fnIsNextOfIsDecimalSuccessorSpec.pre6 enc Try.prog Try.f3 Rows.fnIsNextOfIsDecimalSuccessorRow.domain false) (Rows.fnIsNextOfIsDecimalSuccessorSpec.post enc Try.prog Try.f3 false true false false) := by
  refine returnsInHanded_of_change (C := Try.checked) own started (by kernel_rfl) Try.func3
    (ChangeSpec.witness6 (enc := enc) (C := Try.checked) false ⟨#[], #[.string ByteArray.empty, .int .u64 0, .string ByteArray.empty, .int .u64 0], []⟩ 8 (by kernel_rfl) (by kernel_rfl) (by kernel_rfl) (by kernel_rfl)) ?_
  intro W base args ds gs before hval0 hW hcnd _
  have hval : ∀ (j : Nat) t v, Try.f3.params[j]? = some t → args[j]? = some v → Value.okWide Try.prog W .any base t v := hval0
  have hW' := hW
  obtain ⟨p, q, hA0, hV, rfl, hfz, hnd⟩ := hW
  have hA : DataW.TrodAll enc Try.prog W 0 (fun _ => true) true Try.f3.params.toList args.toList ds p := hA0
  rw [Try.params3] at hA hval
  obtain ⟨v0, vs0, d0, ds0, p0, q0, hargs, rfl, rfl, h0, r0⟩ := trodAll_cons hA
  obtain ⟨v1, vs1, d1, ds1, p1, q1, rfl, rfl, rfl, h1, r1⟩ := trodAll_cons r0
  obtain ⟨v2, vs2, d2, ds2, p2, q2, rfl, rfl, rfl, h2, r2⟩ := trodAll_cons r1
  obtain ⟨v3, vs3, d3, ds3, p3, q3, rfl, rfl, rfl, h3, r3⟩ := trodAll_cons r2
  obtain ⟨rfl, rfl, rfl⟩ := trodAll_nil r3
  obtain rfl : args = #[v0, v1, v2, v3] := by cases args; simp_all
  obtain ⟨rfl, rfl⟩ := trodVars_none hV
  obtain ⟨a0, rfl, rfl, rfl, w0⟩ := open_string Try.underlying9 (hval 0 9 v0 rfl rfl) h0
  obtain ⟨a1, rfl, rfl, rfl, w1⟩ := open_int Try.underlying22 (hval 1 22 v1 rfl rfl) h1
  obtain ⟨a2, rfl, rfl, rfl, w2⟩ := open_string Try.underlying9 (hval 2 9 v2 rfl rfl) h2
  obtain ⟨a3, rfl, rfl, rfl, w3⟩ := open_int Try.underlying22 (hval 3 22 v3 rfl rfl) h3
  clear hA0 hval0
  simp only [List.append_nil] at hW'
  refine (walk a0 a1 a2 a3 w0 w1 w2 w3 W).mono fun e W' ⟨he, hg⟩ => ?_
  subst he
  exact ⟨_, rfl, post_of_same (pa := []) (pv := []) hW' (fun _ _ _ => (trodAll_cons_mk (shut_bool Try.underlying4 _) trodAll_mk0)) (fun sp _ => (trodAll_cons_mk (shut_string Try.underlying9 w0) (trodAll_cons_mk (shut_int Try.underlying22 w1) (trodAll_cons_mk (shut_string Try.underlying9 w2) (trodAll_cons_mk (shut_int Try.underlying22 w3) trodAll_mk0))))) (fun _ _ => rfl) rfl
    (hg.frame _) hg.2.1 (ok_one (by kernel_rfl) rfl (okWide_bool_mk Try.underlying4 _))⟩

theorem over : Rows.fnIsNextOfIsDecimalSuccessorRow.holds Try.pinned (OpenSpec.ofChange Rows.fnIsNextOfIsDecimalSuccessorSpec) :=
  OpenClaim.holds_of_wide 3 Try.f3 rfl rfl rfl rfl rfl rfl rfl ⟨rfl, rfl, rfl, rfl, rfl⟩ rfl rfl rfl rfl rfl (by kernel_rfl) Try.func3 (by kernel_rfl)
    (of_decide_eq_true (by kernel_rfl)) (by unfold Func.isWrapper; first | (rw [if_pos (by decide +kernel)]; kernel_rfl) | (rw [if_neg (by decide +kernel)]; exact ⟨rfl, rfl⟩))
    (fun os started H enc _ => lifted os started H enc)

/-- ████ THE STATEMENT ████ -/
theorem proved : Rows.FnIsNextOfIsDecimalSuccessorSaid :=
  over
#print axioms proved
end Go.Proofs.Qxb6608604a.fnIsNextOfIsDecimalSuccessor
