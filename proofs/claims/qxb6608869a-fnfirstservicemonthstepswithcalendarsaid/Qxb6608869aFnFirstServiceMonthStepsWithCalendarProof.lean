/-
  THE PROOF OF 'Rows.FnFirstServiceMonthStepsWithCalendarSaid'. The frame is the given shell's (proof-skeleton.mjs); the plain laws, the contract of ZZfirstServiceMonth and the walk are ours.
-/
import Derived.Test.Qxb6608869aRows
import Derived.WalkKit
import Derived.ProofKit
import Derived.OpenShut
import Derived.ShutString
import Derived.WalkSpells
namespace Go.Proofs.Qxb6608869a.fnFirstServiceMonthStepsWithCalendar
open Go.ChangeShapes Go.WideShapes Go.ChangeAt Go.RowKit
open Go.ChangeMaps (open_string shut_string)
set_option linter.unusedVariables false      -- a walk need not use every 'w<i>' (that an integer argument fits its kind)

theorem own : ownKnob Try.prog.godebug = none := by kernel_rfl

/-! ### THE PLAIN LAWS: no Go in sight -/
/-- What firstServiceMonth computes: year x 12 + month - 1, one more behind the 1st; wraps and all. -/
def fsm (y m d : Int) : Int := wrap64 (y * 12 + m - 1 + (if 1 < d then 1 else 0))

theorem fsm_late (y m d : Int) (h : 1 < d) : wrap64 (wrap64 (wrap64 (wrap64 (y * 12) + m) - 1) + 1) = fsm y m d := by
  unfold fsm wrap64
  rw [if_pos h]
  omega

theorem fsm_first (y m d : Int) (h : ¬ 1 < d) : wrap64 (wrap64 (wrap64 (y * 12) + m) - 1) = fsm y m d := by
  unfold fsm wrap64
  rw [if_neg h]
  omega

theorem fsm_step (y m : Int) : (wrap64 (fsm y m 1 + 1) == fsm y (m + 1) 1) = true := by
  simp only [beq_iff_eq, fsm, wrap64, if_neg (show ¬ (1 : Int) < 1 by omega)]
  omega

theorem fsm_year (y : Int) : (wrap64 (fsm y 12 1 + 1) == fsm (wrap64 (y + 1)) 1 1) = true := by
  simp only [beq_iff_eq, fsm, wrap64, if_neg (show ¬ (1 : Int) < 1 by omega)]
  omega

theorem fsm_own (y m d : Int) (h : ¬ 1 < d) : (fsm y m d == fsm y m 1) = true := by
  simp only [beq_iff_eq, fsm, wrap64, if_neg (show ¬ (1 : Int) < 1 by omega), if_neg h]

theorem fsm_next (y m d : Int) (h : 1 < d) : (fsm y m d == fsm y (m + 1) 1) = true := by
  simp only [beq_iff_eq, fsm, wrap64, if_neg (show ¬ (1 : Int) < 1 by omega), if_pos h]
  omega

theorem fsm_next_year (y d : Int) (h : 1 < d) : (fsm y 12 d == fsm (wrap64 (y + 1)) 1 1) = true := by
  simp only [beq_iff_eq, fsm, wrap64, if_neg (show ¬ (1 : Int) < 1 by omega), if_pos h]
  omega

theorem fsm_years (y m d k : Int) : (fsm (wrap64 (y + k)) m d == wrap64 (fsm y m d + wrap64 (12 * k))) = true := by
  simp only [beq_iff_eq, fsm, wrap64]
  omega

theorem grown_trans {a b c : World} (h : Grown a b) (g : Grown b c) : Grown a c :=
  ⟨World.keptBut_trans h.1 g.1, fun x => (g.2.1 x).trans (h.2.1 x), Nat.le_trans h.2.2 g.2.2⟩

/-! ### THE CONTRACT OF ZZfirstServiceMonth (function 6), firstServiceMonth walked in place -/
theorem fsm_calls (y m d : Int) (b0 : -9223372036854775808 ≤ y ∧ y ≤ 9223372036854775807) (b1 : -9223372036854775808 ≤ m ∧ m ≤ 9223372036854775807) (b2 : -9223372036854775808 ≤ d ∧ d ≤ 9223372036854775807) (w : World) :
    Calls Try.prog 6 #[.int .i64 y, .int .i64 m, .int .i64 d] w fun e w' => e = .returned (.int .i64 (fsm y m d)) ∧ Grown w w' := by
  by_cases c : 1 < d
  · have H : Hid (_ = _) := fsm_late y m d c
    go_enter Try.func6, Try.ntmps6
    go_wp2
    go_ret
    exact ⟨by rw [← H.out]; rfl, by repeat (first | exact Grown.refl _ | apply Grown.drew | apply Grown.alloc)⟩
  · have H : Hid (_ = _) := fsm_first y m d c
    go_enter Try.func6, Try.ntmps6
    go_wp2
    go_ret
    exact ⟨by rw [← H.out]; rfl, by repeat (first | exact Grown.refl _ | apply Grown.drew | apply Grown.alloc)⟩

/-! ### STEP 1: THE WALK: the Go text returns true. 'Grown w w'': the world has at most new blocks (Derived/RowKit3.lean). Part the cases AHEAD of 'go_enter' where a test parts the walk; take each callee by a contract of your own. -/
theorem walk (a0 : Int) (a1 : Int) (a2 : Int) (a3 : Int) (w0 : (Lit.int .i64 a0).wf = true) (w1 : (Lit.int .i64 a1).wf = true) (w2 : (Lit.int .i64 a2).wf = true) (w3 : (Lit.int .i64 a3).wf = true) (w : World) :
    Calls Try.prog 3 #[.int .i64 a0, .int .i64 a1, .int .i64 a2, .int .i64 a3] w fun e w' => e = .returned (.bool true) ∧ Grown w w' := by
  have b0 := bounds_i64 w0
  have b1 := bounds_i64 w1
  have b2 := bounds_i64 w2
  have b3 := bounds_i64 w3
  by_cases c1 : a1 < 1
  · go_enter Try.func3, Try.ntmps3
    go_wp2
    go_ret
    exact ⟨rfl, Grown.refl _⟩
  by_cases c2 : 12 < a1
  · go_enter Try.func3, Try.ntmps3
    go_wp2
    go_ret
    exact ⟨rfl, Grown.refl _⟩
  have hk := fsm_years a0 a1 a2 a3
  by_cases c3 : a1 = 12
  · subst c3
    have hs := fsm_year a0
    by_cases c0 : 1 < a2
    · have hn := fsm_next_year a0 a2 c0
      go_enter Try.func3, Try.ntmps3
      go_wp2_with fail
      refine (fsm_calls _ _ _ (by first | omega | (unfold wrap64; omega)) (by omega) (by omega) _).mono ?_
      rintro e w1 ⟨rfl, g1⟩
      go_wp2_with fail
      refine (fsm_calls _ _ _ (by first | omega | (unfold wrap64; omega)) (by omega) (by omega) _).mono ?_
      rintro e w2 ⟨rfl, g2⟩
      go_wp2_with fail
      refine (fsm_calls _ _ _ (by first | omega | (unfold wrap64; omega)) (by omega) (by omega) _).mono ?_
      rintro e w3 ⟨rfl, g3⟩
      go_wp2_with fail
      refine (fsm_calls _ _ _ (by first | omega | (unfold wrap64; omega)) (by omega) (by omega) _).mono ?_
      rintro e w4 ⟨rfl, g4⟩
      go_wp2
      go_ret
      exact ⟨rfl, grown_trans (grown_trans (grown_trans g1 g2) g3) g4⟩
    · have hn := fsm_own a0 12 a2 c0
      go_enter Try.func3, Try.ntmps3
      go_wp2_with fail
      refine (fsm_calls _ _ _ (by first | omega | (unfold wrap64; omega)) (by omega) (by omega) _).mono ?_
      rintro e w1 ⟨rfl, g1⟩
      go_wp2_with fail
      refine (fsm_calls _ _ _ (by first | omega | (unfold wrap64; omega)) (by omega) (by omega) _).mono ?_
      rintro e w2 ⟨rfl, g2⟩
      go_wp2_with fail
      refine (fsm_calls _ _ _ (by first | omega | (unfold wrap64; omega)) (by omega) (by omega) _).mono ?_
      rintro e w3 ⟨rfl, g3⟩
      go_wp2_with fail
      refine (fsm_calls _ _ _ (by first | omega | (unfold wrap64; omega)) (by omega) (by omega) _).mono ?_
      rintro e w4 ⟨rfl, g4⟩
      go_wp2
      go_ret
      exact ⟨rfl, grown_trans (grown_trans (grown_trans g1 g2) g3) g4⟩
  · have c3' : (a1 == 12) = false := beq_eq_false_iff_ne.2 c3
    clear c3
    have hs := fsm_step a0 a1
    by_cases c0 : 1 < a2
    · have hn := fsm_next a0 a1 a2 c0
      go_enter Try.func3, Try.ntmps3
      go_wp2_with fail
      refine (fsm_calls _ _ _ (by first | omega | (unfold wrap64; omega)) (by omega) (by omega) _).mono ?_
      rintro e w1 ⟨rfl, g1⟩
      go_wp2_with fail
      refine (fsm_calls _ _ _ (by first | omega | (unfold wrap64; omega)) (by omega) (by omega) _).mono ?_
      rintro e w2 ⟨rfl, g2⟩
      go_wp2_with fail
      refine (fsm_calls _ _ _ (by first | omega | (unfold wrap64; omega)) (by omega) (by omega) _).mono ?_
      rintro e w3 ⟨rfl, g3⟩
      go_wp2_with fail
      refine (fsm_calls _ _ _ (by first | omega | (unfold wrap64; omega)) (by omega) (by omega) _).mono ?_
      rintro e w4 ⟨rfl, g4⟩
      go_wp2
      go_ret
      exact ⟨rfl, grown_trans (grown_trans (grown_trans g1 g2) g3) g4⟩
    · have hn := fsm_own a0 a1 a2 c0
      go_enter Try.func3, Try.ntmps3
      go_wp2_with fail
      refine (fsm_calls _ _ _ (by first | omega | (unfold wrap64; omega)) (by omega) (by omega) _).mono ?_
      rintro e w1 ⟨rfl, g1⟩
      go_wp2_with fail
      refine (fsm_calls _ _ _ (by first | omega | (unfold wrap64; omega)) (by omega) (by omega) _).mono ?_
      rintro e w2 ⟨rfl, g2⟩
      go_wp2_with fail
      refine (fsm_calls _ _ _ (by first | omega | (unfold wrap64; omega)) (by omega) (by omega) _).mono ?_
      rintro e w3 ⟨rfl, g3⟩
      go_wp2_with fail
      refine (fsm_calls _ _ _ (by first | omega | (unfold wrap64; omega)) (by omega) (by omega) _).mono ?_
      rintro e w4 ⟨rfl, g4⟩
      go_wp2
      go_ret
      exact ⟨rfl, grown_trans (grown_trans (grown_trans g1 g2) g3) g4⟩

/-! ### THE ROW's STEP: WRITTEN OUT: LEAVE IT -/
set_option maxRecDepth 100000 in
theorem lifted (os : Os) (started : os.Started) (H : Type) (enc : TypeId × Value → H) :
    ReturnsInHanded {} Try.checked os 3 .any (Rows.fnFirstServiceMonthStepsWithCalendarSpec.pre6 enc Try.prog Try.f3 Rows.fnFirstServiceMonthStepsWithCalendarRow.domain false) (Rows.fnFirstServiceMonthStepsWithCalendarSpec.post enc Try.prog Try.f3 false true false false) := by
  refine returnsInHanded_of_change (C := Try.checked) own started (by kernel_rfl) Try.func3
    (ChangeSpec.witness6 (enc := enc) (C := Try.checked) false ⟨#[], #[.int .i64 0, .int .i64 0, .int .i64 0, .int .i64 0], []⟩ 8 (by kernel_rfl) (by kernel_rfl) (by kernel_rfl) (by kernel_rfl)) ?_
  intro W base args ds gs before hval0 hW hcnd _
  have hval : ∀ (j : Nat) t v, Try.f3.params[j]? = some t → args[j]? = some v → Value.okWide Try.prog W .any base t v := hval0
  have hW' := hW
  obtain ⟨p, q, hA0, hV, rfl, hfz, hnd⟩ := hW
  have hA : DataW.TrodAll enc Try.prog W 0 (fun _ => true) true Try.f3.params.toList args.toList ds p := hA0
  rw [Try.params3] at hA hval
  obtain ⟨v0, vs0, d0, ds0, p0, q0, hargs, rfl, rfl, h0, r0⟩ := trodAll_cons hA
  obtain ⟨v1, vs1, d1, ds1, p1, q1, rfl, rfl, rfl, h1, r1⟩ := trodAll_cons r0
  obtain ⟨v2, vs2, d2, ds2, p2, q2, rfl, rfl, rfl, h2, r2⟩ := trodAll_cons r1
  obtain ⟨v3, vs3, d3, ds3, p3, q3, rfl, rfl, rfl, h3, r3⟩ := trodAll_cons r2
  obtain ⟨rfl, rfl, rfl⟩ := trodAll_nil r3
  obtain rfl : args = #[v0, v1, v2, v3] := by cases args; simp_all
  obtain ⟨rfl, rfl⟩ := trodVars_none hV
  obtain ⟨a0, rfl, rfl, rfl, w0⟩ := open_int Try.underlying3 (hval 0 3 v0 rfl rfl) h0
  obtain ⟨a1, rfl, rfl, rfl, w1⟩ := open_int Try.underlying3 (hval 1 3 v1 rfl rfl) h1
  obtain ⟨a2, rfl, rfl, rfl, w2⟩ := open_int Try.underlying3 (hval 2 3 v2 rfl rfl) h2
  obtain ⟨a3, rfl, rfl, rfl, w3⟩ := open_int Try.underlying3 (hval 3 3 v3 rfl rfl) h3
  clear hA0 hval0
  simp only [List.append_nil] at hW'
  refine (walk a0 a1 a2 a3 w0 w1 w2 w3 W).mono fun e W' ⟨he, hg⟩ => ?_
  subst he
  exact ⟨_, rfl, post_of_same (pa := []) (pv := []) hW' (fun _ _ _ => (trodAll_cons_mk (shut_bool Try.underlying4 _) trodAll_mk0)) (fun sp _ => (trodAll_cons_mk (shut_int Try.underlying3 w0) (trodAll_cons_mk (shut_int Try.underlying3 w1) (trodAll_cons_mk (shut_int Try.underlying3 w2) (trodAll_cons_mk (shut_int Try.underlying3 w3) trodAll_mk0))))) (fun _ _ => rfl) rfl
    (hg.frame _) hg.2.1 (ok_one (by kernel_rfl) rfl (okWide_bool_mk Try.underlying4 _))⟩

theorem over : Rows.fnFirstServiceMonthStepsWithCalendarRow.holds Try.pinned (OpenSpec.ofChange Rows.fnFirstServiceMonthStepsWithCalendarSpec) :=
  OpenClaim.holds_of_wide 3 Try.f3 rfl rfl rfl rfl rfl rfl rfl ⟨rfl, rfl, rfl, rfl, rfl⟩ rfl rfl rfl rfl rfl (by kernel_rfl) Try.func3 (by kernel_rfl)
    (of_decide_eq_true (by kernel_rfl)) (by unfold Func.isWrapper; first | (rw [if_pos (by decide +kernel)]; kernel_rfl) | (rw [if_neg (by decide +kernel)]; exact ⟨rfl, rfl⟩))
    (fun os started H enc _ => lifted os started H enc)

/-- ████ THE STATEMENT ████ -/
theorem proved : Rows.FnFirstServiceMonthStepsWithCalendarSaid :=
  over
#print axioms proved
end Go.Proofs.Qxb6608869a.fnFirstServiceMonthStepsWithCalendar
