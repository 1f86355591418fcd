/-
  THE PROOF OF 'Rows.FnIsNextOfAgreesWithCompareSaid'. The frame is the given shell's (proof-skeleton.mjs); the walk is ours, over the contracts of the texts that it imports. The last region, which draws its order and holds two calls, goes by the kit's 'go_region_held'.
-/
import Derived.Test.Qxb6608604aRows
import Derived.WalkKit
import Derived.ProofKit
import Derived.OpenShut
import Derived.ShutString
import Derived.Test.Qxb6608604aCompare
import Derived.Deep.RegionHeld
namespace Go.Proofs.Qxb6608604a.fnIsNextOfAgreesWithCompare
open Go.ChangeShapes Go.WideShapes Go.ChangeAt Go.RowKit
open Go.ChangeMaps (open_string shut_string)
open Plain Walks
set_option linter.unusedVariables false      -- a walk need not use every 'w<i>' (that an integer argument fits its kind)

theorem own : ownKnob Try.prog.godebug = none := by kernel_rfl

theorem grown_cell {W w' : World} (h : Grown W w') {a : Addr} {v : Value} (hc : W.cell? a = some v) : w'.cell? a = some v := by
  have hb := lt_of_cell hc
  have hk := h.1.2.2 a.block hb
  unfold World.cell? at hc ⊢
  split at hc
  · rename_i c t fr e1
    rw [e1] at hk
    split at hk
    · rename_i c1 t1 fr1 c' t' fr' ea eb
      cases ea
      rw [eb]
      simp only
      rw [hk.2.2.2 a.off (fun f => f)]
      exact hc
    · rename_i ea eb
      cases ea
    · rw [hk]
      simpa using hc
  · cases hc

theorem incL_length (l : List UInt8) : (incL l).length ≤ l.length + 1 := by
  rcases nines l with ⟨n, rfl⟩ | ⟨p, c, n, hc, rfl⟩
  · rw [incL_nines]; simp
  · rw [incL_some _ _ _ hc]; simp

/-- THE THREE NUMBERS IN MEMORY: s and its value, e and its, m and its. -/
def Six (B : Nat) (s e m : ByteArray) (sv ov mv : Int) (W : World) : Prop :=
  W.cell? ⟨B + 1, 0, none⟩ = some (.string s) ∧ W.cell? ⟨B + 1, 1, none⟩ = some (.int .u64 sv) ∧ W.cell? ⟨B + 1 + 1 + 1, 0, none⟩ = some (.string e) ∧ W.cell? ⟨B + 1 + 1 + 1, 1, none⟩ = some (.int .u64 ov) ∧
    W.cell? ⟨B + 1 + 1 + 1 + 1 + 1, 0, none⟩ = some (.string m) ∧ W.cell? ⟨B + 1 + 1 + 1 + 1 + 1, 1, none⟩ = some (.int .u64 mv)

theorem six_grown {B : Nat} {s e m : ByteArray} {sv ov mv : Int} {W W' : World} (h : Six B s e m sv ov mv W) (g : Grown W W') : Six B s e m sv ov mv W' := by
  obtain ⟨a1, a2, a3, a4, a5, a6⟩ := h
  exact ⟨grown_cell g a1, grown_cell g a2, grown_cell g a3, grown_cell g a4, grown_cell g a5, grown_cell g a6⟩

theorem six_start (W : World) (s e m : ByteArray) (sv ov mv : Int) : Six W.heap.size s e m sv ov mv
    ((((((W.alloc (.cells #[.string s, .int .u64 sv] 26)).alloc (.cells #[.string s, .int .u64 sv] 26)).alloc (.cells #[.string e, .int .u64 ov] 26)).alloc (.cells #[.string e, .int .u64 ov] 26)).alloc (.cells #[.string m, .int .u64 mv] 26)).alloc (.cells #[.string m, .int .u64 mv] 26)) := by
  unfold Six
  simp [go_sem]

set_option maxHeartbeats 800000 in
theorem bytes4_yes (d e : ByteArray) (nv ov : Int) (h : d.size + e.size ≤ 1048576) (w : World) :
    Calls Try.prog 12 #[.string d, .int .u64 nv, .string e, .int .u64 ov] w fun r w' => r = .returned (.bool true) ∧ w' = w := by
  go_enter Try.func12, Try.ntmps12
  go_wp2
  go_ret
  exact ⟨rfl, rfl⟩

set_option maxHeartbeats 800000 in
theorem bytes4_no (d e : ByteArray) (nv ov : Int) (h : ¬ d.size + e.size ≤ 1048576) (w : World) :
    Calls Try.prog 12 #[.string d, .int .u64 nv, .string e, .int .u64 ov] w fun r w' => r = .returned (.bool false) ∧ w' = w := by
  go_enter Try.func12, Try.ntmps12
  go_wp2
  all_goals (go_ret; exact ⟨rfl, rfl⟩)

set_option maxHeartbeats 3200000 in
theorem law4 (e m : ByteArray) (ov mv : Int) (ho : 0 ≤ ov ∧ ov ≤ 18446744073709551615) (hm : 0 ≤ mv ∧ mv ≤ 18446744073709551615) (w : World) :
    Calls Try.prog 4 #[.string e, .int .u64 ov, .string m, .int .u64 mv] w fun r w' => r = .returned (.bool true) ∧ Grown w w' := by
  by_cases h : e.size + m.size ≤ 1048576
  · by_cases h1 : 65536 < e.size
    · go_enter Try.func4, Try.ntmps4
      go_wp2_with fail
      refine (bytes4_yes e m ov mv h _).mono ?_
      rintro r w1 ⟨rfl, rfl⟩
      go_wp2
      go_ret
      exact ⟨rfl, Grown.refl _⟩
    by_cases h2 : 65536 < m.size
    · go_enter Try.func4, Try.ntmps4
      go_wp2_with fail
      refine (bytes4_yes e m ov mv h _).mono ?_
      rintro r w1 ⟨rfl, rfl⟩
      go_wp2
      go_ret
      exact ⟨rfl, Grown.refl _⟩
    go_enter Try.func4, Try.ntmps4
    go_wp2_with fail
    refine (bytes4_yes e m ov mv h _).mono ?_
    rintro r w1 ⟨rfl, rfl⟩
    go_wp2_with fail
    refine (wf_int e (by omega) ov ho.1 _).mono ?_
    rintro r w2 ⟨b1, rfl, hb1, rfl⟩
    cases b1
    · clear hb1
      go_wp2
      go_ret
      exact ⟨rfl, Grown.refl _⟩
    have HW1 : Hid (WF e.data.toList ov.toNat) := hb1 rfl
    clear hb1
    go_wp2_with fail
    refine (wf_int m (by omega) mv hm.1 _).mono ?_
    rintro r w2 ⟨b2, rfl, hb2, rfl⟩
    cases b2
    · clear hb2
      go_wp2
      go_ret
      exact ⟨rfl, Grown.refl _⟩
    have HW2 : Hid (WF m.data.toList mv.toNat) := hb2 rfl
    clear hb2
    -- THE FIVE CALLS BEHIND, AT THE VERY NUMBERS THAT THEY GIVE
    obtain ⟨s, hs1, hs2⟩ : ∃ s : ByteArray, s = ⟨(incL e.data.toList).toArray⟩ ∧ s.data.toList = incL e.data.toList := ⟨_, rfl, rfl⟩
    obtain ⟨sv, hsv⟩ : ∃ sv : Int, sv = (sat (val (incL e.data.toList)) : Int) := ⟨_, rfl⟩
    have hM : MAX = 18446744073709551615 := rfl
    have hsat := sat_le (val (incL e.data.toList))
    have hsvb : 0 ≤ sv ∧ sv ≤ 18446744073709551615 := by omega
    have hsvn : sv.toNat = sat (val (incL e.data.toList)) := by omega
    have hss : s.size ≤ 1048577 := by
      have h3 := incL_length e.data.toList
      have h4 : s.size = (incL e.data.toList).length := by rw [hs1]; rfl
      have h5 : e.data.toList.length = e.size := by simp
      omega
    have I1 : Hid (∀ w, Calls Try.prog 11 #[.string e] w fun r w' => r = .returned (.string s) ∧ Grown w w') := by
      intro w
      have := inc_calls e (by omega) HW1.out.1 w
      rwa [← hs1] at this
    have D1 : Hid (∀ w, Calls Try.prog 13 #[.string s] w fun r w' => r = .returned (.int .u64 sv) ∧ w' = w) := by
      intro w
      have := dec_calls s hss (by rw [hs2]; exact incL_dig HW1.out.1) w
      rwa [hs2, ← hsv] at this
    have N1 : Hid (∀ w, Calls Try.prog 10 #[.agg #[.string s, .int .u64 sv], .agg #[.string e, .int .u64 ov]] w fun r w' => r = .returned (.bool true) ∧ Grown w w') := by
      intro w
      have := next_calls s e sv ov hss (by omega) HW1.out.1 hsvb ho w
      rwa [hs2, hsvn, law_next HW1.out] at this
    have C1 : Hid (∀ w, Calls Try.prog 14 #[.agg #[.string s, .int .u64 sv], .agg #[.string e, .int .u64 ov]] w fun r w' => r = .returned (.int .i64 1) ∧ Grown w w') := by
      intro w
      have := cmp_calls s e sv ov hss (by omega) hsvb ho w
      rwa [hs2, hsvn, law_above HW1.out] at this
    have N2 : Hid (∀ w, Calls Try.prog 10 #[.agg #[.string e, .int .u64 ov], .agg #[.string e, .int .u64 ov]] w fun r w' => r = .returned (.bool false) ∧ Grown w w') := by
      intro w
      have := next_calls e e ov ov (by omega) (by omega) HW1.out.1 ho ho w
      rwa [law_self] at this
    obtain ⟨b, c, HB, N3, C2⟩ : ∃ (b : Bool) (c : Int), Hid (b = (c == 0)) ∧
        Hid (∀ w, Calls Try.prog 10 #[.agg #[.string m, .int .u64 mv], .agg #[.string e, .int .u64 ov]] w fun r w' => r = .returned (.bool b) ∧ Grown w w') ∧
        Hid (∀ w, Calls Try.prog 14 #[.agg #[.string m, .int .u64 mv], .agg #[.string s, .int .u64 sv]] w fun r w' => r = .returned (.int .i64 c) ∧ Grown w w') := by
      refine ⟨_, _, law_agree HW2.out HW1.out, fun w => next_calls m e mv ov (by omega) (by omega) HW1.out.1 hm ho w, fun w => ?_⟩
      have := cmp_calls m s mv sv (by omega) hss hm hsvb w
      rwa [hs2, hsvn] at this
    clear hs1 hs2 hsv hM hsat hsvn HW1 HW2
    go_wp2_with fail
    refine (I1.out _).mono ?_
    rintro r w3 ⟨rfl, g3⟩
    go_wp2_with fail
    refine (D1.out _).mono ?_
    rintro r w4 ⟨rfl, rfl⟩
    go_wp2_with fail
    refine (new_calls s sv _).mono ?_
    rintro r w5 ⟨rfl, rfl⟩
    go_wp2_with fail
    refine (new_calls e ov _).mono ?_
    rintro r w5 ⟨rfl, rfl⟩
    go_wp2_with fail
    refine (new_calls m mv _).mono ?_
    rintro r w5 ⟨rfl, rfl⟩
    go_wp2_with fail
    refine (N1.out _).mono ?_
    rintro r w5 ⟨rfl, g5⟩
    have S5 := six_grown (six_start w4 s e m sv ov mv) g5
    have G5 : Hid (Grown w2 w5) := grown_trans g3 (grown_trans (Grown.alloc (Grown.alloc (Grown.alloc (Grown.alloc (Grown.alloc (Grown.alloc (Grown.refl _) _ _) _ _) _ _) _ _) _ _) _ _) g5)
    clear g3 g5
    have S5' := S5
    obtain ⟨a1, a2, a3, a4, a5, a6⟩ := S5
    go_wp2_with fail
    refine (C1.out _).mono ?_
    rintro r w6 ⟨rfl, g6⟩
    have S6 := six_grown S5' g6
    have G6 : Hid (Grown w2 w6) := grown_trans G5.out g6
    clear g6 G5 a1 a2 a3 a4 a5 a6 S5'
    have S6' := S6
    obtain ⟨a1, a2, a3, a4, a5, a6⟩ := S6
    go_wp2_with fail
    refine (N2.out _).mono ?_
    rintro r w7 ⟨rfl, g7⟩
    have S7 := six_grown S6' g7
    have G7 : Hid (Grown w2 w7) := grown_trans G6.out g7
    clear g7 G6 a1 a2 a3 a4 a5 a6 S6' I1 D1 N1 C1 N2
    have S7' := S7
    obtain ⟨a1, a2, a3, a4, a5, a6⟩ := S7
    go_wp2_with fail
    have hGS : Hid (∀ (W W' : World), Grown W W' → Six w4.heap.size s e m sv ov mv W → Six w4.heap.size s e m sv ov mv W') := fun W W' g h => six_grown h g
    go_region_held (fun w' => w'.cell? ⟨w4.heap.size + 1, 0, none⟩ = some (.string s) ∧ w'.cell? ⟨w4.heap.size + 1, 1, none⟩ = some (.int .u64 sv) ∧ w'.cell? ⟨w4.heap.size + 1 + 1 + 1, 0, none⟩ = some (.string e) ∧ w'.cell? ⟨w4.heap.size + 1 + 1 + 1, 1, none⟩ = some (.int .u64 ov) ∧ w'.cell? ⟨w4.heap.size + 1 + 1 + 1 + 1 + 1, 0, none⟩ = some (.string m) ∧ w'.cell? ⟨w4.heap.size + 1 + 1 + 1 + 1 + 1, 1, none⟩ = some (.int .u64 mv)) (go_keep)
      (first
        | (go_at_call 10; refine (N3.out _).mono ?_; rintro r w8 ⟨rfl, g8⟩; obtain ⟨k1, k2, k3, k4, k5, k6⟩ := hGS.out _ _ g8 (by unfold Six; go_keep))
        | (go_at_call 14; refine (C2.out _).mono ?_; rintro r w9 ⟨rfl, g9⟩; obtain ⟨k1, k2, k3, k4, k5, k6⟩ := hGS.out _ _ g9 (by unfold Six; go_keep)))
    go_wp2
    go_ret
    refine ⟨?_, grown_trans G7.out (grown_trans (by exact g8) g9)⟩
    have hfin : (b == (c == 0)) = true := beq_iff_eq.2 HB.out
    show Ending.returned (.bool (b == (c == 0))) = _
    rw [hfin]
  · go_enter Try.func4, Try.ntmps4
    go_wp2_with fail
    refine (bytes4_no e m ov mv h _).mono ?_
    rintro r w1 ⟨rfl, rfl⟩
    go_wp2
    go_ret
    exact ⟨rfl, Grown.refl _⟩

/-! ### STEP 1: THE WALK: the Go text returns true. 'Grown w w'': the world has at most new blocks (Derived/RowKit3.lean). Part the cases AHEAD of 'go_enter' where a test parts the walk; take each callee by a contract of your own. -/
theorem walk (a0 : ByteArray) (a1 : Int) (a2 : ByteArray) (a3 : Int) (w0 : a0.size ≤ maxLen) (w1 : (Lit.int .u64 a1).wf = true) (w2 : a2.size ≤ maxLen) (w3 : (Lit.int .u64 a3).wf = true) (w : World) :
    Calls Try.prog 4 #[.string a0, .int .u64 a1, .string a2, .int .u64 a3] w fun e w' => e = .returned (.bool true) ∧ Grown w w' := by
  exact law4 a0 a2 a1 a3 (bounds_u64 w1) (bounds_u64 w3) w

/-! ### THE ROW's STEP: WRITTEN OUT: LEAVE IT -/
set_option maxRecDepth 100000 in
theorem lifted (os : Os) (started : os.Started) (H : Type) (enc : TypeId × Value → H) :
    ReturnsInHanded {} Try.checked os 4 .any (Rows.fnIsNextOfAgreesWithCompareSpec.pre6 enc Try.prog Try.f4 Rows.fnIsNextOfAgreesWithCompareRow.domain false) (Rows.fnIsNextOfAgreesWithCompareSpec.post enc Try.prog Try.f4 false true false false) := by
  refine returnsInHanded_of_change (C := Try.checked) own started (by kernel_rfl) Try.func4
    (ChangeSpec.witness6 (enc := enc) (C := Try.checked) false ⟨#[], #[.string ByteArray.empty, .int .u64 0, .string ByteArray.empty, .int .u64 0], []⟩ 8 (by kernel_rfl) (by kernel_rfl) (by kernel_rfl) (by kernel_rfl)) ?_
  intro W base args ds gs before hval0 hW hcnd _
  have hval : ∀ (j : Nat) t v, Try.f4.params[j]? = some t → args[j]? = some v → Value.okWide Try.prog W .any base t v := hval0
  have hW' := hW
  obtain ⟨p, q, hA0, hV, rfl, hfz, hnd⟩ := hW
  have hA : DataW.TrodAll enc Try.prog W 0 (fun _ => true) true Try.f4.params.toList args.toList ds p := hA0
  rw [Try.params4] at hA hval
  obtain ⟨v0, vs0, d0, ds0, p0, q0, hargs, rfl, rfl, h0, r0⟩ := trodAll_cons hA
  obtain ⟨v1, vs1, d1, ds1, p1, q1, rfl, rfl, rfl, h1, r1⟩ := trodAll_cons r0
  obtain ⟨v2, vs2, d2, ds2, p2, q2, rfl, rfl, rfl, h2, r2⟩ := trodAll_cons r1
  obtain ⟨v3, vs3, d3, ds3, p3, q3, rfl, rfl, rfl, h3, r3⟩ := trodAll_cons r2
  obtain ⟨rfl, rfl, rfl⟩ := trodAll_nil r3
  obtain rfl : args = #[v0, v1, v2, v3] := by cases args; simp_all
  obtain ⟨rfl, rfl⟩ := trodVars_none hV
  obtain ⟨a0, rfl, rfl, rfl, w0⟩ := open_string Try.underlying9 (hval 0 9 v0 rfl rfl) h0
  obtain ⟨a1, rfl, rfl, rfl, w1⟩ := open_int Try.underlying22 (hval 1 22 v1 rfl rfl) h1
  obtain ⟨a2, rfl, rfl, rfl, w2⟩ := open_string Try.underlying9 (hval 2 9 v2 rfl rfl) h2
  obtain ⟨a3, rfl, rfl, rfl, w3⟩ := open_int Try.underlying22 (hval 3 22 v3 rfl rfl) h3
  clear hA0 hval0
  simp only [List.append_nil] at hW'
  refine (walk a0 a1 a2 a3 w0 w1 w2 w3 W).mono fun e W' ⟨he, hg⟩ => ?_
  subst he
  exact ⟨_, rfl, post_of_same (pa := []) (pv := []) hW' (fun _ _ _ => (trodAll_cons_mk (shut_bool Try.underlying4 _) trodAll_mk0)) (fun sp _ => (trodAll_cons_mk (shut_string Try.underlying9 w0) (trodAll_cons_mk (shut_int Try.underlying22 w1) (trodAll_cons_mk (shut_string Try.underlying9 w2) (trodAll_cons_mk (shut_int Try.underlying22 w3) trodAll_mk0))))) (fun _ _ => rfl) rfl
    (hg.frame _) hg.2.1 (ok_one (by kernel_rfl) rfl (okWide_bool_mk Try.underlying4 _))⟩

theorem over : Rows.fnIsNextOfAgreesWithCompareRow.holds Try.pinned (OpenSpec.ofChange Rows.fnIsNextOfAgreesWithCompareSpec) :=
  OpenClaim.holds_of_wide 4 Try.f4 rfl rfl rfl rfl rfl rfl rfl ⟨rfl, rfl, rfl, rfl, rfl⟩ rfl rfl rfl rfl rfl (by kernel_rfl) Try.func4 (by kernel_rfl)
    (of_decide_eq_true (by kernel_rfl)) (by unfold Func.isWrapper; first | (rw [if_pos (by decide +kernel)]; kernel_rfl) | (rw [if_neg (by decide +kernel)]; exact ⟨rfl, rfl⟩))
    (fun os started H enc _ => lifted os started H enc)

/-- ████ THE STATEMENT ████ -/
theorem proved : Rows.FnIsNextOfAgreesWithCompareSaid :=
  over
#print axioms proved
end Go.Proofs.Qxb6608604a.fnIsNextOfAgreesWithCompare
