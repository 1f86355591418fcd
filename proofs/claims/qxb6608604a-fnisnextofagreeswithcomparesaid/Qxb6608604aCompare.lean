/-
  strings.Compare (function 30), compareNumeric (27), ZZnumberCompare (14; compare, 22, walked in place), each by its contract.
-/
import Derived.Test.Qxb6608604aParts
namespace Go.Proofs.Qxb6608604a.Walks
open Go.RowKit Plain

theorem call34 (a b : ByteArray) (w : World) : (callFunc 34 #[.string a, .string b]).run Try.prog w = .ok (.value (.int .i64 (Lib.compareBytes a.data.toList b.data.toList))) w := by
  rw [run_callFunc_extern Try.func34 (by kernel_rfl) (by kernel_rfl) (by kernel_rfl) (e := Extern.BytealgCompare.compare) (by kernel_rfl), Lib.run_compareString]
  rfl

set_option maxHeartbeats 400000 in
/-- strings.Compare BY ITS CONTRACT. -/
theorem cmpStr_calls (a b : ByteArray) (w : World) :
    Calls Try.prog 30 #[.string a, .string b] w fun r w' => r = .returned (.int .i64 (Lib.compareBytes a.data.toList b.data.toList)) ∧ w' = w := by
  have h34 := call34 a b
  go_enter Try.func30, Try.ntmps30
  go_wp2
  go_ret
  exact ⟨rfl, rfl⟩

set_option maxHeartbeats 800000 in
/-- compareNumeric BY ITS CONTRACT. -/
theorem cmpNum_calls (a b : ByteArray) (ha : a.size ≤ 1048577) (hb : b.size ≤ 1048577) (w : World) :
    Calls Try.prog 27 #[.string a, .string b] w fun r w' => r = .returned (.int .i64 (cmpNum a.data.toList b.data.toList)) ∧ w' = w := by
  obtain ⟨A, HA⟩ : ∃ A, Hid (trim a.data.toList = A) := ⟨_, rfl⟩
  obtain ⟨B, HB⟩ : ∃ B, Hid (trim b.data.toList = B) := ⟨_, rfl⟩
  have hc : cmpNum a.data.toList b.data.toList = if A.length < B.length then -1 else if B.length < A.length then 1 else Lib.compareBytes A B := by
    unfold cmpNum
    rw [HA.out, HB.out]
  have h1 := trim_calls a ha
  have h2 := trim_calls b hb
  rw [HA.out] at h1
  rw [HB.out] at h2
  rw [hc]
  have hlA : A.length ≤ 1048577 := by
    rw [← HA.out]
    have := (List.dropWhile_sublist (l := a.data.toList) (· == 48)).length_le
    simp at this
    unfold trim
    omega
  have hlB : B.length ≤ 1048577 := by
    rw [← HB.out]
    have := (List.dropWhile_sublist (l := b.data.toList) (· == 48)).length_le
    simp at this
    unfold trim
    omega
  have H1 : Hid (∀ w, Calls Try.prog 26 #[.string a] w fun e w' => e = .returned (.string ⟨A.toArray⟩) ∧ w' = w) := h1
  have H2 : Hid (∀ w, Calls Try.prog 26 #[.string b] w fun e w' => e = .returned (.string ⟨B.toArray⟩) ∧ w' = w) := h2
  clear h1 h2 hc
  by_cases c1 : A.length < B.length
  · rw [if_pos c1]
    go_enter Try.func27, Try.ntmps27
    go_wp2_with fail
    refine (H1.out _).mono ?_
    rintro r w1 ⟨rfl, rfl⟩
    go_wp2_with fail
    refine (H2.out _).mono ?_
    rintro r w1 ⟨rfl, rfl⟩
    go_wp2
    go_ret
    exact ⟨rfl, rfl⟩
  · by_cases c2 : B.length < A.length
    · rw [if_neg c1, if_pos c2]
      go_enter Try.func27, Try.ntmps27
      go_wp2_with fail
      refine (H1.out _).mono ?_
      rintro r w1 ⟨rfl, rfl⟩
      go_wp2_with fail
      refine (H2.out _).mono ?_
      rintro r w1 ⟨rfl, rfl⟩
      go_wp2
      go_ret
      exact ⟨rfl, rfl⟩
    · rw [if_neg c1, if_neg c2]
      go_enter Try.func27, Try.ntmps27
      go_wp2_with fail
      refine (H1.out _).mono ?_
      rintro r w1 ⟨rfl, rfl⟩
      go_wp2_with fail
      refine (H2.out _).mono ?_
      rintro r w1 ⟨rfl, rfl⟩
      go_wp2_with fail
      refine (cmpStr_calls _ _ _).mono ?_
      rintro r w1 ⟨rfl, rfl⟩
      go_wp2
      go_ret
      exact ⟨rfl, rfl⟩

set_option maxHeartbeats 800000 in
/-- ZZnumberCompare BY ITS CONTRACT. -/
theorem cmp_calls (d e : ByteArray) (nv ov : Int) (hd : d.size ≤ 1048577) (he : e.size ≤ 1048577) (hn : 0 ≤ nv ∧ nv ≤ 18446744073709551615) (ho : 0 ≤ ov ∧ ov ≤ 18446744073709551615) (w : World) :
    Calls Try.prog 14 #[.agg #[.string d, .int .u64 nv], .agg #[.string e, .int .u64 ov]] w fun r w' => r = .returned (.int .i64 (cmpI d.data.toList nv.toNat e.data.toList ov.toNat)) ∧ Grown w w' := by
  have hM : MAX = 18446744073709551615 := rfl
  by_cases c1 : nv < ov
  · have HF : Hid (cmpI d.data.toList nv.toNat e.data.toList ov.toNat = -1) := by
      show _ = _
      unfold cmpI
      rw [if_pos (by omega)]
    clear hM
    go_enter Try.func14, Try.ntmps14
    go_wp2
    go_ret
    exact ⟨by rw [HF.out]; rfl, by repeat (first | exact Grown.refl _ | apply Grown.drew | apply Grown.alloc)⟩
  · by_cases c2 : ov < nv
    · have HF : Hid (cmpI d.data.toList nv.toNat e.data.toList ov.toNat = 1) := by
        show _ = _
        unfold cmpI
        rw [if_neg (by omega), if_pos (by omega)]
      clear hM
      go_enter Try.func14, Try.ntmps14
      go_wp2
      go_ret
      exact ⟨by rw [HF.out]; rfl, by repeat (first | exact Grown.refl _ | apply Grown.drew | apply Grown.alloc)⟩
    · obtain rfl : nv = ov := by omega
      clear c1 c2
      cases c3 : (nv == 18446744073709551615) with
      | true =>
        have HF : Hid (cmpI d.data.toList nv.toNat e.data.toList nv.toNat = cmpNum d.data.toList e.data.toList) := by
          show _ = _
          unfold cmpI
          rw [if_neg (by omega), if_neg (by omega), if_pos (by have := beq_iff_eq.1 c3; omega)]
        clear hM
        go_enter Try.func14, Try.ntmps14
        go_wp2_with (go_at_call 22; go_in)
        refine (cmpNum_calls d e hd he _).mono ?_
        rintro r w1 ⟨rfl, rfl⟩
        go_wp2
        go_ret
        exact ⟨by rw [HF.out]; rfl, by repeat (first | exact Grown.refl _ | apply Grown.drew | apply Grown.alloc)⟩
      | false =>
        have HF : Hid (cmpI d.data.toList nv.toNat e.data.toList nv.toNat = 0) := by
          show _ = _
          unfold cmpI
          rw [if_neg (by omega), if_neg (by omega), if_neg (by have := beq_eq_false_iff_ne.1 c3; omega)]
        clear hM
        go_enter Try.func14, Try.ntmps14
        go_wp2
        go_ret
        exact ⟨by rw [HF.out]; rfl, by repeat (first | exact Grown.refl _ | apply Grown.drew | apply Grown.alloc)⟩
end Go.Proofs.Qxb6608604a.Walks
