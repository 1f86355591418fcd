/-
  ZZisNextOf (function 10; isNextOf, 21, walked in place) BY ITS CONTRACT.
-/
import Derived.Test.Qxb6608604aReads
import Derived.BigQuiet
namespace Go.Proofs.Qxb6608604a.Walks
open Go.RowKit Plain

set_option maxHeartbeats 800000 in
theorem next_small (d e : ByteArray) (nv ov : Int) (hn : 0 ≤ nv ∧ nv < 18446744073709551615) (ho : 0 ≤ ov ∧ ov ≤ 18446744073709551615) (w : World) :
    Calls Try.prog 10 #[.agg #[.string d, .int .u64 nv], .agg #[.string e, .int .u64 ov]] w fun r w' => r = .returned (.bool (nextB d.data.toList nv.toNat e.data.toList ov.toNat)) ∧ Grown w w' := by
  have hM : MAX = 18446744073709551615 := rfl
  by_cases h0 : 0 < nv
  · have HB : Hid ((ov == nv - 1) = nextB d.data.toList nv.toNat e.data.toList ov.toNat) := by
      show _ = _
      unfold nextB
      rw [if_pos (by omega), Bool.eq_iff_iff, beq_iff_eq, decide_eq_true_iff]; omega
    clear hM
    go_enter Try.func10, Try.ntmps10
    go_wp2
    go_ret
    exact ⟨by rw [← HB.out]; rfl, by repeat (first | exact Grown.refl _ | apply Grown.drew | apply Grown.alloc)⟩
  · have HB : Hid (nextB d.data.toList nv.toNat e.data.toList ov.toNat = false) := by
      show _ = _
      unfold nextB
      rw [if_pos (by omega), decide_eq_false_iff_not]; omega
    clear hM
    go_enter Try.func10, Try.ntmps10
    go_wp2
    go_ret
    exact ⟨by rw [HB.out]; rfl, by repeat (first | exact Grown.refl _ | apply Grown.drew | apply Grown.alloc)⟩

/-- Behind the first k bytes lie nines. -/
def Tail9 (e : List UInt8) (k : Nat) : Prop := k ≤ e.length ∧ e = e.take k ++ List.replicate (e.length - k) 57

theorem tail9_start (e : List UInt8) : Tail9 e e.length := ⟨Nat.le_refl _, by simp⟩

theorem tail9_step {e : List UInt8} {k : Nat} (h : Tail9 e (k + 1)) (hb : e[k]? = some 57) : Tail9 e k := by
  obtain ⟨hk, he⟩ := h
  have e1 : e.take (k + 1) = e.take k ++ [57] := by rw [List.take_add_one, hb]; rfl
  have e2 : e.length - k = (e.length - (k + 1)) + 1 := by omega
  exact ⟨by omega, he.trans (by rw [e1, e2, List.replicate_succ]; simp)⟩

theorem tail9_none {e : List UInt8} (h : Tail9 e 0) : incL e = 49 :: List.replicate e.length 48 := by
  obtain ⟨_, he⟩ := h
  simp only [List.take_zero, List.nil_append, Nat.sub_zero] at he
  exact (congrArg incL he).trans (incL_nines _)

theorem tail9_some {e : List UInt8} {k : Nat} {b : UInt8} (h : Tail9 e (k + 1)) (hb : e[k]? = some b) (hn : b ≠ 57) : incL e = e.take k ++ (b + 1) :: List.replicate (e.length - (k + 1)) 48 := by
  obtain ⟨hk, he⟩ := h
  have e1 : e.take (k + 1) = e.take k ++ [b] := by rw [List.take_add_one, hb]; rfl
  have e0 : e = e.take k ++ b :: List.replicate (e.length - (k + 1)) 57 := he.trans (by rw [e1]; simp)
  exact (congrArg incL e0).trans (incL_some _ _ _ hn)

theorem grown_drewN {W w' : World} (h : Grown W w') (n : Nat) : Grown W (w'.drewN n) := h

theorem trim_nil : ∀ (l : List UInt8), trim l = [] ↔ l = List.replicate l.length 48
  | [] => by simp [trim]
  | c :: r => by
    unfold trim
    by_cases h : c = 48
    · subst h
      rw [List.dropWhile_cons_of_pos (by rfl), List.length_cons, List.replicate_succ]
      have := trim_nil r
      unfold trim at this
      rw [this]
      constructor
      · intro e; rw [← e]
      · intro e; exact (List.cons.inj e).2
    · rw [List.dropWhile_cons_of_neg (by simpa using h), List.length_cons, List.replicate_succ]
      constructor
      · intro e; cases e
      · intro e; exact absurd (List.cons.inj e).1 h

/-- All of e's bytes are nines: what the three tests say. -/
theorem led_iff {d : List UInt8} {n : Nat} : d = 49 :: List.replicate n 48 ↔ d.length = n + 1 ∧ d[0]? = some 49 ∧ trim (d.drop 1) = [] := by
  constructor
  · rintro rfl
    refine ⟨by simp, rfl, ?_⟩
    rw [trim_nil]
    simp
  · rintro ⟨h1, h2, h3⟩
    rw [trim_nil] at h3
    cases d with
    | nil => cases h2
    | cons c r =>
      simp at h1 h2 h3
      rw [h2, h3, h1]

/-- A byte of e is no nine: what the four tests say. -/
theorem mid_iff {d e : List UInt8} {q n : Nat} {c : UInt8} (hq : q < e.length) (hn : n = e.length - (q + 1)) :
    d = e.take q ++ c :: List.replicate n 48 ↔ d.length = e.length ∧ d.take q = e.take q ∧ d[q]? = some c ∧ trim (d.drop (q + 1)) = [] := by
  have hlen : (e.take q).length = q := by simp; omega
  constructor
  · rintro rfl
    refine ⟨by simp; omega, ?_, ?_, ?_⟩
    · rw [List.take_append_of_le_length (by omega), List.take_of_length_le (by omega)]
    · rw [List.getElem?_append_right (by omega), hlen, Nat.sub_self]; rfl
    · rw [trim_nil, List.drop_append, hlen, List.drop_of_length_le (by omega), Nat.add_sub_cancel_left]
      simp
  · rintro ⟨h1, h2, h3, h4⟩
    rw [trim_nil] at h4
    have hl : (d.drop (q + 1)).length = n := by simp; omega
    rw [hl] at h4
    have e1 : d = d.take q ++ d.drop q := (List.take_append_drop q d).symm
    have e2 : d.drop q = c :: d.drop (q + 1) := by
      have hq2 : q < d.length := by omega
      rw [List.drop_eq_getElem_cons hq2]
      congr 1
      rw [List.getElem?_eq_getElem hq2] at h3
      exact Option.some.inj h3
    rw [e1, h2, e2, h4]

/-- trimLeadingZeros of a text's tail. -/
theorem trim_tail (d : ByteArray) (k : Nat) (T : List UInt8) (hT : trim (d.data.toList.drop k) = T) (hd : d.size ≤ 1048577) (w : World) :
    Calls Try.prog 26 #[.string (d.extract k d.size)] w fun e w' => e = .returned (.string ⟨T.toArray⟩) ∧ w' = w := by
  have h := trim_calls (d.extract k d.size) (by simp; omega) w
  rw [extract_tail, hT] at h
  exact h

set_option maxHeartbeats 1600000 in
theorem next_big (d e : ByteArray) (ov : Int) (hd : d.size ≤ 1048577) (he : e.size ≤ 1048577) (hdig : allDig e.data.toList) (w : World) :
    Calls Try.prog 10 #[.agg #[.string d, .int .u64 18446744073709551615], .agg #[.string e, .int .u64 ov]] w fun r w' => r = .returned (.bool (decide (d.data.toList = incL e.data.toList))) ∧ Grown w w' := by
  have HD : Hid (allDig e.data.toList) := hdig
  have hle : Hid (e.data.toList.length = e.size) := by show _ = _; simp
  have hld : Hid (d.data.toList.length = d.size) := by show _ = _; simp
  clear hdig
  go_enter Try.func10, Try.ntmps10
  go_wp2
  go_quiet (fail)
  go_wp2
  go_loop [7] (fun i => ∃ k : Nat, k ≤ e.size ∧ i = .int .i64 (k : Int) ∧ Tail9 e.data.toList k) (fun i => (intOf i).toNat)
  case atStart => exact ⟨e.size, Nat.le_refl _, rfl, by rw [← hle.out]; exact tail9_start _⟩
  case round =>
    obtain ⟨k, hk, rfl, HT⟩ := hrel
    match k, hk, HT with
    | 0, hk, HT =>
      have HI : Hid (incL e.data.toList = 49 :: List.replicate e.size 48) := by rw [← hle.out]; exact tail9_none HT
      clear HT
      by_cases hA1 : (d.size : Int) = (e.size : Int) + 1
      · have hp : 0 < d.size := by omega
        by_cases hA2 : (d[0].toNat : Int) = 49
        · obtain ⟨T, HG⟩ : ∃ T, Hid (trim (d.data.toList.drop 1) = T) := ⟨_, rfl⟩
          go_wp2_with fail
          refine (trim_tail d 1 T HG.out hd _).mono ?_
          rintro r w1 ⟨rfl, rfl⟩
          cases hE : T.isEmpty with
          | true =>
            have HF : Hid (decide (d.data.toList = incL e.data.toList) = true) := by
              show _ = _
              rw [decide_eq_true_iff, HI.out, led_iff, getElem_data d 0 hp, hld.out]
              refine ⟨by omega, ?_, ?_⟩
              · rw [byte_eq (n := 49) (by decide) (beq_iff_eq.2 hA2)]; rfl
              · rw [HG.out]; simpa using hE
            go_wp2
            go_ret
            exact ⟨by rw [HF.out]; rfl, by repeat (first | exact Grown.refl _ | apply grown_drewN | apply Grown.alloc)⟩
          | false =>
            have HF : Hid (decide (d.data.toList = incL e.data.toList) = false) := by
              show _ = _
              rw [decide_eq_false_iff_not, HI.out, led_iff, HG.out]
              rintro ⟨_, _, h3⟩
              rw [h3] at hE
              cases hE
            go_wp2
            go_ret
            exact ⟨by rw [HF.out]; rfl, by repeat (first | exact Grown.refl _ | apply grown_drewN | apply Grown.alloc)⟩
        · have HF : Hid (decide (d.data.toList = incL e.data.toList) = false) := by
            show _ = _
            rw [decide_eq_false_iff_not, HI.out, led_iff, getElem_data d 0 hp]
            rintro ⟨_, h2, _⟩
            rw [Option.some.inj h2] at hA2
            exact hA2 rfl
          go_wp2
          go_ret
          exact ⟨by rw [HF.out]; rfl, by repeat (first | exact Grown.refl _ | apply grown_drewN | apply Grown.alloc)⟩
      · have HF : Hid (decide (d.data.toList = incL e.data.toList) = false) := by
          show _ = _
          rw [decide_eq_false_iff_not, HI.out, led_iff, hld.out]
          omega
        go_wp2
        go_ret
        exact ⟨by rw [HF.out]; rfl, by repeat (first | exact Grown.refl _ | apply grown_drewN | apply Grown.alloc)⟩
    | q + 1, hk, HT =>
      have hqe : q < e.size := by omega
      have hb : 48 ≤ e[q].toNat ∧ e[q].toNat ≤ 57 := HD.out e[q] (by rw [List.mem_iff_getElem?]; exact ⟨q, getElem_data e q hqe⟩)
      cases h9 : ((e[q].toNat : Int) == 57) with
      | true =>
        have HS := tail9_step HT (by rw [getElem_data e q hqe, byte_eq (n := 57) (by decide) h9]; rfl)
        clear HT
        go_wp2
        go_round
        case rel => exact ⟨q, by omega, by go_num, HS⟩
        case measure => simp [intOf]
      | false =>
        have hn : e[q] ≠ 57 := by
          intro e1
          rw [e1] at h9
          exact absurd h9 (by decide)
        have HI : Hid (incL e.data.toList = e.data.toList.take q ++ (e[q] + 1) :: List.replicate (e.data.toList.length - (q + 1)) 48) := tail9_some HT (getElem_data e q hqe) hn
        clear HT hn
        cases hB1 : ((d.size : Int) == (e.size : Int)) with
        | false =>
          have HF : Hid (decide (d.data.toList = incL e.data.toList) = false) := by
            show _ = _
            rw [decide_eq_false_iff_not, HI.out, mid_iff (by rw [hle.out]; exact hqe) rfl, hld.out, hle.out]
            have := beq_eq_false_iff_ne.1 hB1
            omega
          go_wp2
          go_quiet (fail)
          go_wp2
          go_ret
          exact ⟨by rw [HF.out]; rfl, by repeat (first | exact Grown.refl _ | apply grown_drewN | apply Grown.alloc)⟩
        | true =>
          have HZ : Hid (d.size = e.size) := by have := beq_iff_eq.1 hB1; show _ = _; omega
          have hqd : q < d.size := by rw [HZ.out]; exact hqe
          cases hB2 : ((d.extract 0 q).toList == (e.extract 0 q).toList) with
          | false =>
            have HF : Hid (decide (d.data.toList = incL e.data.toList) = false) := by
              show _ = _
              rw [decide_eq_false_iff_not, HI.out, mid_iff (by rw [hle.out]; exact hqe) rfl]
              rintro ⟨_, h2, _⟩
              rw [ByteArray.toList_eq, ByteArray.toList_eq, extract_head, extract_head, h2] at hB2
              simp at hB2
            go_wp2
            go_quiet (fail)
            go_wp2
            go_ret
            exact ⟨by rw [HF.out]; rfl, by repeat (first | exact Grown.refl _ | apply grown_drewN | apply Grown.alloc)⟩
          | true =>
            cases hB3 : ((d[q].toNat : Int) == (e[q].toNat : Int) + 1) with
            | false =>
              have HF : Hid (decide (d.data.toList = incL e.data.toList) = false) := by
                show _ = _
                rw [decide_eq_false_iff_not, HI.out, mid_iff (by rw [hle.out]; exact hqe) rfl, getElem_data d q hqd]
                rintro ⟨_, _, h3, _⟩
                rw [Option.some.inj h3, toNat_add_one (by omega)] at hB3
                simp at hB3
              go_wp2
              go_quiet (fail)
              go_wp2
              go_ret
              exact ⟨by rw [HF.out]; rfl, by repeat (first | exact Grown.refl _ | apply grown_drewN | apply Grown.alloc)⟩
            | true =>
              obtain ⟨T, HG⟩ : ∃ T, Hid (trim (d.data.toList.drop (q + 1)) = T) := ⟨_, rfl⟩
              cases hE : T.isEmpty with
              | true =>
                have HF : Hid (decide (d.data.toList = incL e.data.toList) = true) := by
                  show _ = _
                  rw [decide_eq_true_iff, HI.out, mid_iff (by rw [hle.out]; exact hqe) rfl, getElem_data d q hqd, hld.out, hle.out]
                  refine ⟨HZ.out, ?_, ?_, ?_⟩
                  · rw [beq_iff_eq, ByteArray.toList_eq, ByteArray.toList_eq, extract_head, extract_head] at hB2
                    exact hB2
                  · congr 1
                    apply UInt8.toNat_inj.1
                    rw [toNat_add_one (by omega)]
                    have := beq_iff_eq.1 hB3
                    omega
                  · rw [HG.out]; simpa using hE
                go_wp2
                go_quiet (first | (go_at_call 26; exact (trim_tail d (q + 1) T HG.out hd _).mono (fun _ _ h => ⟨h.1, _, h.2⟩)))
                go_wp2
                go_ret
                exact ⟨by rw [HF.out]; rfl, by repeat (first | exact Grown.refl _ | apply grown_drewN | apply Grown.alloc)⟩
              | false =>
                have HF : Hid (decide (d.data.toList = incL e.data.toList) = false) := by
                  show _ = _
                  rw [decide_eq_false_iff_not, HI.out, mid_iff (by rw [hle.out]; exact hqe) rfl, HG.out]
                  rintro ⟨_, _, _, h4⟩
                  rw [h4] at hE
                  cases hE
                go_wp2
                go_quiet (first | (go_at_call 26; exact (trim_tail d (q + 1) T HG.out hd _).mono (fun _ _ h => ⟨h.1, _, h.2⟩)))
                go_wp2
                go_ret
                exact ⟨by rw [HF.out]; rfl, by repeat (first | exact Grown.refl _ | apply grown_drewN | apply Grown.alloc)⟩

/-- ZZisNextOf BY ITS CONTRACT. -/
theorem next_calls (d e : ByteArray) (nv ov : Int) (hd : d.size ≤ 1048577) (he : e.size ≤ 1048577) (hdig : allDig e.data.toList) (hn : 0 ≤ nv ∧ nv ≤ 18446744073709551615) (ho : 0 ≤ ov ∧ ov ≤ 18446744073709551615) (w : World) :
    Calls Try.prog 10 #[.agg #[.string d, .int .u64 nv], .agg #[.string e, .int .u64 ov]] w fun r w' => r = .returned (.bool (nextB d.data.toList nv.toNat e.data.toList ov.toNat)) ∧ Grown w w' := by
  by_cases h : nv < 18446744073709551615
  · exact next_small d e nv ov ⟨hn.1, h⟩ ho w
  · have e1 : nextB d.data.toList nv.toNat e.data.toList ov.toNat = decide (d.data.toList = incL e.data.toList) := by
      have hM : MAX = 18446744073709551615 := rfl
      unfold nextB
      rw [if_neg (by omega)]
    rw [e1, show nv = 18446744073709551615 by omega]
    exact next_big d e ov hd he hdig w
end Go.Proofs.Qxb6608604a.Walks
