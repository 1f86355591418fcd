/-
  THE WALKS THAT ONLY READ: trimLeadingZeros (function 26), decValue (13), wellFormed (8), each by its contract.
-/
import Derived.Test.Qxb6608604aRows
import Derived.Test.Qxb6608604aPlain
import Derived.WalkKit
import Derived.WalkSpells
import Derived.WalkLawsBesides
import Derived.OpenShut
import Derived.Lib.IndexBytes
namespace Go.Proofs.Qxb6608604a.Walks
open Go.RowKit Plain

theorem extract_tail (s : ByteArray) (k : Nat) : (s.extract k s.size).data.toList = s.data.toList.drop k := by
  exact Lib.extract_to_end s k

theorem extract_head (s : ByteArray) (k : Nat) : (s.extract 0 k).data.toList = s.data.toList.take k := by
  rw [ByteArray.data_extract]
  simp

theorem bytes_of_list {b : ByteArray} {l : List UInt8} (h : b.data.toList = l) : b = ⟨l.toArray⟩ := by
  subst h
  rfl

theorem getElem_data (s : ByteArray) (k : Nat) (h : k < s.size) : s.data.toList[k]? = some s[k] := by
  have h2 : k < s.data.toList.length := by simpa using h
  rw [List.getElem?_eq_getElem h2]
  rfl

theorem byte_eq {b : UInt8} {n : Nat} (hn : n < 256) (h : ((b.toNat : Int) == (n : Int)) = true) : b = UInt8.ofNat n := by
  apply UInt8.toNat_inj.1
  rw [UInt8.toNat_ofNat']
  have := beq_iff_eq.1 h
  omega

/-- 'trim' where the zeros ahead are known. -/
theorem trim_at : ∀ (l : List UInt8) (k : Nat), k ≤ l.length → (∀ j, j < k → l[j]? = some 48) → (l[k]? ≠ some 48) → trim l = l.drop k
  | [], k, hk, _, _ => by
    have : k = 0 := by simpa using hk
    subst this
    rfl
  | c :: r, 0, _, _, hn => by
    unfold trim
    rw [List.dropWhile_cons_of_neg]
    · rfl
    · simpa using hn
  | c :: r, k + 1, hk, hz, hn => by
    have h0 := hz 0 (by omega)
    simp at h0
    subst h0
    have ih := trim_at r k (by simpa using hk) (fun j hj => by have := hz (j + 1) (by omega); simpa using this) (by simpa using hn)
    unfold trim at ih ⊢
    rw [List.dropWhile_cons_of_pos (by rfl), ih]
    rfl

set_option maxHeartbeats 400000 in
theorem trim_calls (s : ByteArray) (hs : s.size ≤ 1048577) (w : World) :
    Calls Try.prog 26 #[.string s] w fun e w' => e = .returned (.string ⟨(trim s.data.toList).toArray⟩) ∧ w' = w := by
  have hfin : ∀ k, k ≤ s.size → (∀ j, j < k → s.data.toList[j]? = some 48) → (s.data.toList[k]? ≠ some 48) → s.extract k s.size = ⟨(trim s.data.toList).toArray⟩ := by
    intro k hk hz hn
    apply bytes_of_list
    rw [extract_tail, trim_at _ k (by simpa using hk) hz hn]
  have HF : Hid (∀ k, k ≤ s.size → (∀ j, j < k → s.data.toList[j]? = some 48) → (s.data.toList[k]? ≠ some 48) → s.extract k s.size = ⟨(trim s.data.toList).toArray⟩) := hfin
  clear hfin
  go_enter Try.func26, Try.ntmps26
  go_wp2
  go_loop [3] (fun i => ∃ k : Nat, k ≤ s.size ∧ i = .int .i64 (k : Int) ∧ Hid (∀ j, j < k → s.data.toList[j]? = some 48)) (fun i => s.size - (intOf i).toNat)
  case atStart => exact ⟨0, Nat.zero_le _, rfl, fun j hj => absurd hj (Nat.not_lt_zero _)⟩
  case round =>
    obtain ⟨k, hk, rfl, HZ⟩ := hrel
    go_wp2
    · have hlt : k < s.size := by assumption
      have hb : ((s[k].toNat : Int) == 48) = true := by assumption
      go_round
      case rel =>
        refine ⟨k + 1, by omega, by go_num, fun j hj => ?_⟩
        by_cases e : j = k
        · subst e
          rw [getElem_data s j hlt, byte_eq (n := 48) (by decide) hb]
          rfl
        · exact HZ.out j (by omega)
      case measure => simp [intOf]; omega
    · have hlt : k < s.size := by assumption
      have hb : ((s[k].toNat : Int) == 48) = false := by assumption
      go_ret
      refine ⟨?_, rfl⟩
      show Ending.returned (.string (s.extract k s.size)) = _
      rw [HF.out k hk HZ.out ?_]
      rw [getElem_data s k hlt]
      intro e
      rw [Option.some.inj e] at hb
      cases hb
    · have hge : ¬ k < s.size := by assumption
      go_ret
      refine ⟨?_, rfl⟩
      show Ending.returned (.string (s.extract k s.size)) = _
      rw [HF.out k hk HZ.out ?_]
      rw [List.getElem?_eq_none (by simp; omega)]
      simp

theorem val_take_succ {l : List UInt8} {k : Nat} {b : UInt8} (h : l[k]? = some b) : val (l.take (k + 1)) = val (l.take k) * 10 + (b.toNat - 48) := by
  rw [List.take_add_one, h]
  exact val_snoc _ _

theorem val_ge (a b : List UInt8) : val a ≤ val (a ++ b) := by
  refine snoc_ind (P := fun b => val a ≤ val (a ++ b)) ?_ ?_ b
  · rw [List.append_nil]; exact Nat.le_refl _
  · intro b c ih
    rw [← List.append_assoc, val_snoc]
    omega

theorem val_take_le (l : List UInt8) (k : Nat) : val (l.take k) ≤ val l := by
  have := val_ge (l.take k) (l.drop k)
  rwa [List.take_append_drop] at this

theorem sat_max {l : List UInt8} {k n : Nat} {b : UInt8} (h : l[k]? = some b) (hn : n = val (l.take k)) (hb : 48 ≤ b.toNat ∧ b.toNat ≤ 57) (hlt : (18446744073709551615 - ((b.toNat : Int) - 48)) / 10 < (n : Int)) :
    sat (val l) = 18446744073709551615 := by
  have h1 := val_take_succ h
  have h2 := val_take_le l (k + 1)
  apply sat_big
  show 18446744073709551615 ≤ _
  omega

set_option maxHeartbeats 400000 in
/-- decValue BY ITS CONTRACT, at a text of digits. -/
theorem dec_calls (s : ByteArray) (hs : s.size ≤ 1048577) (hd : allDig s.data.toList) (w : World) :
    Calls Try.prog 13 #[.string s] w fun e w' => e = .returned (.int .u64 (sat (val s.data.toList) : Int)) ∧ w' = w := by
  have HD : Hid (allDig s.data.toList) := hd
  clear hd
  go_enter Try.func13, Try.ntmps13
  go_wp2
  go_loop [3, 4] (fun v i => ∃ (k n : Nat), k ≤ s.size ∧ i = .int .i64 (k : Int) ∧ v = .int .u64 (n : Int) ∧ n ≤ 18446744073709551615 ∧ Hid (n = val (s.data.toList.take k))) (fun _ i => s.size - (intOf i).toNat)
  case atStart => exact ⟨0, 0, Nat.zero_le _, rfl, rfl, by omega, rfl⟩
  case round =>
    obtain ⟨k, n, hk, rfl, rfl, hn, HN⟩ := hrel
    by_cases hlt : k < s.size
    · have hb : 48 ≤ s[k].toNat ∧ s[k].toNat ≤ 57 := HD.out s[k] (by rw [List.mem_iff_getElem?]; exact ⟨k, getElem_data s k hlt⟩)
      go_wp2
      · have hq : (18446744073709551615 - ((s[k].toNat : Int) - 48)) / 10 < (n : Int) := by assumption
        have e := sat_max (getElem_data s k hlt) HN.out hb hq
        go_ret
        exact ⟨by rw [e]; rfl, rfl⟩
      · have hq : (n : Int) ≤ (18446744073709551615 - ((s[k].toNat : Int) - 48)) / 10 := by assumption
        have e : Hid (n * 10 + (s[k].toNat - 48) = val (s.data.toList.take (k + 1))) := by
          have h1 := val_take_succ (getElem_data s k hlt)
          rw [← HN.out] at h1
          exact h1.symm
        go_round
        case rel => exact ⟨k + 1, n * 10 + (s[k].toNat - 48), by omega, by go_num, by congr 1; omega, by omega, e⟩
        case measure => simp [intOf]; omega
    · have e : n = sat (val s.data.toList) := by
        have h1 := HN.out
        rw [List.take_of_length_le (by simp; omega)] at h1
        rw [← h1]
        exact (sat_of_le hn).symm
      have HE : Hid (n = sat (val s.data.toList)) := e
      clear e
      go_wp2
      go_ret
      exact ⟨by rw [← HE.out]; rfl, rfl⟩

/-- It answers a bool; where that is true, p holds; the world is as it was. -/
def Says (p : Prop) (w : World) (e : Ending) (w' : World) : Prop := ∃ b : Bool, e = .returned (.bool b) ∧ (b = true → p) ∧ w' = w

theorem says_no {p : Prop} {w : World} : Says p w (.returned (.bool false)) w := ⟨false, rfl, (fun h => absurd h (by decide)), rfl⟩

theorem allDig_take_succ {l : List UInt8} {k : Nat} {b : UInt8} (h : l[k]? = some b) (hd : allDig (l.take k)) (hb : 48 ≤ b.toNat ∧ b.toNat ≤ 57) : allDig (l.take (k + 1)) := by
  rw [List.take_add_one, h]
  refine allDig_append.2 ⟨hd, fun x hx => ?_⟩
  simp at hx
  subst hx
  exact hb

set_option maxHeartbeats 800000 in
/-- wellFormed BY ITS CONTRACT: where it answers true, the text is well formed. -/
theorem wf_calls (s : ByteArray) (hs : s.size ≤ 1048576) (v : Nat) (w : World) :
    Calls Try.prog 8 #[.string s, .int .u64 (v : Int)] w fun e w' => Says (WF s.data.toList v) w e w' := by
  go_enter Try.func8, Try.ntmps8
  go_wp2
  go_loop [5] (fun i => ∃ k : Nat, k ≤ s.size ∧ i = .int .i64 (k : Int) ∧ Hid (allDig (s.data.toList.take k))) (fun i => s.size - (intOf i).toNat)
  case atStart => exact ⟨0, Nat.zero_le _, rfl, allDig_nil⟩
  case round =>
    obtain ⟨k, hk, rfl, HZ⟩ := hrel
    by_cases hlt : k < s.size
    · by_cases h1 : s[k].toNat < 48
      · go_wp2
        go_ret
        exact says_no
      · by_cases h2 : 57 < s[k].toNat
        · go_wp2
          go_ret
          exact says_no
        · have e : Hid (allDig (s.data.toList.take (k + 1))) := allDig_take_succ (getElem_data s k hlt) HZ.out ⟨by omega, by omega⟩
          go_wp2
          go_round
          case rel => exact ⟨k + 1, by omega, by go_num, e⟩
          case measure => simp [intOf]; omega
    · have hd : Hid (allDig s.data.toList) := by
        have := HZ.out
        rwa [List.take_of_length_le (by simp; omega)] at this
      go_wp2_with fail
      · go_ret
        exact says_no
      · have h0 : 0 < s.size := by assumption
        have hz : ((s[0].toNat : Int) == 48) = false := by assumption
        refine (dec_calls s (by omega) hd.out _).mono ?_
        rintro e w1 ⟨rfl, rfl⟩
        go_wp2
        go_ret
        refine ⟨_, rfl, fun h => ⟨hd.out, ?_, ?_⟩, rfl⟩
        · rintro ⟨_, h2⟩
          rw [getElem_data s 0 h0] at h2
          rw [Option.some.inj h2] at hz
          cases hz
        · have := beq_iff_eq.1 h
          omega
      · have h1 : (s.size : Int) ≤ 1 := by assumption
        refine (dec_calls s (by omega) hd.out _).mono ?_
        rintro e w1 ⟨rfl, rfl⟩
        go_wp2
        go_ret
        refine ⟨_, rfl, fun h => ⟨hd.out, ?_, ?_⟩, rfl⟩
        · rintro ⟨h2, _⟩
          simp at h2
          omega
        · have := beq_iff_eq.1 h
          omega
end Go.Proofs.Qxb6608604a.Walks
