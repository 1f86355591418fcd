/-
  zzItoa (function 7) BY ITS CONTRACT: the decimal numeral of every int, laid from the end of a [24]byte, as 'Lib.itoa' has it.
-/
import Derived.Test.Qxb6608869aFmtFacts
import Derived.WalkKit
import Derived.WalkSpells
import Derived.WalkLawsBesides
import Derived.OpenShut
import Derived.Lib.ItoaNum
import Derived.Lib.ItoaLen
import Derived.Laws.IdiomStrings
namespace Go.Proofs.Qxb6608869aFmt.Fault
open Go.RowKit Go.Extern.Stop Go.Stop Go.Extern

/-- The digits of a number that is not 0; of 0 none. -/
def dig (m : Nat) : List UInt8 := if m = 0 then [] else Lib.decDigits m

theorem dig_zero : dig 0 = [] := rfl
theorem dig_pos {m : Nat} (h : 0 < m) : dig m = Lib.decDigits m := by unfold dig; rw [if_neg (by omega)]
theorem dig_step {m : Nat} (h : 0 < m) : dig m = dig (m / 10) ++ [UInt8.ofNat (48 + m % 10)] := by
  rw [dig_pos h, Lib.decDigits]
  by_cases h10 : m < 10
  · rw [dif_pos h10, show m / 10 = 0 by omega, dig_zero, Nat.mod_eq_of_lt h10]
    rfl
  · rw [dif_neg h10, dig_pos (by omega)]

theorem dig_length (m : Nat) : dig m = [] ∨ (dig m).length = Lib.nDigits m := by
  by_cases h : m = 0
  · subst h; exact Or.inl rfl
  · right
    rw [dig_pos (by omega), Lib.decDigits_length]

theorem dig_le {N : Nat} (h : N < 18446744073709551616) : (dig N).length ≤ 20 := by
  rcases dig_length N with e | e
  · rw [e]; simp
  · rw [e]
    apply Classical.byContradiction
    intro hn
    have hk : 10 ^ 20 ≤ N := by
      have h1 : ∀ k u : Nat, k < Lib.nDigits u → 1 ≤ k → 10 ^ k ≤ u := by
        intro k
        induction k with
        | zero => intro u _ h; omega
        | succ k ih =>
          intro u hu _
          by_cases h10 : u < 10
          · rw [Lib.nDigits_small h10] at hu; omega
          · rw [Lib.nDigits_big h10] at hu
            rcases Nat.eq_zero_or_pos k with hk | hk
            · subst hk; omega
            · have := ih (u / 10) (by omega) hk
              rw [Nat.pow_succ]; omega
      exact h1 20 N (by omega) (by decide)
    omega

/-- WHAT HOLDS AT THE LOOP's HEAD: the number that is left, the place, the digits that lie from that place on. -/
def Rel (w : World) (N : Nat) (u i : Value) (wr : World) : Prop :=
  ∃ (m k : Nat) (xs : List UInt8), u = .int .u64 (m : Int) ∧ i = .int .i64 (k : Int) ∧ m < 18446744073709551616 ∧ k + xs.length = 24 ∧ (dig m).length + 4 ≤ k ∧ dig N = dig m ++ xs ∧
    (∀ j v, xs[j]? = some v → wr.cell? ⟨w.heap.size, k + j, none⟩ = some (.int .u8 (v.toNat : Int))) ∧
    (∀ j, j < 24 → ∃ v, wr.cell? ⟨w.heap.size, j, none⟩ = some v) ∧ Grown w wr ∧ Hid (wr.tape = w.tape)

theorem frozen_new {w wr : World} (h : Grown w wr) (j : Nat) : wr.frozen? ⟨w.heap.size, j, none⟩ = false := by
  rw [h.2.1]
  simp [World.frozen?]

/-- A byte laid ahead of the row. -/
theorem cells_ahead {wr : World} {B k : Nat} {xs : List UInt8} {b : UInt8} (hc : ∀ j v, xs[j]? = some v → wr.cell? ⟨B, k + 1 + j, none⟩ = some (.int .u8 (v.toNat : Int)))
    (ho : ∃ v, wr.cell? ⟨B, k, none⟩ = some v) :
    ∀ j v, (b :: xs)[j]? = some v → (wr.setCell ⟨B, k, none⟩ (.int .u8 (b.toNat : Int))).cell? ⟨B, k + j, none⟩ = some (.int .u8 (v.toNat : Int)) := by
  intro j v hj
  match j, hj with
  | 0, hj =>
    obtain ⟨v0, h0⟩ := ho
    simp at hj
    subst hj
    exact World.cell?_setCell_same _ _ _ h0
  | j + 1, hj =>
    rw [World.cell?_setCell_other _ _ _ _ (by simp)]
    have := hc j v (by simpa using hj)
    rwa [show k + (j + 1) = k + 1 + j by omega]

theorem cells_some {wr : World} {B k : Nat} {b : Value} (h : ∀ j, j < 24 → ∃ v, wr.cell? ⟨B, j, none⟩ = some v) :
    ∀ j, j < 24 → ∃ v, (wr.setCell ⟨B, k, none⟩ b).cell? ⟨B, j, none⟩ = some v := by
  intro j hj
  obtain ⟨v, hv⟩ := h j hj
  by_cases e : j = k
  · subst e
    exact ⟨b, World.cell?_setCell_same _ _ _ hv⟩
  · exact ⟨v, by rw [World.cell?_setCell_other _ _ _ _ (by intro h2; injection h2 with _ h3; exact e h3.symm)]; exact hv⟩



theorem at_off (b o j : Nat) : (⟨b, o, none⟩ : Addr).add j = ⟨b, o + j, none⟩ := by
  by_cases h : j = 0 <;> simp [Addr.add, h]

theorem arr34 : Tryf.prog.arrayLen 34 = 24 := by kernel_rfl
theorem und34 : Tryf.prog.underlying 34 = some (.array (Tryf.prog.arrayLen 34) (Tryf.prog.elem 34)) := by kernel_rfl
theorem size5 (w : World) : (sizeOf (Tryf.prog.elem 34)).run Tryf.prog w = .ok 1 w := by kernel_rfl

/-- 'buf[k:]' -/
theorem slice_from (B k n : Nat) (hn : 0 < n) (hk : k + n = 24) (w : World) :
    (Instr.sliceAt 34 (.pointer (some ⟨B, 0, none⟩)) (some (.int .i64 (k : Int))) none none).run Tryf.prog w = .ok (.slice (some ⟨B, k, none⟩) n n) w := by
  rw [run_sliceAt_array_l w 34 ⟨B, 0, none⟩ und34 .i64 (k : Int) (by omega) (by rw [arr34]; omega), size5]
  show Result.ok (slicedAt ⟨B, 0, none⟩ (k : Int).toNat (Tryf.prog.arrayLen 34) (Tryf.prog.arrayLen 34) 1) w = _
  unfold slicedAt
  rw [arr34, if_neg (by omega), at_off, Int.toNat_natCast, show 24 - k = n by omega, show 0 + k * 1 = k by omega]

/-- 'string(buf[k:])' -/
theorem text_from (B k n : Nat) (xs : List UInt8) (hn : xs.length = n) (wr : World) (hc : ∀ j v, xs[j]? = some v → wr.cell? ⟨B, k + j, none⟩ = some (.int .u8 (v.toNat : Int))) :
    (convert 35 9 (.slice (some ⟨B, k, none⟩) n n)).run Tryf.prog wr = .ok (.string ⟨xs.toArray⟩) wr := by
  subst hn
  exact run_convert_bytes_back wr 35 9 5 ⟨B, k, none⟩ xs.length xs Tryf.underlying35 Tryf.underlying5 Tryf.underlying9 (fun j hj => by
    rw [at_off]
    exact hc j xs[j] (List.getElem?_eq_getElem hj))

theorem rel_start (w : World) (N : Nat) (hb : N < 18446744073709551616) (xs : Array Value) (hx : xs.size = 24) :
    Rel w N (.int .u64 (N : Int)) (.int .i64 24) (w.alloc (.cells xs 34)) := by
  refine ⟨N, 24, [], rfl, rfl, hb, rfl, ?_, by simp, fun j v hj => by simp at hj, ?_, Grown.alloc (Grown.refl w) _ _, rfl⟩
  · have := dig_le hb; omega
  · intro j hj
    exact ⟨xs[j], by rw [World.cell?_alloc_new]; exact Array.getElem?_eq_getElem (by omega)⟩

theorem digit_nat (m : Nat) : ((UInt8.ofNat (48 + m % 10)).toNat : Int) = 48 + (m : Int) % 10 := by
  rw [UInt8.toNat_ofNat']
  omega

theorem rel_round {w wr : World} {N m k : Nat} {xs : List UInt8} (hm0 : 0 < m) (hm : m < 18446744073709551616) (hk : k + xs.length = 24) (hl : (dig m).length + 4 ≤ k) (hd : dig N = dig m ++ xs)
    (hc : ∀ j v, xs[j]? = some v → wr.cell? ⟨w.heap.size, k + j, none⟩ = some (.int .u8 (v.toNat : Int)))
    (hs : ∀ j, j < 24 → ∃ v, wr.cell? ⟨w.heap.size, j, none⟩ = some v) (hg : Grown w wr) (ht : Hid (wr.tape = w.tape)) :
    Rel w N (.int .u64 ((m : Int) / 10)) (.int .i64 ((k : Int) - 1)) (wr.setCell ⟨w.heap.size, k - 1, none⟩ (.int .u8 (48 + (m : Int) % 10))) := by
  have e := dig_step hm0
  have el : (dig m).length = (dig (m / 10)).length + 1 := by rw [e]; simp
  obtain ⟨q, rfl⟩ : ∃ q, k = q + 1 := ⟨k - 1, by omega⟩
  refine ⟨m / 10, q, UInt8.ofNat (48 + m % 10) :: xs, ?_, ?_, by omega, by simp; omega, by omega, ?_, ?_, cells_some hs, hg.setCell (Nat.le_refl _) _, ht⟩
  · congr 1
  · congr 1; omega
  · rw [hd, e]; simp
  · have := cells_ahead (b := UInt8.ofNat (48 + m % 10)) (k := q) hc (hs q (by omega))
    rw [digit_nat] at this
    exact this

set_option maxHeartbeats 800000 in
theorem itoa_pos (N : Nat) (hN : 0 < N) (hb : N ≤ 9223372036854775807) (w : World) :
    Calls Tryf.prog 7 #[.int .i64 (N : Int)] w fun e w' => e = .returned (.string ⟨(dig N).toArray⟩) ∧ Grown w w' ∧ w'.tape = w.tape := by
  have h0 : ((N : Int) == 0) = false := by simp; omega
  have h1 : decide ((N : Int) < 0) = false := by simp
  have h2 : ¬ (N : Int) < 0 := by omega
  go_enter Tryf.func7, Tryf.ntmps7
  go_wp2
  go_loopw [4, 6] (fun u i wr => Rel w N u i wr) (fun u _ _ => (intOf u).toNat)
  case atStart => exact rel_start w N (by omega) _ rfl
  case round =>
    obtain ⟨m, k, xs, rfl, rfl, hm, hk, hl, hd, hc, hs, hg, ht⟩ := hrel
    have HR : Hid (0 < m → Rel w N (.int .u64 ((m : Int) / 10)) (.int .i64 ((k : Int) - 1)) (wr.setCell ⟨w.heap.size, k - 1, none⟩ (.int .u8 (48 + (m : Int) % 10)))) := fun h => rel_round h hm hk hl hd hc hs hg ht
    have HD : Hid (dig N = dig m ++ xs) := hd
    obtain ⟨v0, hv0⟩ := hs (k - 1) (by omega)
    have hz0 := frozen_new hg (k - 1)
    have hsl : 0 < xs.length → ∀ wx, (Instr.sliceAt 34 (.pointer (some ⟨w.heap.size, 0, none⟩)) (some (.int .i64 (k : Int))) none none).run Tryf.prog wx = .ok (.slice (some ⟨w.heap.size, k, none⟩) xs.length xs.length) wx := fun h wx => slice_from _ _ _ h hk wx
    have hcv := text_from w.heap.size k xs.length xs rfl wr hc
    clear hd hc hs
    have hp : ¬ 0 < m → 0 < xs.length := by
      intro hm0
      have e := HD.out
      rw [show m = 0 by omega, dig_zero, dig_pos hN] at e
      simp at e
      rw [← e]
      have := Lib.nDigits_pos N
      rw [Lib.decDigits_length]
      omega
    by_cases hm0 : 0 < m
    · clear hp hsl hcv
      go_wp2
      go_roundw
      case rel => exact HR.out hm0
      case measure => simp [intOf]; omega
    · have hsl1 := hsl (hp hm0)
      clear hsl hp
      go_wp2
      go_ret
      have e := HD.out
      rw [show m = 0 by omega, dig_zero] at e
      exact ⟨by rw [e]; rfl, hg, ht.out⟩

set_option maxHeartbeats 800000 in
theorem itoa_neg (N : Nat) (hN : 0 < N) (hb : N ≤ 9223372036854775808) (w : World) :
    Calls Tryf.prog 7 #[.int .i64 (-(N : Int))] w fun e w' => e = .returned (.string ⟨(45 :: dig N).toArray⟩) ∧ Grown w w' ∧ w'.tape = w.tape := by
  have h0 : (-(N : Int) == 0) = false := by simp; omega
  have h1 : decide (-(N : Int) < 0) = true := by simp; omega
  have h2 : -(N : Int) < 0 := by omega
  go_enter Tryf.func7, Tryf.ntmps7
  go_wp2
  go_loopw [4, 6] (fun u i wr => Rel w N u i wr) (fun u _ _ => (intOf u).toNat)
  case atStart =>
    rw [show -(-(N : Int) + 1) + 1 = (N : Int) by omega]
    exact rel_start w N (by omega) _ rfl
  case round =>
    obtain ⟨m, k, xs, rfl, rfl, hm, hk, hl, hd, hc, hs, hg, ht⟩ := hrel
    have HR : Hid (0 < m → Rel w N (.int .u64 ((m : Int) / 10)) (.int .i64 ((k : Int) - 1)) (wr.setCell ⟨w.heap.size, k - 1, none⟩ (.int .u8 (48 + (m : Int) % 10)))) := fun h => rel_round h hm hk hl hd hc hs hg ht
    have HD : Hid (dig N = dig m ++ xs) := hd
    obtain ⟨v0, hv0⟩ := hs (k - 1) (by omega)
    have hz0 := frozen_new hg (k - 1)
    by_cases hm0 : 0 < m
    · clear hd hc hs
      go_wp2
      go_roundw
      case rel => exact HR.out hm0
      case measure => simp [intOf]; omega
    · have e := HD.out
      rw [show m = 0 by omega, dig_zero, List.nil_append] at e
      have HE : Hid (dig N = xs) := e
      have hsl : ∀ wx, (Instr.sliceAt 34 (.pointer (some ⟨w.heap.size, 0, none⟩)) (some (.int .i64 ((k : Int) - 1))) none none).run Tryf.prog wx = .ok (.slice (some ⟨w.heap.size, k - 1, none⟩) (xs.length + 1) (xs.length + 1)) wx := by
        intro wx
        rw [show (k : Int) - 1 = ((k - 1 : Nat) : Int) by omega]
        exact slice_from _ _ _ (by omega) (by omega) wx
      have hcv : (convert 35 9 (.slice (some ⟨w.heap.size, k - 1, none⟩) (xs.length + 1) (xs.length + 1))).run Tryf.prog (wr.setCell ⟨w.heap.size, k - 1, none⟩ (.int .u8 45)) = .ok (.string ⟨(45 :: xs).toArray⟩) (wr.setCell ⟨w.heap.size, k - 1, none⟩ (.int .u8 45)) := by
        refine text_from _ _ _ (45 :: xs) (by simp) _ ?_
        exact cells_ahead (b := 45) (by rw [show k - 1 + 1 = k by omega]; exact hc) (hs (k - 1) (by omega))
      have hg2 : Hid (Grown w (wr.setCell ⟨w.heap.size, k - 1, none⟩ (.int .u8 45))) := hg.setCell (Nat.le_refl _) _
      clear hd hc hs e HR HD
      go_wp2
      go_ret
      exact ⟨by rw [HE.out]; rfl, hg2.out, ht.out⟩

set_option maxHeartbeats 400000 in
theorem itoa_zero (w : World) : Calls Tryf.prog 7 #[.int .i64 0] w fun e w' => e = .returned (.string ⟨#[48]⟩) ∧ Grown w w' ∧ w'.tape = w.tape := by
  go_enter Tryf.func7, Tryf.ntmps7
  go_wp2
  go_ret
  exact ⟨rfl, Grown.refl _, rfl⟩

/-- zzItoa BY ITS CONTRACT: the decimal numeral, as strconv.Itoa's. -/
theorem itoa_calls (n : Int) (h0 : -9223372036854775808 ≤ n) (h1 : n ≤ 9223372036854775807) (w : World) :
    Calls Tryf.prog 7 #[.int .i64 n] w fun e w' => e = .returned (.string ⟨(Lib.itoa n).toArray⟩) ∧ Grown w w' ∧ w'.tape = w.tape := by
  rcases Int.lt_trichotomy n 0 with h | h | h
  · obtain ⟨N, rfl⟩ : ∃ N : Nat, n = -(N : Int) := ⟨n.natAbs, by omega⟩
    have e : Lib.itoa (-(N : Int)) = 45 :: dig N := by
      unfold Lib.itoa
      rw [if_pos h, dig_pos (by omega)]
      simp
    rw [e]
    exact itoa_neg N (by omega) (by omega) w
  · subst h
    have e : Lib.itoa 0 = [48] := by
      unfold Lib.itoa
      rw [if_neg (by omega), Lib.decDigits, dif_pos (by decide)]
      rfl
    rw [e]
    exact itoa_zero w
  · obtain ⟨N, rfl⟩ : ∃ N : Nat, n = (N : Int) := ⟨n.toNat, by omega⟩
    have e : Lib.itoa (N : Int) = dig N := by
      unfold Lib.itoa
      rw [if_neg (by omega), dig_pos (by omega)]
      simp
    rw [e]
    exact itoa_pos N (by omega) (by omega) w
end Go.Proofs.Qxb6608869aFmt.Fault
