/-
  incDigits (function 11) BY ITS CONTRACT: three loops over rows of bytes that the call makes.
-/
import Derived.Test.Qxb6608604aReads
import Derived.Deep.OwnRows
import Derived.Laws.IdiomStrings
namespace Go.Proofs.Qxb6608604a.Walks
open Go.RowKit Plain

/-- THE BLOCK B HOLDS THE BYTES xs. -/
def RowIs (w : World) (B : Nat) (xs : List UInt8) : Prop := ∀ j v, xs[j]? = some v → w.cell? ⟨B, j, none⟩ = some (.int .u8 (v.toNat : Int))

theorem rowIs_set {w : World} {B k : Nat} {xs : List UInt8} (h : RowIs w B xs) (hk : k < xs.length) (b : UInt8) : RowIs (w.setCell ⟨B, k, none⟩ (.int .u8 (b.toNat : Int))) B (xs.set k b) := by
  intro j v hj
  by_cases e : j = k
  · subst e
    rw [List.getElem?_set_self hk] at hj
    cases hj
    exact World.cell?_setCell_same _ _ _ (h j xs[j] (List.getElem?_eq_getElem hk))
  · rw [List.getElem?_set_ne (Ne.symm e)] at hj
    rw [World.cell?_setCell_other _ _ _ _ (by intro h2; injection h2 with _ h3; exact e h3.symm)]
    exact h j v hj

theorem rowIs_other {w : World} {B : Nat} {xs : List UInt8} (h : RowIs w B xs) {a : Addr} (hb : a.block ≠ B) (v : Value) : RowIs (w.setCell a v) B xs := by
  intro j x hj
  rw [World.cell?_setCell_other _ _ _ _ (by intro h2; subst h2; exact hb rfl)]
  exact h j x hj

theorem rowIs_made (w : World) (n : Nat) : RowIs (w.alloc (.cells (madeCells #[.int .u8 0] n) 5)) w.heap.size (List.replicate n 0) := by
  intro j v hj
  rw [List.getElem?_replicate] at hj
  by_cases h : j < n
  · rw [if_pos h] at hj
    cases hj
    rw [World.cell?_alloc_new]
    have h2 : j < (madeCells #[Value.int .u8 0] n).size := by rw [size_madeCells]; exact h
    rw [Array.getElem?_eq_getElem h2]
    simp [madeCells, Nat.mod_one]
  · rw [if_neg h] at hj; cases hj

theorem info5 : (Try.prog.info? 5).map (fun i => (i.zero, i.size, i.bytes)) = some (some (.int .u8 0), 1, 1) := by kernel_rfl

/-- 'make([]byte, n)' -/
theorem run_made (n : Nat) (hn : n ≤ 2097152) (w : World) : (Instr.makeSlice 39 (.int .i64 (n : Int)) (.int .i64 (n : Int))).run Try.prog w = .ok (.slice (some ⟨w.heap.size, 0, none⟩) n n) (w.alloc (.cells (madeCells #[.int .u8 0] n) 5)) :=
  run_make_row' 39 5 (.int .u8 0) 1 Try.underlying39 info5 rfl .i64 .i64 n (by omega) (by omega) w

theorem at_off (b o j : Nat) : (⟨b, o, none⟩ : Addr).add j = ⟨b, o + j, none⟩ := by
  by_cases h : j = 0 <;> simp [Addr.add, h]

/-- 'string(b)' -/
theorem run_text {w : World} {B : Nat} {xs : List UInt8} (h : RowIs w B xs) (n : Nat) (hn : xs.length = n) : (convert 39 9 (.slice (some ⟨B, 0, none⟩) n n)).run Try.prog w = .ok (.string ⟨xs.toArray⟩) w := by
  subst hn
  exact run_convert_bytes_back w 39 9 5 ⟨B, 0, none⟩ xs.length xs Try.underlying39 Try.underlying5 Try.underlying9 (fun j hj => by
    rw [at_off, Nat.zero_add]
    exact h j xs[j] (List.getElem?_eq_getElem hj))

theorem frozen_new {w wr : World} (h : Grown w wr) (j : Nat) : wr.frozen? ⟨w.heap.size, j, none⟩ = false := by
  rw [h.2.1]
  simp [World.frozen?]

theorem ext_of {xs L : List UInt8} (hl : xs.length = L.length) (h : ∀ j, j < L.length → xs[j]? = L[j]?) : xs = L := by
  apply List.ext_getElem? 
  intro j
  by_cases hj : j < L.length
  · exact h j hj
  · rw [List.getElem?_eq_none (by omega), List.getElem?_eq_none (by omega)]

/-- THE FIRST LOOP's RELATION: the first k bytes are copied. -/
def Copied (w : World) (L : List UInt8) (k : Nat) (wr : World) : Prop := ∃ xs : List UInt8, xs.length = L.length ∧ (∀ j, j < k → xs[j]? = L[j]?) ∧ RowIs wr w.heap.size xs ∧ Grown w wr

theorem copied_step {w wr : World} {L : List UInt8} {k : Nat} {b : UInt8} (h : Copied w L k wr) (hb : L[k]? = some b) : Copied w L (k + 1) (wr.setCell ⟨w.heap.size, k, none⟩ (.int .u8 (b.toNat : Int))) := by
  obtain ⟨xs, hl, hc, hr, hg⟩ := h
  have hk : k < L.length := (List.getElem?_eq_some_iff.1 hb).1
  refine ⟨xs.set k b, by simp [hl], fun j hj => ?_, rowIs_set hr (by omega) b, hg.setCell (Nat.le_refl _) _⟩
  by_cases e : j = k
  · subst e
    rw [List.getElem?_set_self (by omega), hb]
  · rw [List.getElem?_set_ne (Ne.symm e)]
    exact hc j (by omega)

theorem copied_cell {w wr : World} {L : List UInt8} {k : Nat} (h : Copied w L k wr) {j : Nat} (hj : j < L.length) : ∃ v, wr.cell? ⟨w.heap.size, j, none⟩ = some v := by
  obtain ⟨xs, hl, _, hr, _⟩ := h
  exact ⟨_, hr j xs[j] (List.getElem?_eq_getElem (by omega))⟩

theorem copied_all {w wr : World} {L : List UInt8} (h : Copied w L L.length wr) : RowIs wr w.heap.size L ∧ Grown w wr := by
  obtain ⟨xs, hl, hc, hr, hg⟩ := h
  rw [ext_of hl hc] at hr
  exact ⟨hr, hg⟩

/-- THE SECOND LOOP's: behind the first k bytes lie nines, turned to zeros. -/
def Turned (w : World) (L : List UInt8) (k : Nat) (wr : World) : Prop := k ≤ L.length ∧ L = L.take k ++ List.replicate (L.length - k) 57 ∧ RowIs wr w.heap.size (L.take k ++ List.replicate (L.length - k) 48) ∧ Grown w wr

theorem turned_step {w wr : World} {L : List UInt8} {k : Nat} (h : Turned w L (k + 1) wr) (hb : L[k]? = some 57) : Turned w L k (wr.setCell ⟨w.heap.size, k, none⟩ (.int .u8 48)) := by
  obtain ⟨hk, hL, hr, hg⟩ := h
  have e1 : L.take (k + 1) = L.take k ++ [57] := by rw [List.take_add_one, hb]; rfl
  have e2 : L.length - k = (L.length - (k + 1)) + 1 := by omega
  refine ⟨by omega, ?_, ?_, hg.setCell (Nat.le_refl _) _⟩
  · exact hL.trans (by rw [e1, e2, List.replicate_succ]; simp)
  · have := rowIs_set (k := k) hr (by simp; omega) 48
    rw [e1] at this
    have e3 : (L.take k ++ [57] ++ List.replicate (L.length - (k + 1)) 48).set k 48 = L.take k ++ List.replicate (L.length - k) 48 := by
      have hlen : (L.take k).length = k := by simp; omega
      rw [e2, List.replicate_succ, List.append_assoc, List.set_append, if_neg (by omega), hlen]
      simp
    rw [e3] at this
    exact this

theorem turned_cell {w wr : World} {L : List UInt8} {k : Nat} {b : UInt8} (h : Turned w L (k + 1) wr) (hb : L[k]? = some b) : wr.cell? ⟨w.heap.size, k, none⟩ = some (.int .u8 (b.toNat : Int)) := by
  obtain ⟨hk, _, hr, _⟩ := h
  apply hr k b
  rw [List.getElem?_append_left (by simp; omega), List.getElem?_take_of_lt (by omega), hb]

/-- Where a byte that is no nine stands at k: its successor there is the text plus one. -/
theorem turned_some {w wr : World} {L : List UInt8} {k : Nat} {b : UInt8} (h : Turned w L (k + 1) wr) (hb : L[k]? = some b) (hn : b ≠ 57) :
    RowIs (wr.setCell ⟨w.heap.size, k, none⟩ (.int .u8 ((b + 1).toNat : Int))) w.heap.size (incL L) ∧ (incL L).length = L.length := by
  obtain ⟨hk, hL, hr, hg⟩ := h
  have e1 : L.take (k + 1) = L.take k ++ [b] := by rw [List.take_add_one, hb]; rfl
  have e0 : L = L.take k ++ b :: List.replicate (L.length - (k + 1)) 57 := hL.trans (by rw [e1]; simp)
  have ei : incL L = L.take k ++ (b + 1) :: List.replicate (L.length - (k + 1)) 48 := (congrArg incL e0).trans (incL_some _ _ _ hn)
  have hlen : (L.take k).length = k := by simp; omega
  refine ⟨?_, ?_⟩
  · have := rowIs_set (k := k) hr (by simp; omega) (b + 1)
    rw [e1] at this
    have e3 : (L.take k ++ [b] ++ List.replicate (L.length - (k + 1)) 48).set k (b + 1) = incL L := by
      rw [ei, List.append_assoc, List.set_append, if_neg (by omega), hlen]
      simp
    rw [e3] at this
    exact this
  · rw [ei]; simp; omega

theorem turned_none {w wr : World} {L : List UInt8} (h : Turned w L 0 wr) : incL L = 49 :: List.replicate L.length 48 ∧ RowIs wr w.heap.size (List.replicate L.length 48) ∧ Grown w wr := by
  obtain ⟨_, hL, hr, hg⟩ := h
  simp only [List.take_zero, List.nil_append, Nat.sub_zero] at hL hr
  exact ⟨(congrArg incL hL).trans (incL_nines _), hr, hg⟩

/-- THE THIRD LOOP's: a 1, then k zeros. -/
def Led (w : World) (n B : Nat) (k : Nat) (wr : World) : Prop := ∃ ys : List UInt8, ys.length = n + 1 ∧ ys[0]? = some 49 ∧ (∀ j, j < k → ys[j + 1]? = some 48) ∧ RowIs wr B ys ∧ RowIs wr w.heap.size (List.replicate n 48) ∧ w.heap.size < B ∧ Grown w wr

theorem led_step {w wr : World} {n B k : Nat} (h : Led w n B k wr) (hk : k < n) : Led w n B (k + 1) (wr.setCell ⟨B, k + 1, none⟩ (.int .u8 48)) := by
  obtain ⟨ys, hl, h0, hc, hr, hz, hB, hg⟩ := h
  refine ⟨ys.set (k + 1) 48, by simp [hl], ?_, fun j hj => ?_, rowIs_set hr (by omega) 48, rowIs_other hz (by simp; omega) _, hB, hg.setCell (by simp; omega) _⟩
  · rw [List.getElem?_set_ne (by omega)]; exact h0
  · by_cases e : j = k
    · subst e
      rw [List.getElem?_set_self (by omega)]
    · rw [List.getElem?_set_ne (by omega)]
      exact hc j (by omega)

theorem led_all {w wr : World} {n B : Nat} (h : Led w n B n wr) : RowIs wr B (49 :: List.replicate n 48) := by
  obtain ⟨ys, hl, h0, hc, hr, _⟩ := h
  have e : ys = 49 :: List.replicate n 48 := by
    apply ext_of (by simp [hl])
    intro j hj
    match j, hj with
    | 0, _ => rw [h0]; rfl
    | j + 1, hj =>
      simp at hj
      rw [hc j hj, List.getElem?_cons_succ, List.getElem?_replicate, if_pos hj]
  rw [← e]
  exact hr

theorem lt_of_cell {w : World} {a : Addr} {v : Value} (h : w.cell? a = some v) : a.block < w.heap.size := by
  apply Classical.byContradiction
  intro hn
  have e : w.heap[a.block]? = none := by simp; omega
  simp [World.cell?, e] at h

theorem rowIs_alloc {w : World} {B : Nat} {xs : List UInt8} (h : RowIs w B xs) (hB : B < w.heap.size) (o : Obj) : RowIs (w.alloc o) B xs := by
  intro j v hj
  rw [World.cell?_alloc_old _ _ _ (by simp; omega)]
  exact h j v hj

theorem made_zero (n : Nat) : (madeCells #[Value.int .u8 0] (n + 1))[0]? = some (.int .u8 0) := by
  have h2 : 0 < (madeCells #[Value.int .u8 0] (n + 1)).size := by rw [size_madeCells]; omega
  rw [Array.getElem?_eq_getElem h2]
  simp [madeCells, Nat.mod_one]

/-- The third loop's start. -/
theorem led_start {w wr : World} {n : Nat} (hn : 0 < n) (hR : RowIs wr w.heap.size (List.replicate n 48)) (hG : Grown w wr) :
    Led w n wr.heap.size 0 (wr.alloc (.cells ((madeCells #[.int .u8 0] (n + 1)).setIfInBounds 0 (.int .u8 49)) 5)) := by
  have hlt : w.heap.size < wr.heap.size := lt_of_cell (hR 0 48 (by rw [List.getElem?_replicate, if_pos hn]))
  refine ⟨(List.replicate (n + 1) 0).set 0 49, by simp, by rw [List.replicate_succ]; rfl, fun j hj => absurd hj (Nat.not_lt_zero _), ?_, rowIs_alloc hR hlt _, hlt, hG.alloc _ _⟩
  intro j v hj
  have hj' : j < n + 1 := by have := (List.getElem?_eq_some_iff.1 hj).1; simpa using this
  rw [World.cell?_alloc_new, Array.getElem?_setIfInBounds]
  by_cases e : j = 0
  · subst e
    rw [List.getElem?_set_self (by simp)] at hj
    cases hj
    simp [size_madeCells]
  · rw [List.getElem?_set_ne (by omega), List.getElem?_replicate, if_pos hj'] at hj
    cases hj
    rw [if_neg (by omega)]
    have h2 : j < (madeCells #[Value.int .u8 0] (n + 1)).size := by rw [size_madeCells]; exact hj'
    rw [Array.getElem?_eq_getElem h2]
    simp [madeCells, Nat.mod_one]

theorem led_cells {w wr : World} {n B k : Nat} (h : Led w n B k wr) (hk : k < n) : wr.cell? ⟨w.heap.size, k, none⟩ = some (.int .u8 48) ∧ (∃ v, wr.cell? ⟨B, k + 1, none⟩ = some v) ∧ wr.frozen? ⟨B, k + 1, none⟩ = false ∧ ¬ w.heap.size = B := by
  obtain ⟨ys, hl, _, _, hr, hz, hB, hg⟩ := h
  refine ⟨hz k 48 (by rw [List.getElem?_replicate, if_pos hk]), ⟨_, hr (k + 1) ys[k + 1] (List.getElem?_eq_getElem (by omega))⟩, ?_, by omega⟩
  rw [hg.2.1]
  have e : w.heap[B]? = none := by simp; omega
  simp [World.frozen?, e]

set_option maxHeartbeats 1600000 in
theorem inc_some (s : ByteArray) (hs : s.size ≤ 1048576) (hd : allDig s.data.toList) (he : s.toList.isEmpty = false) (w : World) :
    Calls Try.prog 11 #[.string s] w fun e w' => e = .returned (.string ⟨(incL s.data.toList).toArray⟩) ∧ Grown w w' := by
  have hlen : Hid (s.data.toList.length = s.size) := by show s.data.toList.length = s.size; simp
  have HD : Hid (allDig s.data.toList) := hd
  have hmk := run_made s.size (by omega)
  have hmk2 : ∀ wx, (Instr.makeSlice 39 (.int .i64 ((s.size : Int) + 1)) (.int .i64 ((s.size : Int) + 1))).run Try.prog wx = .ok (.slice (some ⟨wx.heap.size, 0, none⟩) (s.size + 1) (s.size + 1)) (wx.alloc (.cells (madeCells #[.int .u8 0] (s.size + 1)) 5)) := fun wx => run_made (s.size + 1) (by omega) wx
  clear hd
  go_enter Try.func11, Try.ntmps11
  go_wp2
  clear hmk
  go_loopw [4] (fun i wr => ∃ k : Nat, k ≤ s.size ∧ i = .int .i64 (k : Int) ∧ Copied w s.data.toList k wr) (fun i _ => s.size - (intOf i).toNat)
  case atStart =>
    refine ⟨0, Nat.zero_le _, rfl, List.replicate s.size 0, by simp, fun j hj => absurd hj (Nat.not_lt_zero _), rowIs_made w s.size, Grown.alloc (Grown.refl w) _ _⟩
  case round =>
    obtain ⟨k, hk, rfl, hC⟩ := hrel
    by_cases hlt : k < s.size
    · obtain ⟨v0, hv0⟩ := copied_cell hC (j := k) (by rw [hlen.out]; exact hlt)
      have hz0 : wr.frozen? ⟨w.heap.size, k, none⟩ = false := by obtain ⟨_, _, _, _, hg⟩ := hC; exact frozen_new hg k
      have HS := copied_step hC (getElem_data s k hlt)
      clear hmk2
      go_wp2
      go_roundw
      case rel => exact ⟨k + 1, by omega, by go_num, HS⟩
      case measure => simp [intOf]; omega
    · have hC2 : Copied w s.data.toList s.data.toList.length wr := by rw [hlen.out, show s.size = k by omega]; exact hC
      obtain ⟨hR, hG⟩ := copied_all hC2
      clear hC hC2
      go_wp2
      have HT : Turned w s.data.toList s.size wr := by
        refine ⟨by rw [hlen.out]; exact Nat.le_refl _, ?_, ?_, hG⟩
        · rw [hlen.out]; simp [List.take_of_length_le, hlen.out]
        · rw [hlen.out]; simpa [List.take_of_length_le, hlen.out] using hR
      clear hR hG
      go_loopw [5] (fun i wq => ∃ (k : Nat) (t : Int), i = .int .i64 t ∧ t + 1 = (k : Int) ∧ k ≤ s.size ∧ Turned w s.data.toList k wq) (fun i _ => (intOf i + 1).toNat)
      case atStart => exact ⟨s.size, (s.size : Int) - 1, rfl, by omega, Nat.le_refl _, HT⟩
      case round =>
        clear HT
        obtain ⟨q, t, rfl, ht, hq, HT⟩ := hrel
        match q, ht, hq, HT with
        | 0, ht, hq, HT =>
          obtain rfl : t = -1 := by omega
          obtain ⟨HI, hR, hG⟩ := turned_none HT
          rw [hlen.out] at HI hR
          have HJ : Hid (incL s.data.toList = 49 :: List.replicate s.size 48) := HI
          have hpos : 0 < s.size := by
            apply Classical.byContradiction
            intro hn
            rw [ByteArray.toList_eq] at he
            have e0 : s.data.toList = [] := List.eq_nil_of_length_eq_zero (by rw [hlen.out]; omega)
            rw [e0] at he
            cases he
          have hm0 := made_zero s.size
          have HL := led_start hpos hR hG
          clear HI HT hR hG
          go_wp2
          clear hmk2 hm0
          go_loopw [7] (fun i wq => ∃ m : Nat, m ≤ s.size ∧ i = .int .i64 (m : Int) ∧ Led w s.size wr.heap.size m wq) (fun i _ => s.size - (intOf i).toNat)
          case atStart => exact ⟨0, Nat.zero_le _, rfl, HL⟩
          case round =>
            clear HL
            obtain ⟨m, hm, rfl, HL⟩ := hrel
            by_cases hlt3 : m < s.size
            · obtain ⟨hc1, ⟨v1, hc2⟩, hz1, hne⟩ := led_cells HL hlt3
              have HS := led_step HL hlt3
              clear HL
              go_wp2
              go_roundw
              case rel => exact ⟨m + 1, by omega, by go_num, HS⟩
              case measure => simp [intOf]; omega
            · obtain rfl : m = s.size := by omega
              have hG : Hid (Grown w wr) := by obtain ⟨_, _, _, _, _, _, _, hg⟩ := HL; exact hg
              have hcv := run_text (led_all HL) (s.size + 1) (by simp)
              clear HL
              go_wp2
              go_ret
              exact ⟨by rw [HJ.out]; rfl, hG.out⟩
        | q + 1, ht, hq, HT =>
          obtain rfl : t = (q : Int) := by omega
          have hqs : q < s.size := by omega
          have hcell := turned_cell HT (getElem_data s q hqs)
          have hz0 : wr.frozen? ⟨w.heap.size, q, none⟩ = false := frozen_new HT.2.2.2 q
          have hb : 48 ≤ s[q].toNat ∧ s[q].toNat ≤ 57 := HD.out s[q] (by rw [List.mem_iff_getElem?]; exact ⟨q, getElem_data s q hqs⟩)
          cases h9 : ((s[q].toNat : Int) == 57) with
          | true =>
            have HS := turned_step HT (by rw [getElem_data s q hqs, byte_eq (n := 57) (by decide) h9]; rfl)
            clear HT hmk2
            go_wp2
            go_roundw
            case rel => exact ⟨q, (q : Int) - 1, rfl, by omega, by omega, HS⟩
            case measure => simp [intOf]
          | false =>
            have hn : s[q] ≠ 57 := by
              intro e
              rw [e] at h9
              exact absurd h9 (by decide)
            obtain ⟨hR, hL⟩ := turned_some HT (getElem_data s q hqs) hn
            rw [toNat_add_one (by omega)] at hR
            have HG : Hid (Grown w (wr.setCell ⟨w.heap.size, q, none⟩ (.int .u8 ((s[q].toNat : Int) + 1)))) := HT.2.2.2.setCell (Nat.le_refl _) _
            have hcv := run_text hR s.size (by rw [hL, hlen.out])
            have e1 : ((s[q].toNat + 1 : Nat) : Int) = (s[q].toNat : Int) + 1 := by omega
            rw [e1] at hcv
            clear HT hmk2 hR hL e1 hn
            go_wp2
            go_ret
            exact ⟨rfl, HG.out⟩

theorem data_nil {s : ByteArray} (h : s.toList.isEmpty = true) : s.data.toList = [] := by
  rw [ByteArray.toList_eq] at h
  simpa using h

set_option maxHeartbeats 400000 in
/-- incDigits BY ITS CONTRACT, at a text of digits: the text plus one. -/
theorem inc_calls (s : ByteArray) (hs : s.size ≤ 1048576) (hd : allDig s.data.toList) (w : World) :
    Calls Try.prog 11 #[.string s] w fun e w' => e = .returned (.string ⟨(incL s.data.toList).toArray⟩) ∧ Grown w w' := by
  cases he : s.toList.isEmpty with
  | false => exact inc_some s hs hd he w
  | true =>
    have HE : Hid (s.data.toList = []) := data_nil he
    clear hd
    go_enter Try.func11, Try.ntmps11
    go_wp2
    go_ret
    exact ⟨by rw [HE.out]; rfl, Grown.refl _⟩
end Go.Proofs.Qxb6608604a.Walks
