/-
  THE PLAIN LAWS: no Go in sight. Decimal texts as lists of bytes: their value, their successor ('incL'), the comparison of two numeric parts, and what the two laws say of them.
-/
import Derived.Lib.ItoaNum
import Derived.Lib.Bytealg
namespace Go.Proofs.Qxb6608604a.Plain

def MAX : Nat := 18446744073709551615
/-- The value of a text of digits. -/
def val (l : List UInt8) : Nat := l.foldl (fun a b => a * 10 + (b.toNat - 48)) 0
def allDig (l : List UInt8) : Prop := ∀ b ∈ l, 48 ≤ b.toNat ∧ b.toNat ≤ 57
def sat (n : Nat) : Nat := if n ≤ MAX then n else MAX
/-- wellFormed, as the law's own function says it. -/
def WF (l : List UInt8) (v : Nat) : Prop := allDig l ∧ ¬ (1 < l.length ∧ l[0]? = some 48) ∧ v = sat (val l)

/-- Plus one, from the last digit on. -/
def incRev : List UInt8 → List UInt8
  | [] => [49]
  | c :: r => if c = 57 then 48 :: incRev r else (c + 1) :: r
/-- The decimal text plus one. -/
def incL (l : List UInt8) : List UInt8 := (incRev l.reverse).reverse

/-- Every text is nines alone, or ends in nines behind a byte that is none. -/
theorem nines (l : List UInt8) : (∃ n, l = List.replicate n 57) ∨ ∃ p c n, c ≠ 57 ∧ l = p ++ c :: List.replicate n 57 := by
  have h : ∀ r : List UInt8, (∃ n, r = List.replicate n 57) ∨ ∃ n c q, c ≠ 57 ∧ r = List.replicate n 57 ++ c :: q := by
    intro r
    induction r with
    | nil => exact Or.inl ⟨0, rfl⟩
    | cons b r ih =>
      by_cases hb : b = 57
      · subst hb
        rcases ih with ⟨n, hn⟩ | ⟨n, c, q, hc, hn⟩
        · exact Or.inl ⟨n + 1, by rw [hn, List.replicate_succ]⟩
        · exact Or.inr ⟨n + 1, c, q, hc, by rw [hn, List.replicate_succ]; rfl⟩
      · exact Or.inr ⟨0, b, r, hb, rfl⟩
  rcases h l.reverse with ⟨n, hn⟩ | ⟨n, c, q, hc, hn⟩
  · left
    refine ⟨n, ?_⟩
    have := congrArg List.reverse hn
    simpa using this
  · right
    refine ⟨q.reverse, c, n, hc, ?_⟩
    have := congrArg List.reverse hn
    simpa using this

theorem incRev_nines (n : Nat) : incRev (List.replicate n 57) = List.replicate n 48 ++ [49] := by
  induction n with
  | zero => rfl
  | succ n ih => rw [List.replicate_succ, incRev, if_pos rfl, ih, List.replicate_succ]; rfl

theorem incRev_some (n : Nat) (c : UInt8) (q : List UInt8) (hc : c ≠ 57) : incRev (List.replicate n 57 ++ c :: q) = List.replicate n 48 ++ (c + 1) :: q := by
  induction n with
  | zero => show incRev (c :: q) = _; rw [incRev, if_neg hc]; rfl
  | succ n ih => rw [List.replicate_succ, List.cons_append, incRev, if_pos rfl, ih, List.replicate_succ]; rfl

theorem incL_nines (n : Nat) : incL (List.replicate n 57) = 49 :: List.replicate n 48 := by
  unfold incL
  rw [List.reverse_replicate, incRev_nines]
  simp

theorem incL_some (p : List UInt8) (c : UInt8) (n : Nat) (hc : c ≠ 57) : incL (p ++ c :: List.replicate n 57) = p ++ (c + 1) :: List.replicate n 48 := by
  unfold incL
  have e : (p ++ c :: List.replicate n 57).reverse = List.replicate n 57 ++ c :: p.reverse := by simp
  rw [e, incRev_some _ _ _ hc]
  simp

/-! ### Values -/
theorem val_nil : val [] = 0 := rfl
theorem val_snoc (l : List UInt8) (b : UInt8) : val (l ++ [b]) = val l * 10 + (b.toNat - 48) := by
  unfold val
  rw [List.foldl_append]
  rfl

theorem allDig_nil : allDig [] := fun b hb => by cases hb
theorem allDig_append {a b : List UInt8} : allDig (a ++ b) ↔ allDig a ∧ allDig b := by
  unfold allDig
  constructor
  · exact fun h => ⟨fun x hx => h x (List.mem_append_left _ hx), fun x hx => h x (List.mem_append_right _ hx)⟩
  · rintro ⟨h1, h2⟩ x hx
    rcases List.mem_append.1 hx with h | h
    · exact h1 x h
    · exact h2 x h

theorem toNat_add_one {c : UInt8} (h : c.toNat < 255) : (c + 1).toNat = c.toNat + 1 := by
  rw [UInt8.toNat_add]
  show (c.toNat + 1) % 256 = _
  omega

theorem ne57 {c : UInt8} (h : c ≠ 57) : c.toNat ≠ 57 := fun e => h (UInt8.toNat_inj.1 e)

/-- Plus one: the digits stay digits, the value is one more. -/
theorem incRev_val (l : List UInt8) (h : allDig l) : allDig (incRev l) ∧ val (incRev l).reverse = val l.reverse + 1 := by
  induction l with
  | nil => exact ⟨fun b hb => by simp [incRev] at hb; subst hb; decide, rfl⟩
  | cons c r ih =>
    have hc := h c (List.mem_cons_self ..)
    have hr : allDig r := fun b hb => h b (List.mem_cons_of_mem _ hb)
    obtain ⟨h1, h2⟩ := ih hr
    unfold incRev
    by_cases e : c = 57
    · rw [if_pos e]
      subst e
      constructor
      · intro b hb
        rcases List.mem_cons.1 hb with rfl | hb
        · decide
        · exact h1 b hb
      · rw [List.reverse_cons, val_snoc, h2, List.reverse_cons, val_snoc]
        show (val r.reverse + 1) * 10 + (48 - 48) = val r.reverse * 10 + (57 - 48) + 1
        omega
    · rw [if_neg e]
      have := ne57 e
      have ec := toNat_add_one (c := c) (by omega)
      constructor
      · intro b hb
        rcases List.mem_cons.1 hb with rfl | hb
        · omega
        · exact hr b hb
      · rw [List.reverse_cons, val_snoc, List.reverse_cons, val_snoc, ec]
        omega

theorem allDig_reverse {l : List UInt8} : allDig l.reverse ↔ allDig l := by
  unfold allDig
  simp

theorem incL_dig {l : List UInt8} (h : allDig l) : allDig (incL l) := allDig_reverse.2 (incRev_val _ (allDig_reverse.2 h)).1
theorem incL_val {l : List UInt8} (h : allDig l) : val (incL l) = val l + 1 := by
  have := (incRev_val _ (allDig_reverse.2 h)).2
  rw [List.reverse_reverse] at this
  exact this

/-! ### A text without a leading zero is its value's numeral -/
def canon (l : List UInt8) : Prop := allDig l ∧ l ≠ [] ∧ l[0]? ≠ some 48

theorem snoc_ind {P : List UInt8 → Prop} (h0 : P []) (h1 : ∀ l b, P l → P (l ++ [b])) (l : List UInt8) : P l := by
  have : ∀ r : List UInt8, P r.reverse := by
    intro r
    induction r with
    | nil => exact h0
    | cons b r ih => rw [List.reverse_cons]; exact h1 _ _ ih
  have h := this l.reverse
  rwa [List.reverse_reverse] at h

theorem head_snoc (l : List UInt8) (b : UInt8) (hl : l ≠ []) : (l ++ [b])[0]? = l[0]? := by
  cases l with
  | nil => exact absurd rfl hl
  | cons c r => rfl

theorem canon_val (l : List UInt8) : canon l → 1 ≤ val l ∧ Lib.decDigits (val l) = l := by
  refine snoc_ind (P := fun l => canon l → 1 ≤ val l ∧ Lib.decDigits (val l) = l) ?_ ?_ l
  · exact fun h => absurd rfl h.2.1
  · intro l b ih h
    obtain ⟨hd, _, hz⟩ := h
    have hl := (allDig_append.1 hd).1
    have hb := (allDig_append.1 hd).2 b (by simp)
    rw [val_snoc]
    by_cases e : l = []
    · subst e
      have hb0 : b.toNat ≠ 48 := fun e => hz (by simp only [List.nil_append]; rw [show b = 48 from UInt8.toNat_inj.1 e]; rfl)
      rw [val_nil]
      refine ⟨by omega, ?_⟩
      rw [Lib.decDigits, dif_pos (by omega)]
      have : 48 + (0 * 10 + (b.toNat - 48)) = b.toNat := by omega
      rw [this]
      simp
    · rw [head_snoc l b e] at hz
      obtain ⟨h1, h2⟩ := ih ⟨hl, e, hz⟩
      refine ⟨by omega, ?_⟩
      rw [Lib.decDigits, dif_neg (by omega), show (val l * 10 + (b.toNat - 48)) / 10 = val l by omega, h2, show 48 + (val l * 10 + (b.toNat - 48)) % 10 = b.toNat by omega]
      simp

theorem canon_inj {a b : List UInt8} (ha : canon a) (hb : canon b) (h : val a = val b) : a = b := by
  rw [← (canon_val a ha).2, ← (canon_val b hb).2, h]

theorem canon_of_wf {l : List UInt8} {v : Nat} (h : WF l v) (hv : 1 ≤ val l) : canon l := by
  obtain ⟨hd, hz, _⟩ := h
  refine ⟨hd, fun e => ?_, fun e => ?_⟩
  · subst e; rw [val_nil] at hv; omega
  · match l, e with
    | [c], e =>
      simp at e
      subst e
      exact absurd hv (by decide)
    | c :: d :: r, e => exact hz ⟨by simp, e⟩

theorem incL_canon {l : List UInt8} {v : Nat} (h : WF l v) : canon (incL l) := by
  refine ⟨incL_dig h.1, ?_, ?_⟩
  · intro e
    have := incL_val h.1
    rw [e, val_nil] at this
    omega
  · rcases nines l with ⟨n, rfl⟩ | ⟨p, c, n, hc, rfl⟩
    · rw [incL_nines]; simp
    · rw [incL_some _ _ _ hc]
      have hcd := h.1 c (by simp)
      have := ne57 hc
      cases p with
      | nil =>
        simp only [List.nil_append, List.getElem?_cons_zero]
        intro e
        have e2 := congrArg UInt8.toNat (Option.some.inj e)
        rw [toNat_add_one (by omega)] at e2
        have : (48 : UInt8).toNat = 48 := rfl
        omega
      | cons b p =>
        intro e
        exact h.2.1 ⟨by simp; omega, by simpa using e⟩

theorem incL_wf {l : List UInt8} {v : Nat} (h : WF l v) : WF (incL l) (sat (val (incL l))) :=
  ⟨(incL_canon h).1, fun e => (incL_canon h).2.2 e.2, rfl⟩

theorem sat_lt {n : Nat} (h : sat n < MAX) : sat n = n := by
  unfold sat at h ⊢
  by_cases e : n ≤ MAX
  · rw [if_pos e]
  · rw [if_neg e] at h; omega

theorem sat_le (n : Nat) : sat n ≤ MAX := by
  unfold sat
  split <;> omega

theorem sat_of_le {n : Nat} (h : n ≤ MAX) : sat n = n := by unfold sat; rw [if_pos h]
theorem sat_big {n : Nat} (h : MAX ≤ n) : sat n = MAX := by
  unfold sat
  split <;> omega

/-! ### isNextOf -/
def nextB (d : List UInt8) (nv : Nat) (e : List UInt8) (ov : Nat) : Bool := if nv < MAX then decide (0 < nv ∧ ov = nv - 1) else decide (d = incL e)

/-- THE FIRST LAW. -/
theorem next_iff {d e : List UInt8} {nv ov : Nat} (hd : WF d nv) (he : WF e ov) : nextB d nv e ov = decide (d = incL e) := by
  unfold nextB
  by_cases h : nv < MAX
  · rw [if_pos h]
    have hnv : nv = val d := by rw [hd.2.2] at h ⊢; exact sat_lt h
    have hi := incL_val he.1
    rw [decide_eq_decide]
    constructor
    · rintro ⟨h1, h2⟩
      have hov : ov = val e := by rw [he.2.2] at h2 ⊢; exact sat_lt (by omega)
      exact canon_inj (canon_of_wf hd (by omega)) (incL_canon he) (by omega)
    · intro e1
      rw [← e1] at hi
      have hov : ov = val e := by rw [he.2.2]; exact sat_of_le (by omega)
      omega
  · rw [if_neg h]

/-! ### compare -/
def trim (l : List UInt8) : List UInt8 := l.dropWhile (· == 48)
def cmpNum (a b : List UInt8) : Int := if (trim a).length < (trim b).length then -1 else if (trim b).length < (trim a).length then 1 else Lib.compareBytes (trim a) (trim b)
def cmpI (d : List UInt8) (nv : Nat) (e : List UInt8) (ov : Nat) : Int := if nv < ov then -1 else if ov < nv then 1 else if nv = MAX then cmpNum d e else 0

theorem trim_canon {l : List UInt8} (h : canon l) : trim l = l := by
  obtain ⟨_, h1, h2⟩ := h
  cases l with
  | nil => exact absurd rfl h1
  | cons c r =>
    unfold trim
    rw [List.dropWhile_cons_of_neg]
    simpa using h2

theorem cmpB_refl (l : List UInt8) : Lib.compareBytes l l = 0 := by
  induction l with
  | nil => rfl
  | cons c r ih =>
    unfold Lib.compareBytes
    rw [if_neg (UInt8.lt_irrefl c), if_neg (UInt8.lt_irrefl c), ih]

theorem cmpB_zero : ∀ (a b : List UInt8), Lib.compareBytes a b = 0 → a = b
  | [], [], _ => rfl
  | [], _ :: _, h => by simp [Lib.compareBytes] at h
  | _ :: _, [], h => by simp [Lib.compareBytes] at h
  | a :: as, b :: bs, h => by
    unfold Lib.compareBytes at h
    by_cases h1 : a < b
    · rw [if_pos h1] at h; cases h
    · rw [if_neg h1] at h
      by_cases h2 : b < a
      · rw [if_pos h2] at h; cases h
      · rw [if_neg h2] at h
        rw [cmpB_zero as bs h, UInt8.le_antisymm (UInt8.not_lt.1 h2) (UInt8.not_lt.1 h1)]

theorem cmpB_above (p : List UInt8) (c c' : UInt8) (q q' : List UInt8) (h : c < c') : Lib.compareBytes (p ++ c' :: q') (p ++ c :: q) = 1 := by
  induction p with
  | nil =>
    show Lib.compareBytes (c' :: q') (c :: q) = 1
    unfold Lib.compareBytes
    rw [if_neg (UInt8.not_lt.2 (UInt8.le_of_lt h)), if_pos h]
  | cons b p ih =>
    show Lib.compareBytes (b :: (p ++ c' :: q')) (b :: (p ++ c :: q)) = 1
    unfold Lib.compareBytes
    rw [if_neg (UInt8.lt_irrefl b), if_neg (UInt8.lt_irrefl b), ih]

theorem cmpNum_zero {a b : List UInt8} (ha : canon a) (hb : canon b) : cmpNum a b = 0 ↔ a = b := by
  unfold cmpNum
  rw [trim_canon ha, trim_canon hb]
  constructor
  · intro h
    by_cases h1 : a.length < b.length
    · rw [if_pos h1] at h; cases h
    · rw [if_neg h1] at h
      by_cases h2 : b.length < a.length
      · rw [if_pos h2] at h; cases h
      · rw [if_neg h2] at h
        exact cmpB_zero a b h
  · rintro rfl
    rw [if_neg (Nat.lt_irrefl _), if_neg (Nat.lt_irrefl _)]
    exact cmpB_refl a

theorem cmpNum_inc {e : List UInt8} {v : Nat} (h : WF e v) (hv : 1 ≤ val e) : cmpNum (incL e) e = 1 := by
  unfold cmpNum
  rw [trim_canon (incL_canon h), trim_canon (canon_of_wf h hv)]
  rcases nines e with ⟨n, rfl⟩ | ⟨p, c, n, hc, rfl⟩
  · rw [incL_nines]
    simp
  · rw [incL_some _ _ _ hc]
    have hcd := h.1 c (by simp)
    have := ne57 hc
    have hl : (p ++ (c + 1) :: List.replicate n 48).length = (p ++ c :: List.replicate n 57).length := by simp
    rw [hl, if_neg (Nat.lt_irrefl _), if_neg (Nat.lt_irrefl _)]
    apply cmpB_above
    rw [UInt8.lt_iff_toNat_lt, toNat_add_one (by omega)]
    omega

/-- THE SECOND LAW's parts: o plus one is next of o .. -/
theorem law_next {e : List UInt8} {ov : Nat} (he : WF e ov) : nextB (incL e) (sat (val (incL e))) e ov = true := by
  rw [next_iff (incL_wf he) he]
  exact decide_eq_true rfl

/-- .. and compares above o .. -/
theorem law_above {e : List UInt8} {ov : Nat} (he : WF e ov) : cmpI (incL e) (sat (val (incL e))) e ov = 1 := by
  have hi := incL_val he.1
  have ho := he.2.2
  unfold cmpI
  by_cases h : val e < MAX
  · rw [sat_of_le (by omega), ho, sat_of_le (by omega), if_neg (by omega), if_pos (by omega)]
  · rw [sat_big (by omega), ho, sat_big (by omega), if_neg (by omega), if_neg (by omega), if_pos rfl]
    have : MAX = 18446744073709551615 := rfl
    exact cmpNum_inc he (by omega)

theorem inc_ne (e : List UInt8) : e ≠ incL e := by
  rcases nines e with ⟨n, rfl⟩ | ⟨p, c, n, hc, rfl⟩
  · rw [incL_nines]
    intro h
    have := congrArg List.length h
    simp at this
  · rw [incL_some _ _ _ hc]
    intro h
    have h2 := (List.append_cancel_left h)
    have h3 := congrArg UInt8.toNat (List.cons.inj h2).1
    rw [UInt8.toNat_add] at h3
    have : (1 : UInt8).toNat = 1 := rfl
    have := UInt8.toNat_lt c
    omega

/-- .. and o is not next of itself .. -/
theorem law_self (e : List UInt8) (ov : Nat) : nextB e ov e ov = false := by
  unfold nextB
  by_cases h : ov < MAX
  · rw [if_pos h, decide_eq_false_iff_not]; omega
  · rw [if_neg h, decide_eq_false_iff_not]; exact inc_ne e

/-- .. and any m is next of o exactly when m compares equal to o plus one. -/
theorem law_agree {m e : List UInt8} {mv ov : Nat} (hm : WF m mv) (he : WF e ov) : nextB m mv e ov = (cmpI m mv (incL e) (sat (val (incL e))) == 0) := by
  rw [next_iff hm he, Bool.eq_iff_iff, decide_eq_true_iff, beq_iff_eq]
  have hi := incL_wf he
  have hc := incL_canon he
  unfold cmpI
  constructor
  · rintro rfl
    have : mv = sat (val (incL e)) := hm.2.2
    rw [this, if_neg (Nat.lt_irrefl _), if_neg (Nat.lt_irrefl _)]
    by_cases h : sat (val (incL e)) = MAX
    · rw [if_pos h]; exact (cmpNum_zero hc hc).2 rfl
    · rw [if_neg h]
  · intro h
    by_cases h1 : mv < sat (val (incL e))
    · rw [if_pos h1] at h; cases h
    rw [if_neg h1] at h
    by_cases h2 : sat (val (incL e)) < mv
    · rw [if_pos h2] at h; cases h
    rw [if_neg h2] at h
    have hmv : mv = sat (val (incL e)) := by omega
    have hms : mv = sat (val m) := hm.2.2
    have h1e := (canon_val _ hc).1
    by_cases h3 : mv = MAX
    · rw [if_pos h3] at h
      have : MAX = 18446744073709551615 := rfl
      have hv : 1 ≤ val m := by
        apply Classical.byContradiction
        intro hn
        rw [show val m = 0 by omega] at hms
        have : sat 0 = 0 := rfl
        omega
      exact (cmpNum_zero (canon_of_wf hm hv) hc).1 h
    · have hlt : mv < MAX := by have := sat_le (val m); omega
      have e1 : mv = val m := by rw [hms] at hlt ⊢; exact sat_lt hlt
      have e2 : mv = val (incL e) := by rw [hmv] at hlt ⊢; exact sat_lt hlt
      exact canon_inj (canon_of_wf hm (by omega)) hc (by omega)
end Go.Proofs.Qxb6608604a.Plain
