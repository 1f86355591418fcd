/-
  THE WALKS FOR 'FnCheckAppraisalHangsOnEmptinessAlone' (function 4): the refusal by its contract (for every F), the bound on total length, the law.
-/
import Derived.Test.Qxb6608869aFmtFacts
import Derived.WalkKit
import Derived.WalkSpells
import Derived.WalkLawsBesides
namespace Go.Proofs.Qxb6608869aFmt.Appraisal
open Go.RowKit Go.Extern.Stop Go.Stop Go.Extern
attribute [local go_sem] Facts.guard Facts.call16 Facts.fmtE Facts.fmtEr Facts.op9_113w Facts.ptr37 Facts.elem37

set_option maxHeartbeats 400000 in
theorem refused_id (id ap : ByteArray) (w : World) (hi : id.toList.isEmpty = true) :
    Calls Tryf.prog 9 #[.string id, .string ap] w fun e w' => e = .returned (.bool true) ∧ Grown w w' ∧ w'.tape = w.tape := by
  go_enter Tryf.func9, Tryf.ntmps9
  go_wp2
  go_ret
  exact ⟨rfl, by repeat (first | exact Grown.refl _ | apply Grown.drew | apply Grown.alloc), rfl⟩

set_option maxHeartbeats 400000 in
theorem refused_ap (F : Interp) (id ap : ByteArray) (w : World) (hF : F.answers w.tape) (hi : id.toList.isEmpty = false) (ha : ap.toList.isEmpty = true) :
    Calls Tryf.prog 9 #[.string id, .string ap] w fun e w' => e = .returned (.bool true) ∧ Grown w w' ∧ w'.tape = w.tape := by
  have hF' := answers_open hF
  go_enter Tryf.func9, Tryf.ntmps9
  go_wp2
  go_ret
  exact ⟨rfl, by repeat (first | exact Grown.refl _ | apply Grown.drew | apply Grown.alloc), rfl⟩

set_option maxHeartbeats 400000 in
theorem refused_not (id ap : ByteArray) (w : World) (hi : id.toList.isEmpty = false) (ha : ap.toList.isEmpty = false) :
    Calls Tryf.prog 9 #[.string id, .string ap] w fun e w' => e = .returned (.bool false) ∧ Grown w w' ∧ w'.tape = w.tape := by
  go_enter Tryf.func9, Tryf.ntmps9
  go_wp2
  go_ret
  exact ⟨rfl, by repeat (first | exact Grown.refl _ | apply Grown.drew | apply Grown.alloc), rfl⟩

theorem refused (F : Interp) (id ap : ByteArray) (w : World) (hF : F.answers w.tape) :
    Calls Tryf.prog 9 #[.string id, .string ap] w fun e w' => e = .returned (.bool (id.toList.isEmpty || ap.toList.isEmpty)) ∧ Grown w w' ∧ w'.tape = w.tape := by
  cases hi : id.toList.isEmpty with
  | true => exact refused_id id ap w hi
  | false =>
    cases ha : ap.toList.isEmpty with
    | true => exact refused_ap F id ap w hF hi ha
    | false => exact refused_not id ap w hi ha

set_option maxHeartbeats 800000 in
theorem bytes_yes (a0 a1 a2 a3 : ByteArray) (h : a0.size + a1.size + a2.size + a3.size ≤ 1048576) (w : World) :
    Calls Tryf.prog 8 #[.string a0, .string a1, .string a2, .string a3] w fun e w' => e = .returned (.bool true) ∧ w' = w := by
  go_enter Tryf.func8, Tryf.ntmps8
  go_wp2
  go_ret
  exact ⟨rfl, rfl⟩

set_option maxHeartbeats 800000 in
theorem bytes_no (a0 a1 a2 a3 : ByteArray) (h : ¬ a0.size + a1.size + a2.size + a3.size ≤ 1048576) (w : World) :
    Calls Tryf.prog 8 #[.string a0, .string a1, .string a2, .string a3] w fun e w' => e = .returned (.bool false) ∧ w' = w := by
  go_enter Tryf.func8, Tryf.ntmps8
  go_wp2
  all_goals (go_ret; exact ⟨rfl, rfl⟩)

theorem grown_trans {a b c : World} (h : Grown a b) (g : Grown b c) : Grown a c :=
  ⟨World.keptBut_trans h.1 g.1, fun x => (g.2.1 x).trans (h.2.1 x), Nat.le_trans h.2.2 g.2.2⟩

set_option maxHeartbeats 1600000 in
theorem law_same (F : Interp) (b0 b1 : Bool) (a0 a1 a2 a3 : ByteArray) (w : World) (hF : F.answers w.tape) (h : a0.size + a1.size + a2.size + a3.size ≤ 1048576)
    (h0 : a0.toList.isEmpty = b0) (h1 : a1.toList.isEmpty = b1) (h2 : a2.toList.isEmpty = b0) (h3 : a3.toList.isEmpty = b1) :
    Calls Tryf.prog 4 #[.string a0, .string a1, .string a2, .string a3] w fun e w' => e = .returned (.bool true) ∧ Grown w w' := by
  cases b0 <;> cases b1
  all_goals
    go_enter Tryf.func4, Tryf.ntmps4
    go_wp2_with fail
    refine (bytes_yes a0 a1 a2 a3 h _).mono ?_
    rintro e w1 ⟨rfl, rfl⟩
    go_wp2_with fail
    refine (refused F a0 a1 _ hF).mono ?_
    rintro e w2 ⟨rfl, g2, t2⟩
    have hF2 : F.answers w2.tape := by rw [t2]; exact hF
    clear t2
    go_wp2_with fail
    refine (refused F a2 a3 _ hF2).mono ?_
    rintro e w3 ⟨rfl, g3, t3⟩
    clear t3
    go_wp2
    go_ret
    exact ⟨rfl, grown_trans g2 g3⟩

set_option maxHeartbeats 1600000 in
theorem law_apart (b0 b1 b2 b3 : Bool) (hb : (b0 != b2 || b1 != b3) = true) (a0 a1 a2 a3 : ByteArray) (w : World) (h : a0.size + a1.size + a2.size + a3.size ≤ 1048576)
    (h0 : a0.toList.isEmpty = b0) (h1 : a1.toList.isEmpty = b1) (h2 : a2.toList.isEmpty = b2) (h3 : a3.toList.isEmpty = b3) :
    Calls Tryf.prog 4 #[.string a0, .string a1, .string a2, .string a3] w fun e w' => e = .returned (.bool true) ∧ Grown w w' := by
  cases b0 <;> cases b1 <;> cases b2 <;> cases b3 <;> first | (exact absurd hb (by decide)) | skip
  all_goals
    clear hb
    go_enter Tryf.func4, Tryf.ntmps4
    go_wp2_with fail
    refine (bytes_yes a0 a1 a2 a3 h _).mono ?_
    rintro e w1 ⟨rfl, rfl⟩
    go_wp2
    go_ret
    exact ⟨rfl, Grown.refl _⟩

theorem law_long (a0 a1 a2 a3 : ByteArray) (w : World) (h : ¬ a0.size + a1.size + a2.size + a3.size ≤ 1048576) :
    Calls Tryf.prog 4 #[.string a0, .string a1, .string a2, .string a3] w fun e w' => e = .returned (.bool true) ∧ Grown w w' := by
  go_enter Tryf.func4, Tryf.ntmps4
  go_wp2_with fail
  refine (bytes_no a0 a1 a2 a3 h _).mono ?_
  rintro e w1 ⟨rfl, rfl⟩
  go_wp2
  go_ret
  exact ⟨rfl, Grown.refl _⟩

/-- THE LAW: it returns true, whatever the four strings. -/
theorem law (F : Interp) (a0 a1 a2 a3 : ByteArray) (w : World) (hF : F.answers w.tape) :
    Calls Tryf.prog 4 #[.string a0, .string a1, .string a2, .string a3] w fun e w' => e = .returned (.bool true) ∧ Grown w w' := by
  by_cases h : a0.size + a1.size + a2.size + a3.size ≤ 1048576
  · cases hb : (a0.toList.isEmpty != a2.toList.isEmpty || a1.toList.isEmpty != a3.toList.isEmpty) with
    | true => exact law_apart _ _ _ _ hb a0 a1 a2 a3 w h rfl rfl rfl rfl
    | false =>
      simp only [Bool.or_eq_false_iff, bne_eq_false_iff_eq] at hb
      exact law_same F _ _ a0 a1 a2 a3 w hF h rfl rfl hb.1.symm hb.2.symm
  · exact law_long a0 a1 a2 a3 w h
end Go.Proofs.Qxb6608869aFmt.Appraisal
