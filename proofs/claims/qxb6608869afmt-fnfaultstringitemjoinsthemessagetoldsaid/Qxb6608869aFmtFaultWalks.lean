/-
  THE WALKS FOR 'FnFaultStringItemJoinsTheMessage' (function 3): fmt.Sprintf's two texts by the told function's laws, ZZfaultString's two ways (for every F, then told), the bound on total length, the law.
-/
import Derived.Test.Qxb6608869aFmtItoa
import Derived.WalkKit
import Derived.WalkSpells
import Derived.WalkLawsBesides
import Derived.Stop.Texts
import Derived.Stop.FmtTextKit
import Derived.Stop.FmtTextVerbs
import Derived.Stop.Told
import Derived.Stop.JoinedAt
namespace Go.Proofs.Qxb6608869aFmt.Fault
open Go.RowKit Go.Kit Go.Extern.Stop Go.Stop Go.Extern
attribute [local go_sem] Facts.guard Facts.call13 Facts.fmtA Facts.fmtAr Facts.fmtB Facts.fmtBr Facts.op3_100 Facts.op9_115

/-- An error of errors.New's make as an operand of '%v': its type's name and its text. -/
theorem op_plain (name : String) (a : Addr) (s : ByteArray) (w : World) (hc : w.cell? a = some (.string s)) :
    (FmtStop.operand name false 118 false (.iface 37 (.pointer (some a)))).run Tryf.prog w = .ok (Facts.plain37, s.data.toList) w := by
  have h1 : (typeStr 37).run Tryf.prog w = .ok Tryf.t37.str w := by kernel_rfl
  have d2 : Tryf.t37.desc = .pointer 39 := rfl
  have d3 : Tryf.t39.desc = .named "errors.errorString" 38 := rfl
  simp [FmtStop.operand, h1, d2, d3, run_load, hc]
  show _ = Facts.plain37
  kernel_rfl

/-- WHAT fmt IS ASKED, the item empty | not. -/
def readA (n : Int) (msg : List UInt8) : List (List UInt8) := [[108, 105, 110, 101, 32, 37, 100, 58, 32, 37, 118], Facts.shape3, digits 8 (n % 18446744073709551616).toNat, Facts.plain37, msg]
def readB (n : Int) (item msg : List UInt8) : List (List UInt8) := [[108, 105, 110, 101, 32, 37, 100, 58, 32, 37, 115, 58, 32, 37, 118], Facts.shape3, digits 8 (n % 18446744073709551616).toNat, Facts.shape9, FmtStop.pack item, Facts.plain37, msg]

/-- ITS ANSWER. -/
def textA (n : Int) (msg : List UInt8) : List UInt8 := [108, 105, 110, 101, 32] ++ Lib.itoa n ++ [58, 32] ++ msg

theorem parseA : (FmtText.parse [108, 105, 110, 101, 32, 37, 100, 58, 32, 37, 118]).map FmtText.glue = some [.lit [108, 105, 110, 101, 32], .verb {} 100, .lit [58, 32], .verb {} 118] := by rfl
theorem parseB : (FmtText.parse [108, 105, 110, 101, 32, 37, 100, 58, 32, 37, 115, 58, 32, 37, 118]).map FmtText.glue = some [.lit [108, 105, 110, 101, 32], .verb {} 100, .lit [58, 32], .verb {} 115, .lit [58, 32], .verb {} 118] := by rfl

theorem text_A (n : Int) (hw : (Lit.int .i64 n).wf = true) (msg : List UInt8) : FmtText.text "fmt.Sprintf" (readA n msg) = some (textA n msg) := by
  have hi := FmtText.operand_int_at (sh := Facts.shape3) (k := .i64) rfl rfl n hw
  have hp := FmtText.operand_plain_at (sh := Facts.plain37) rfl (FmtText.unpack_pack _ (by decide)) msg
  rw [readA, FmtText.text_sprintf_glued parseA (FmtText.operands_cons hi (FmtText.operands_cons hp FmtText.operands_nil))]
  simp [FmtText.render, FmtText.printArg_d _ _ hw, FmtText.printArg_v_said, textA]

theorem text_B (n : Int) (hw : (Lit.int .i64 n).wf = true) (item msg : List UInt8) (hl : item.length < 2 ^ 64) : FmtText.text "fmt.Sprintf" (readB n item msg) = some (textA n (item ++ [58, 32] ++ msg)) := by
  have hi := FmtText.operand_int_at (sh := Facts.shape3) (k := .i64) rfl rfl n hw
  have hs := FmtText.operand_str_at (sh := Facts.shape9) rfl rfl item hl
  have hp := FmtText.operand_plain_at (sh := Facts.plain37) rfl (FmtText.unpack_pack _ (by decide)) msg
  rw [readB, FmtText.text_sprintf_glued parseB (FmtText.operands_cons hi (FmtText.operands_cons hs (FmtText.operands_cons hp FmtText.operands_nil)))]
  simp [FmtText.render, FmtText.printArg_d _ _ hw, FmtText.printArg_s_str, FmtText.printArg_v_said, textA]

set_option maxHeartbeats 800000 in
/-- ZZfaultString where the item is empty, FOR EVERY F. -/
theorem fault_bare (F : Interp) (n : Int) (item msg : ByteArray) (w : World) (hF : F.answers w.tape) (hi : item.toList.isEmpty = true) :
    Calls Tryf.prog 6 #[.int .i64 n, .string item, .string msg] w fun e w' => e = .returned (.string (FmtStop.textOf (F "fmt.Sprintf" (readA n msg.data.toList) 0))) ∧ Grown w w' ∧ w'.tape = w.tape := by
  have hF' := answers_open hF
  have hop : ∀ (o1 o2 : Obj), (FmtStop.operand "fmt.Sprintf" false 118 false (.iface 37 (.pointer (some ⟨w.heap.size, 0, none⟩)))).run Tryf.prog (((w.alloc (.cells #[.string msg] 39)).alloc o1).alloc o2) = .ok (Facts.plain37, msg.data.toList) (((w.alloc (.cells #[.string msg] 39)).alloc o1).alloc o2) := by
    intro o1 o2
    exact op_plain _ _ _ _ (by simp [go_sem])
  go_enter Tryf.func6, Tryf.ntmps6
  go_wp2
  go_ret
  exact ⟨rfl, by repeat (first | exact Grown.refl _ | apply Grown.drew | apply Grown.alloc), rfl⟩

set_option maxHeartbeats 800000 in
/-- ZZfaultString where the item is not empty, FOR EVERY F. -/
theorem fault_item (F : Interp) (n : Int) (item msg : ByteArray) (w : World) (hF : F.answers w.tape) (hi : item.toList.isEmpty = false) :
    Calls Tryf.prog 6 #[.int .i64 n, .string item, .string msg] w fun e w' => e = .returned (.string (FmtStop.textOf (F "fmt.Sprintf" (readB n item.data.toList msg.data.toList) 0))) ∧ Grown w w' ∧ w'.tape = w.tape := by
  have hF' := answers_open hF
  have hop : ∀ (o1 o2 : Obj), (FmtStop.operand "fmt.Sprintf" false 118 false (.iface 37 (.pointer (some ⟨w.heap.size, 0, none⟩)))).run Tryf.prog (((w.alloc (.cells #[.string msg] 39)).alloc o1).alloc o2) = .ok (Facts.plain37, msg.data.toList) (((w.alloc (.cells #[.string msg] 39)).alloc o1).alloc o2) := by
    intro o1 o2
    exact op_plain _ _ _ _ (by simp [go_sem])
  go_enter Tryf.func6, Tryf.ntmps6
  go_wp2
  go_ret
  exact ⟨rfl, by repeat (first | exact Grown.refl _ | apply Grown.drew | apply Grown.alloc), rfl⟩

theorem empty_empty : (⟨#[]⟩ : ByteArray).toList.isEmpty = true := by rw [ByteArray.toList_eq]; rfl

theorem bytes_of_list {b : ByteArray} {l : List UInt8} (h : b.data.toList = l) : b = ⟨l.toArray⟩ := by
  subst h
  rfl

theorem told_A (F : Interp) (n : Int) (hw : (Lit.int .i64 n).wf = true) (msg : List UInt8) (hl : msg.length ≤ 4194304) : FmtStop.textOf (F.told "fmt.Sprintf" (readA n msg) 0) = ⟨(textA n msg).toArray⟩ := by
  apply bytes_of_list
  have := FmtText.itoa_length_le hw
  rw [textOf_list, told_string F (text_A n hw msg) (by simp [textA]; omega)]

theorem told_B (F : Interp) (n : Int) (hw : (Lit.int .i64 n).wf = true) (item msg : List UInt8) (hi : item.length ≤ 2097152) (hl : msg.length ≤ 2097000) : FmtStop.textOf (F.told "fmt.Sprintf" (readB n item msg) 0) = ⟨(textA n (item ++ [58, 32] ++ msg)).toArray⟩ := by
  apply bytes_of_list
  have := FmtText.itoa_length_le hw
  rw [textOf_list, told_string F (text_B n hw item msg (by omega)) (by simp [textA]; omega)]

theorem told_bare (F : Interp) (n : Int) (hw : (Lit.int .i64 n).wf = true) (item msg : ByteArray) (hl : msg.size ≤ 4194304) (w : World) (hF : F.told.answers w.tape) (hi : item.toList.isEmpty = true) :
    Calls Tryf.prog 6 #[.int .i64 n, .string item, .string msg] w fun e w' => e = .returned (.string ⟨(textA n msg.data.toList).toArray⟩) ∧ Grown w w' ∧ w'.tape = w.tape := by
  have h := fault_bare F.told n item msg w hF hi
  rw [told_A F n hw _ (by simpa using hl)] at h
  exact h

theorem told_item (F : Interp) (n : Int) (hw : (Lit.int .i64 n).wf = true) (item msg : ByteArray) (hs : item.size ≤ 2097152) (hl : msg.size ≤ 2097000) (w : World) (hF : F.told.answers w.tape) (hi : item.toList.isEmpty = false) :
    Calls Tryf.prog 6 #[.int .i64 n, .string item, .string msg] w fun e w' => e = .returned (.string ⟨(textA n (item.data.toList ++ [58, 32] ++ msg.data.toList)).toArray⟩) ∧ Grown w w' ∧ w'.tape = w.tape := by
  have h := fault_item F.told n item msg w hF hi
  rw [told_B F n hw _ _ (by simpa using hs) (by simpa using hl)] at h
  exact h

set_option maxHeartbeats 800000 in
theorem bytes_yes (n : Int) (a1 a2 : ByteArray) (h : a1.size + a2.size ≤ 1048576) (w : World) :
    Calls Tryf.prog 5 #[.int .i64 n, .string a1, .string a2] w fun e w' => e = .returned (.bool true) ∧ w' = w := by
  go_enter Tryf.func5, Tryf.ntmps5
  go_wp2
  go_ret
  exact ⟨rfl, rfl⟩

set_option maxHeartbeats 800000 in
theorem bytes_no (n : Int) (a1 a2 : ByteArray) (h : ¬ a1.size + a2.size ≤ 1048576) (w : World) :
    Calls Tryf.prog 5 #[.int .i64 n, .string a1, .string a2] w fun e w' => e = .returned (.bool false) ∧ w' = w := by
  go_enter Tryf.func5, Tryf.ntmps5
  go_wp2
  all_goals (go_ret; exact ⟨rfl, rfl⟩)

theorem grown_trans {a b c : World} (h : Grown a b) (g : Grown b c) : Grown a c :=
  ⟨World.keptBut_trans h.1 g.1, fun x => (g.2.1 x).trans (h.2.1 x), Nat.le_trans h.2.2 g.2.2⟩

theorem law_long (n : Int) (a1 a2 : ByteArray) (h : ¬ a1.size + a2.size ≤ 1048576) (w : World) :
    Calls Tryf.prog 3 #[.int .i64 n, .string a1, .string a2] w fun e w' => e = .returned (.bool true) ∧ Grown w w' := by
  go_enter Tryf.func3, Tryf.ntmps3
  go_wp2_with fail
  refine (bytes_no n a1 a2 h _).mono ?_
  rintro e w1 ⟨rfl, rfl⟩
  go_wp2
  go_ret
  exact ⟨rfl, Grown.refl _⟩

/-- The two sides of the law's first test. -/
theorem same_A (n : Int) (msg : ByteArray) : (textA n msg.data.toList == ((⟨#[108, 105, 110, 101, 32]⟩ : ByteArray) ++ ⟨(Lib.itoa n).toArray⟩ ++ ⟨#[58, 32]⟩ ++ msg).toList) = true := by
  rw [ByteArray.toList_eq, beq_iff_eq]
  simp [textA]

theorem same_join (item msg : ByteArray) : (item ++ (⟨#[58, 32]⟩ : ByteArray) ++ msg).data.toList = item.data.toList ++ [58, 32] ++ msg.data.toList := by
  simp

set_option maxHeartbeats 1600000 in
theorem law_item (F : Interp) (n : Int) (hw : (Lit.int .i64 n).wf = true) (a1 a2 : ByteArray) (h : a1.size + a2.size ≤ 1048576) (w : World) (hF : F.told.answers w.tape) (hi : a1.toList.isEmpty = false) :
    Calls Tryf.prog 3 #[.int .i64 n, .string a1, .string a2] w fun e w' => e = .returned (.bool true) ∧ Grown w w' := by
  have bn := bounds_i64 hw
  have hlen := FmtText.itoa_length_le hw
  have hA := same_A n a2
  have hJ : Hid (_ = _) := same_join a1 a2
  go_enter Tryf.func3, Tryf.ntmps3
  go_wp2_with fail
  refine (bytes_yes n a1 a2 h _).mono ?_
  rintro e w1 ⟨rfl, rfl⟩
  go_wp2_with fail
  refine (told_bare F n hw _ a2 (by omega) _ hF empty_empty).mono ?_
  rintro e w2 ⟨rfl, g2, t2⟩
  have hF2 : F.told.answers w2.tape := by rw [t2]; exact hF
  clear t2
  go_wp2_with fail
  refine (itoa_calls n bn.1 bn.2 _).mono ?_
  rintro e w3 ⟨rfl, g3, t3⟩
  have hF3 : F.told.answers w3.tape := by rw [t3]; exact hF2
  clear t3 hF2
  go_wp2_with fail
  refine (told_item F n hw a1 a2 (by omega) (by omega) _ hF3 hi).mono ?_
  rintro e w4 ⟨rfl, g4, t4⟩
  have hF4 : F.told.answers w4.tape := by rw [t4]; exact hF3
  clear t4 hF3
  go_wp2_with fail
  refine (told_bare F n hw _ _ (by have h2 : (⟨#[58, 32]⟩ : ByteArray).size = 2 := rfl; simp only [ByteArray.size_append]; omega) _ hF4 empty_empty).mono ?_
  rintro e w5 ⟨rfl, g5, t5⟩
  clear t5 hF4
  rw [hJ.out]
  go_wp2
  go_ret
  exact ⟨by simp, grown_trans (grown_trans (grown_trans g2 g3) g4) g5⟩

set_option maxHeartbeats 1600000 in
theorem law_bare (F : Interp) (n : Int) (hw : (Lit.int .i64 n).wf = true) (a1 a2 : ByteArray) (h : a1.size + a2.size ≤ 1048576) (w : World) (hF : F.told.answers w.tape) (hi : a1.toList.isEmpty = true) :
    Calls Tryf.prog 3 #[.int .i64 n, .string a1, .string a2] w fun e w' => e = .returned (.bool true) ∧ Grown w w' := by
  have bn := bounds_i64 hw
  have hlen := FmtText.itoa_length_le hw
  have hA := same_A n a2
  go_enter Tryf.func3, Tryf.ntmps3
  go_wp2_with fail
  refine (bytes_yes n a1 a2 h _).mono ?_
  rintro e w1 ⟨rfl, rfl⟩
  go_wp2_with fail
  refine (told_bare F n hw _ a2 (by omega) _ hF empty_empty).mono ?_
  rintro e w2 ⟨rfl, g2, t2⟩
  have hF2 : F.told.answers w2.tape := by rw [t2]; exact hF
  clear t2
  go_wp2_with fail
  refine (itoa_calls n bn.1 bn.2 _).mono ?_
  rintro e w3 ⟨rfl, g3, t3⟩
  clear t3 hF2
  go_wp2
  go_ret
  exact ⟨rfl, grown_trans g2 g3⟩

/-- THE LAW, fmt's texts told: it returns true, whatever the int and the two strings. -/
theorem law (F : Interp) (n : Int) (hw : (Lit.int .i64 n).wf = true) (a1 a2 : ByteArray) (w : World) (hF : F.told.answers w.tape) :
    Calls Tryf.prog 3 #[.int .i64 n, .string a1, .string a2] w fun e w' => e = .returned (.bool true) ∧ Grown w w' := by
  by_cases h : a1.size + a2.size ≤ 1048576
  · cases hi : a1.toList.isEmpty with
    | true => exact law_bare F n hw a1 a2 h w hF hi
    | false => exact law_item F n hw a1 a2 h w hF hi
  · exact law_long n a1 a2 h w
end Go.Proofs.Qxb6608869aFmt.Fault
