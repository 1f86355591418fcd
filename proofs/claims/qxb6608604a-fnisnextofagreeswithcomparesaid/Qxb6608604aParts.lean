/-
  SMALL PARTS THAT BOTH LAWS USE: worlds that have grown; wellFormed at an int; ZZnewNumber (function 9) by its contract.
-/
import Derived.Test.Qxb6608604aInc
import Derived.Test.Qxb6608604aNext
namespace Go.Proofs.Qxb6608604a.Walks
open Go.RowKit Plain

theorem grown_trans {a b c : World} (h : Grown a b) (g : Grown b c) : Grown a c :=
  ⟨World.keptBut_trans h.1 g.1, fun x => (g.2.1 x).trans (h.2.1 x), Nat.le_trans h.2.2 g.2.2⟩

theorem wf_int (s : ByteArray) (hs : s.size ≤ 1048576) (v : Int) (hv : 0 ≤ v) (w : World) :
    Calls Try.prog 8 #[.string s, .int .u64 v] w fun e w' => Says (WF s.data.toList v.toNat) w e w' := by
  have h := wf_calls s hs v.toNat w
  rw [Int.toNat_of_nonneg hv] at h
  exact h

set_option maxHeartbeats 400000 in
theorem new_calls (d : ByteArray) (v : Int) (w : World) :
    Calls Try.prog 9 #[.string d, .int .u64 v] w fun r w' => r = .returned (.agg #[.string d, .int .u64 v]) ∧ w' = w.alloc (.cells #[.string d, .int .u64 v] 26) := by
  go_enter Try.func9, Try.ntmps9
  go_wp2
  exact bodyPost_ret (v := .agg #[.string d, .int .u64 v]) (by simp [results, Try.results9, go_sem]) rfl ⟨rfl, rfl⟩

end Go.Proofs.Qxb6608604a.Walks
