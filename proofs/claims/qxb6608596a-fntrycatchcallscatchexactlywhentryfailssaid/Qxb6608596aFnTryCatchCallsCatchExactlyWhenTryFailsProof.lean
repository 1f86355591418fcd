/-
  THE PROOF OF 'Rows.FnTryCatchCallsCatchExactlyWhenTryFailsSaid'. The frame is the given shell's (proof-skeleton.mjs); the contracts and walks are ours: the deferred closure (two modes of the frame below), zzFunc's closure (three ways), TryWithErrorValue, ZZTry, ZZTryCatch.
-/
import Derived.Test.Qxb6608596aRows
import Derived.WalkKit
import Derived.ProofKit
import Derived.OpenShut
import Derived.ShutString
import Derived.WalkSpells
import Derived.WalkLawsBesides
import Derived.Defers
import Derived.Recover
import Derived.Laws.Pointers
namespace Go.Proofs.Qxb6608596a.fnTryCatchCallsCatchExactlyWhenTryFails
open Go.ChangeShapes Go.WideShapes Go.ChangeAt Go.RowKit
open Go.ChangeMaps (open_string shut_string)
set_option linter.unusedVariables false      -- a walk need not use every 'w<i>' (that an integer argument fits its kind)

theorem own : ownKnob Try.prog.godebug = none := by kernel_rfl

theorem catch_panicking (p : Addr) (old : Value) (u : TypeId) (pv : Value) (older : List PanicEntry) (w : World) (hc : w.cell? p = some old) (hz : w.frozen? p = false) :
    CallsD Try.prog 19 #[.pointer (some p)] (.panicking ({ v := .iface u pv, recovered := false } :: older)) w fun e u' w' =>
      e = .returned (.tuple #[]) ∧ u' = .panicking ({ v := .iface u pv, recovered := true } :: older) ∧ w' = w.setCell p (.iface u pv) := by
  refine callsD_of_wpS Try.func19 rfl fun c₀ cs hu => ?_
  apply wpS_seq
  apply wpS_region
  simp [wpOpsS, go_sem, recoverD, hu, Try.ntmps19, Exit.thenS]
  refine wpS_of_wp ?_
  go_wp2
  simp [bodyPostS, results, Try.results19]

theorem catch_idle (p : Addr) (w : World) :
    CallsD Try.prog 19 #[.pointer (some p)] .returning w fun e u' w' => e = .returned (.tuple #[]) ∧ u' = .returning ∧ w' = w := by
  refine callsD_of_wpS Try.func19 rfl fun c₀ cs hu => ?_
  apply wpS_seq
  apply wpS_region
  simp [wpOpsS, go_sem, recoverD, hu, Try.ntmps19, Exit.thenS]
  refine wpS_of_wp ?_
  go_wp2
  cases c₀
  simp_all [bodyPostS, results, Try.results19]

/-- zzFunc's closure, as its three variables say. -/
theorem f_panics (pp pf pe : Addr) (w : World) (hp : w.cell? pp = some (.bool true)) :
    Calls Try.prog 18 #[.pointer (some pp), .pointer (some pf), .pointer (some pe)] w fun e w' =>
      e = .panicked [{ v := .iface 9 (.string ⟨#[122, 122, 32, 112, 97, 110, 105, 99]⟩), recovered := false }] ∧ w' = w := by
  go_enter Try.func18, Try.ntmps18
  go_wp2
  exact ⟨rfl, rfl, rfl⟩

theorem f_fails (pp pf pe : Addr) (u : TypeId) (x : Value) (w : World) (hp : w.cell? pp = some (.bool false)) (hf : w.cell? pf = some (.bool true)) (he : w.cell? pe = some (.iface u x)) :
    Calls Try.prog 18 #[.pointer (some pp), .pointer (some pf), .pointer (some pe)] w fun e w' => e = .returned (.iface u x) ∧ w' = w := by
  go_enter Try.func18, Try.ntmps18
  go_wp2
  go_ret
  exact ⟨rfl, rfl⟩

theorem f_passes (pp pf pe : Addr) (w : World) (hp : w.cell? pp = some (.bool false)) (hf : w.cell? pf = some (.bool false)) :
    Calls Try.prog 18 #[.pointer (some pp), .pointer (some pf), .pointer (some pe)] w fun e w' => e = .returned .nilIface ∧ w' = w := by
  go_enter Try.func18, Try.ntmps18
  go_wp2
  go_ret
  exact ⟨rfl, rfl⟩

theorem grown_cell {W w' : World} (h : Grown W w') {a : Addr} {v : Value} (hc : W.cell? a = some v) : w'.cell? a = some v := by
  have hb : a.block < W.heap.size := by
    apply Classical.byContradiction
    intro hn
    have e : W.heap[a.block]? = none := by simp; omega
    simp [World.cell?, e] at hc
  have hk := h.1.2.2 a.block hb
  unfold World.cell? at hc ⊢
  split at hc
  · rename_i c t fr e1
    rw [e1] at hk
    split at hk
    · rename_i c1 t1 fr1 c' t' fr' ea eb
      cases ea
      rw [eb]
      simp only
      rw [hk.2.2.2 a.off (fun f => f)]
      exact hc
    · rename_i ea eb
      cases ea
    · rw [hk]
      simpa using hc
  · cases hc

theorem grown_trans {a b c : World} (h : Grown a b) (g : Grown b c) : Grown a c :=
  ⟨World.keptBut_trans h.1 g.1, fun x => (g.2.1 x).trans (h.2.1 x), Nat.le_trans h.2.2 g.2.2⟩

theorem try_panics (pp pf pe : Addr) (w : World) (hp : w.cell? pp = some (.bool true)) :
    Calls Try.prog 17 #[.func (.func 18) #[] #[.pointer (some pp), .pointer (some pf), .pointer (some pe)]] w fun e w' =>
      ∃ v, e = .returned (.tuple #[v, .bool false]) ∧ Grown w w' := by
  have hmf : ∀ (fn : Fn) (first cap : Array Value) (w : World), (Instr.makeFunc fn first cap).run Try.prog w = .ok (.func fn first cap) w := fun _ _ _ _ => rfl
  have hp1 : (w.alloc (.cells #[.nilIface] 20)).cell? pp = some (.bool true) := grown_cell (Grown.alloc (Grown.refl w) _ _) hp
  clear hp
  go_enter_defers Try.func17, Try.ntmps17
  go_wp2_with fail
  refine (f_panics pp pf pe _ hp1).mono ?_
  rintro e w1 ⟨rfl, rfl⟩
  refine leaves_cons (f := 19) (args := #[.pointer (some ⟨w.heap.size, 0, none⟩)]) (by simp) (by simp [go_sem]) ?_
  refine (catch_panicking ⟨w.heap.size, 0, none⟩ .nilIface 9 _ [] _ ?_ ?_).mono ?_
  · simp [go_sem]
  · simp [go_sem]
  rintro e u' w'' ⟨rfl, rfl, rfl⟩
  simp [Leaves, settle, results, Try.results17, go_sem]
  exact Grown.alloc (Grown.refl w) _ _

theorem try_fails (pp pf pe : Addr) (u : TypeId) (x : Value) (w : World) (hp : w.cell? pp = some (.bool false)) (hf : w.cell? pf = some (.bool true)) (he : w.cell? pe = some (.iface u x)) :
    Calls Try.prog 17 #[.func (.func 18) #[] #[.pointer (some pp), .pointer (some pf), .pointer (some pe)]] w fun e w' =>
      ∃ v, e = .returned (.tuple #[v, .bool false]) ∧ Grown w w' := by
  have hmf : ∀ (fn : Fn) (first cap : Array Value) (w : World), (Instr.makeFunc fn first cap).run Try.prog w = .ok (.func fn first cap) w := fun _ _ _ _ => rfl
  have g0 : Grown w (w.alloc (.cells #[.nilIface] 20)) := Grown.alloc (Grown.refl w) _ _
  have hp1 := grown_cell g0 hp
  have hf1 := grown_cell g0 hf
  have he1 := grown_cell g0 he
  clear hp hf he g0
  go_enter_defers Try.func17, Try.ntmps17
  go_wp2_with fail
  refine (f_fails pp pf pe u x _ hp1 hf1 he1).mono ?_
  rintro e w1 ⟨rfl, rfl⟩
  go_wp2
  refine leaves_cons (f := 19) (args := #[.pointer (some ⟨w.heap.size, 0, none⟩)]) (by simp) (by simp [go_sem]) ?_
  refine (catch_idle ⟨w.heap.size, 0, none⟩ _).mono ?_
  rintro e u' w'' ⟨rfl, rfl, rfl⟩
  simp [Leaves, settle, results, Try.results17, go_sem]
  exact Grown.alloc (Grown.refl w) _ _

theorem try_passes (pp pf pe : Addr) (w : World) (hp : w.cell? pp = some (.bool false)) (hf : w.cell? pf = some (.bool false)) :
    Calls Try.prog 17 #[.func (.func 18) #[] #[.pointer (some pp), .pointer (some pf), .pointer (some pe)]] w fun e w' =>
      ∃ v, e = .returned (.tuple #[v, .bool true]) ∧ Grown w w' := by
  have hmf : ∀ (fn : Fn) (first cap : Array Value) (w : World), (Instr.makeFunc fn first cap).run Try.prog w = .ok (.func fn first cap) w := fun _ _ _ _ => rfl
  have g0 : Grown w (w.alloc (.cells #[.nilIface] 20)) := Grown.alloc (Grown.refl w) _ _
  have hp1 := grown_cell g0 hp
  have hf1 := grown_cell g0 hf
  clear hp hf g0
  go_enter_defers Try.func17, Try.ntmps17
  go_wp2_with fail
  refine (f_passes pp pf pe _ hp1 hf1).mono ?_
  rintro e w1 ⟨rfl, rfl⟩
  go_wp2
  refine leaves_cons (f := 19) (args := #[.pointer (some ⟨w.heap.size, 0, none⟩)]) (by simp) (by simp [go_sem]) ?_
  refine (catch_idle ⟨w.heap.size, 0, none⟩ _).mono ?_
  rintro e u' w'' ⟨rfl, rfl, rfl⟩
  simp [Leaves, settle, results, Try.results17, go_sem]
  exact Grown.alloc (Grown.refl w) _ _

/-- TryWithErrorValue at zzFunc's closure: ok is 'neither fails nor panics'. -/
theorem try_all (fail panics : Bool) (pp pf pe : Addr) (u : TypeId) (x : Value) (w : World) (hp : w.cell? pp = some (.bool panics)) (hf : w.cell? pf = some (.bool fail)) (he : w.cell? pe = some (.iface u x)) :
    Calls Try.prog 17 #[.func (.func 18) #[] #[.pointer (some pp), .pointer (some pf), .pointer (some pe)]] w fun e w' =>
      ∃ v, e = .returned (.tuple #[v, .bool (!fail && !panics)]) ∧ Grown w w' := by
  cases panics
  · cases fail
    · exact try_passes pp pf pe w hp hf
    · exact try_fails pp pf pe u x w hp hf he
  · cases fail
    · exact try_panics pp pf pe w hp
    · exact try_panics pp pf pe w hp

theorem zztry (fail panics : Bool) (w : World) :
    Calls Try.prog 7 #[.bool fail, .bool panics] w fun e w' => e = .returned (.bool (!fail && !panics)) ∧ Grown w w' := by
  have hmf : ∀ (fn : Fn) (first cap : Array Value) (w : World), (Instr.makeFunc fn first cap).run Try.prog w = .ok (.func fn first cap) w := fun _ _ _ _ => rfl
  go_enter Try.func7, Try.ntmps7
  go_wp2_with (first | (go_at_call 13; go_in) | (go_at_call 12; go_in) | (go_at_call 11; go_in))
  refine (try_all fail panics _ _ _ 37 (.pointer (some ⟨w.heap.size, 0, none⟩)) _ ?_ ?_ ?_).mono ?_
  · simp [go_sem]
  · simp [go_sem]
  · simp [go_sem]
  rintro e w1 ⟨v, rfl, g⟩
  go_wp2
  go_ret
  exact ⟨rfl, grown_trans (Grown.alloc (Grown.alloc (Grown.alloc (Grown.alloc (Grown.refl w) _ _) _ _) _ _) _ _) g⟩

/-- ZZTryCatch where f neither fails nor panics. -/
theorem zztrycatch_passes (w : World) :
    Calls Try.prog 8 #[.bool false, .bool false] w fun e w' => e = .returned (.tuple #[.bool true, .int .i64 0]) ∧ Grown w w' := by
  have hmf : ∀ (fn : Fn) (first cap : Array Value) (w : World), (Instr.makeFunc fn first cap).run Try.prog w = .ok (.func fn first cap) w := fun _ _ _ _ => rfl
  go_enter Try.func8, Try.ntmps8
  go_wp2_with (first | (go_at_call 13; go_in) | (go_at_call 12; go_in) | (go_at_call 14; go_in))
  refine (try_all false false _ _ _ 37 (.pointer (some ⟨w.heap.size + 1, 0, none⟩)) _ ?_ ?_ ?_).mono ?_
  · simp [go_sem]
  · simp [go_sem]
  · simp [go_sem]
  rintro e w1 ⟨v, rfl, g⟩
  have hc : w1.cell? ⟨w.heap.size, 0, none⟩ = some (.int .i64 0) := grown_cell g (by simp [go_sem])
  have hg : Hid (Grown w w1) := grown_trans (Grown.alloc (Grown.alloc (Grown.alloc (Grown.alloc (Grown.alloc (Grown.refl w) _ _) _ _) _ _) _ _) _ _) g
  clear g
  go_wp2
  go_region
  all_goals (try go_wp2)
  all_goals (go_ret2; exact ⟨rfl, by repeat (first | exact hg.out | apply Grown.drew)⟩)

/-- ZZTryCatch where f fails (true), panics (false). -/
theorem zztrycatch_fails (w : World) :
    Calls Try.prog 8 #[.bool true, .bool false] w fun e w' => e = .returned (.tuple #[.bool false, .int .i64 1]) ∧ Grown w w' := by
  have hmf : ∀ (fn : Fn) (first cap : Array Value) (w : World), (Instr.makeFunc fn first cap).run Try.prog w = .ok (.func fn first cap) w := fun _ _ _ _ => rfl
  go_enter Try.func8, Try.ntmps8
  go_wp2_with (first | (go_at_call 13; go_in) | (go_at_call 12; go_in) | (go_at_call 14; go_in))
  refine (try_all true false _ _ _ 37 (.pointer (some ⟨w.heap.size + 1, 0, none⟩)) _ ?_ ?_ ?_).mono ?_
  · simp [go_sem]
  · simp [go_sem]
  · simp [go_sem]
  rintro e w1 ⟨v, rfl, g⟩
  have hc : w1.cell? ⟨w.heap.size, 0, none⟩ = some (.int .i64 0) := grown_cell g (by simp [go_sem])
  have hg : Hid (Grown w w1) := grown_trans (Grown.alloc (Grown.alloc (Grown.alloc (Grown.alloc (Grown.alloc (Grown.refl w) _ _) _ _) _ _) _ _) _ _) g
  have hz : w1.frozen? ⟨w.heap.size, 0, none⟩ = false := (g.2.1 _).trans (by simp [go_sem])
  clear g
  go_wp2
  go_end0
  go_wp2
  go_region
  all_goals (try go_wp2)
  all_goals (go_ret2; exact ⟨rfl, by repeat (first | exact hg.out | apply Grown.drew | exact Grown.setCell hg.out (Nat.le_refl _) _)⟩)

/-- ZZTryCatch where f fails (false), panics (true). -/
theorem zztrycatch_panics (w : World) :
    Calls Try.prog 8 #[.bool false, .bool true] w fun e w' => e = .returned (.tuple #[.bool false, .int .i64 1]) ∧ Grown w w' := by
  have hmf : ∀ (fn : Fn) (first cap : Array Value) (w : World), (Instr.makeFunc fn first cap).run Try.prog w = .ok (.func fn first cap) w := fun _ _ _ _ => rfl
  go_enter Try.func8, Try.ntmps8
  go_wp2_with (first | (go_at_call 13; go_in) | (go_at_call 12; go_in) | (go_at_call 14; go_in))
  refine (try_all false true _ _ _ 37 (.pointer (some ⟨w.heap.size + 1, 0, none⟩)) _ ?_ ?_ ?_).mono ?_
  · simp [go_sem]
  · simp [go_sem]
  · simp [go_sem]
  rintro e w1 ⟨v, rfl, g⟩
  have hc : w1.cell? ⟨w.heap.size, 0, none⟩ = some (.int .i64 0) := grown_cell g (by simp [go_sem])
  have hg : Hid (Grown w w1) := grown_trans (Grown.alloc (Grown.alloc (Grown.alloc (Grown.alloc (Grown.alloc (Grown.refl w) _ _) _ _) _ _) _ _) _ _) g
  have hz : w1.frozen? ⟨w.heap.size, 0, none⟩ = false := (g.2.1 _).trans (by simp [go_sem])
  clear g
  go_wp2
  go_end0
  go_wp2
  go_region
  all_goals (try go_wp2)
  all_goals (go_ret2; exact ⟨rfl, by repeat (first | exact hg.out | apply Grown.drew | exact Grown.setCell hg.out (Nat.le_refl _) _)⟩)

/-- ZZTryCatch where f fails (true), panics (true). -/
theorem zztrycatch_both (w : World) :
    Calls Try.prog 8 #[.bool true, .bool true] w fun e w' => e = .returned (.tuple #[.bool false, .int .i64 1]) ∧ Grown w w' := by
  have hmf : ∀ (fn : Fn) (first cap : Array Value) (w : World), (Instr.makeFunc fn first cap).run Try.prog w = .ok (.func fn first cap) w := fun _ _ _ _ => rfl
  go_enter Try.func8, Try.ntmps8
  go_wp2_with (first | (go_at_call 13; go_in) | (go_at_call 12; go_in) | (go_at_call 14; go_in))
  refine (try_all true true _ _ _ 37 (.pointer (some ⟨w.heap.size + 1, 0, none⟩)) _ ?_ ?_ ?_).mono ?_
  · simp [go_sem]
  · simp [go_sem]
  · simp [go_sem]
  rintro e w1 ⟨v, rfl, g⟩
  have hc : w1.cell? ⟨w.heap.size, 0, none⟩ = some (.int .i64 0) := grown_cell g (by simp [go_sem])
  have hg : Hid (Grown w w1) := grown_trans (Grown.alloc (Grown.alloc (Grown.alloc (Grown.alloc (Grown.alloc (Grown.refl w) _ _) _ _) _ _) _ _) _ _) g
  have hz : w1.frozen? ⟨w.heap.size, 0, none⟩ = false := (g.2.1 _).trans (by simp [go_sem])
  clear g
  go_wp2
  go_end0
  go_wp2
  go_region
  all_goals (try go_wp2)
  all_goals (go_ret2; exact ⟨rfl, by repeat (first | exact hg.out | apply Grown.drew | exact Grown.setCell hg.out (Nat.le_refl _) _)⟩)

theorem zztrycatch (fail panics : Bool) (w : World) :
    Calls Try.prog 8 #[.bool fail, .bool panics] w fun e w' => e = .returned (.tuple #[.bool (!fail && !panics), .int .i64 (if (!fail && !panics) then 0 else 1)]) ∧ Grown w w' := by
  cases fail <;> cases panics
  · exact zztrycatch_passes w
  · exact zztrycatch_panics w
  · exact zztrycatch_fails w
  · exact zztrycatch_both w

/-! ### STEP 1: THE WALK: the Go text returns true. 'Grown w w'': the world has at most new blocks (Derived/RowKit3.lean). Part the cases AHEAD of 'go_enter' where a test parts the walk; take each callee by a contract of your own. -/
theorem walk (a0 : Bool) (a1 : Bool) (w : World) :
    Calls Try.prog 4 #[.bool a0, .bool a1] w fun e w' => e = .returned (.bool true) ∧ Grown w w' := by
  cases a0 <;> cases a1
  all_goals
    go_enter Try.func4, Try.ntmps4
    go_wp2_with fail
    refine (zztrycatch _ _ _).mono ?_
    rintro e w1 ⟨rfl, g1⟩
    go_wp2_with fail
    refine (zztry _ _ _).mono ?_
    rintro e w2 ⟨rfl, g2⟩
    go_wp2
    go_ret
    exact ⟨rfl, grown_trans g1 g2⟩

/-! ### THE ROW's STEP: WRITTEN OUT: LEAVE IT -/
set_option maxRecDepth 100000 in
theorem lifted (os : Os) (started : os.Started) (H : Type) (enc : TypeId × Value → H) :
    ReturnsInHanded {} Try.checked os 4 .any (Rows.fnTryCatchCallsCatchExactlyWhenTryFailsSpec.pre6 enc Try.prog Try.f4 Rows.fnTryCatchCallsCatchExactlyWhenTryFailsRow.domain false) (Rows.fnTryCatchCallsCatchExactlyWhenTryFailsSpec.post enc Try.prog Try.f4 false true false false) := by
  refine returnsInHanded_of_change (C := Try.checked) own started (by kernel_rfl) Try.func4
    (ChangeSpec.witness6 (enc := enc) (C := Try.checked) false ⟨#[], #[.bool false, .bool false], []⟩ 8 (by kernel_rfl) (by kernel_rfl) (by kernel_rfl) (by kernel_rfl)) ?_
  intro W base args ds gs before hval0 hW hcnd _
  have hval : ∀ (j : Nat) t v, Try.f4.params[j]? = some t → args[j]? = some v → Value.okWide Try.prog W .any base t v := hval0
  have hW' := hW
  obtain ⟨p, q, hA0, hV, rfl, hfz, hnd⟩ := hW
  have hA : DataW.TrodAll enc Try.prog W 0 (fun _ => true) true Try.f4.params.toList args.toList ds p := hA0
  rw [Try.params4] at hA hval
  obtain ⟨v0, vs0, d0, ds0, p0, q0, hargs, rfl, rfl, h0, r0⟩ := trodAll_cons hA
  obtain ⟨v1, vs1, d1, ds1, p1, q1, rfl, rfl, rfl, h1, r1⟩ := trodAll_cons r0
  obtain ⟨rfl, rfl, rfl⟩ := trodAll_nil r1
  obtain rfl : args = #[v0, v1] := by cases args; simp_all
  obtain ⟨rfl, rfl⟩ := trodVars_none hV
  obtain ⟨a0, rfl, rfl, rfl⟩ := open_bool Try.underlying4 (hval 0 4 v0 rfl rfl) h0
  obtain ⟨a1, rfl, rfl, rfl⟩ := open_bool Try.underlying4 (hval 1 4 v1 rfl rfl) h1
  clear hA0 hval0
  simp only [List.append_nil] at hW'
  refine (walk a0 a1 W).mono fun e W' ⟨he, hg⟩ => ?_
  subst he
  exact ⟨_, rfl, post_of_same (pa := []) (pv := []) hW' (fun _ _ _ => (trodAll_cons_mk (shut_bool Try.underlying4 _) trodAll_mk0)) (fun sp _ => (trodAll_cons_mk (shut_bool Try.underlying4 _) (trodAll_cons_mk (shut_bool Try.underlying4 _) trodAll_mk0))) (fun _ _ => rfl) rfl
    (hg.frame _) hg.2.1 (ok_one (by kernel_rfl) rfl (okWide_bool_mk Try.underlying4 _))⟩

theorem over : Rows.fnTryCatchCallsCatchExactlyWhenTryFailsRow.holds Try.pinned (OpenSpec.ofChange Rows.fnTryCatchCallsCatchExactlyWhenTryFailsSpec) :=
  OpenClaim.holds_of_wide 4 Try.f4 rfl rfl rfl rfl rfl rfl rfl ⟨rfl, rfl, rfl, rfl, rfl⟩ rfl rfl rfl rfl rfl (by kernel_rfl) Try.func4 (by kernel_rfl)
    (of_decide_eq_true (by kernel_rfl)) (by unfold Func.isWrapper; first | (rw [if_pos (by decide +kernel)]; kernel_rfl) | (rw [if_neg (by decide +kernel)]; exact ⟨rfl, rfl⟩))
    (fun os started H enc _ => lifted os started H enc)

/-- ████ THE STATEMENT ████ -/
theorem proved : Rows.FnTryCatchCallsCatchExactlyWhenTryFailsSaid :=
  over
#print axioms proved
end Go.Proofs.Qxb6608596a.fnTryCatchCallsCatchExactlyWhenTryFails
