/-
  THE LAW 'Rows.FnTruthyOfEveryStringAndNumberSaid', PROVED: the walks of the callees, the walk of the law, the row's step.
-/
import Derived.Test.Qxb6612600aRows
import Derived.WalkKit
import Derived.ProofKit
import Derived.OpenShut
import Derived.ShutString
import Derived.Laws.Cover2
namespace Go.Proofs.Qxb6612600a.fnTruthyOfEveryStringAndNumber
open Go.ChangeShapes Go.WideShapes Go.ChangeAt Go.RowKit
open Go.ChangeMaps (open_string shut_string)
set_option linter.unusedVariables false

theorem own : ownKnob Try.prog.godebug = none := by kernel_rfl

/-! ### WHAT THE WALKS USE: a string and a 'number' put into an interface; the assertion to bool at each dynamic type that is met; a float stored -/
theorem mkI9 (x : Value) (w : World) : (Instr.makeInterface 9 x).run Try.prog w = .ok (.iface 9 x) w := run_makeInterface w 9 x (by kernel_rfl)
theorem mkI33 (x : Value) (w : World) : (Instr.makeInterface 33 x).run Try.prog w = .ok (.iface 33 x) w := run_makeInterface w 33 x (by kernel_rfl)
theorem as9_4 (v : Value) (w : World) : (Instr.typeAssert (.iface 9 v) 20 4 true).run Try.prog w = .ok (.tuple #[.bool false, .bool false]) w := by kernel_rfl
theorem as33_4 (v : Value) (w : World) : (Instr.typeAssert (.iface 33 v) 20 4 true).run Try.prog w = .ok (.tuple #[.bool false, .bool false]) w := by kernel_rfl
theorem asN_4 (w : World) : (Instr.typeAssert .nilIface 20 4 true).run Try.prog w = .ok (.tuple #[.bool false, .bool false]) w := by kernel_rfl
theorem store_float (P : Program) (a : Addr) (m : Mode) (k : FloatKind) (b : Nat) (w : World) : (store a (.float k b) m).run P w = stored P w a (.float k b) m := run_store P w a _ m rfl
attribute [local go_sem] mkI9 mkI33 as9_4 as33_4 asN_4 store_float

/-! ### THE CALLEES -/
/-- 'zzBytes_..': is the string at most 1<<20 bytes long? -/
theorem bytes_small (s : ByteArray) (b : Nat) (w : World) (hs : s.size ≤ 1048576) :
    Calls Try.prog 8 #[.string s, .float .f64 b] w fun e w' => e = .returned (.bool true) ∧ w' = w := by
  go_enter Try.func8, Try.ntmps8
  go_wp2
  go_ret
  exact ⟨rfl, rfl⟩

theorem bytes_great (s : ByteArray) (b : Nat) (w : World) (hs : 1048576 < s.size) :
    Calls Try.prog 8 #[.string s, .float .f64 b] w fun e w' => e = .returned (.bool false) ∧ w' = w := by
  go_enter Try.func8, Try.ntmps8
  go_wp2
  go_ret
  exact ⟨rfl, rfl⟩

/-- 'String(s)'. -/
theorem string_any (s : ByteArray) (w : World) :
    Calls Try.prog 9 #[.string s] w fun e w' => e = .returned (.agg #[.float .f64 0, .iface 9 (.string s)]) ∧ w' = w.alloc (.cells #[.float .f64 0, .iface 9 (.string s)] 24) := by
  go_enter Try.func9, Try.ntmps9
  go_wp2
  exact bodyPost_ret (v := .agg #[.float .f64 0, .iface 9 (.string s)]) (by simp [results, Try.results9, go_sem]) rfl ⟨rfl, rfl⟩

/-- 'ZZNumber(f)'. -/
theorem number_any (b : Nat) (w : World) :
    Calls Try.prog 10 #[.float .f64 b] w fun e w' => e = .returned (.agg #[.float .f64 b, .iface 33 (.agg #[])]) ∧ w' = w.alloc (.cells #[.float .f64 b, .iface 33 (.agg #[])] 24) := by
  go_enter Try.func10, Try.ntmps10
  go_wp2
  exact bodyPost_ret (v := .agg #[.float .f64 b, .iface 33 (.agg #[])]) (by simp [results, Try.results10, go_sem]) rfl ⟨rfl, rfl⟩

/-- 'Truthy' of a string, of a number, of nil. -/
theorem truthy_string (b : Nat) (v : Value) (w : World) :
    Calls Try.prog 6 #[.agg #[.float .f64 b, .iface 9 v]] w fun e w' => e = .returned (.bool true) ∧ w' = w.alloc (.cells #[.float .f64 b, .iface 9 v] 24) := by
  go_enter Try.func6, Try.ntmps6
  go_wp2
  go_ret
  exact ⟨rfl, rfl⟩

theorem truthy_number (b : Nat) (v : Value) (w : World) :
    Calls Try.prog 6 #[.agg #[.float .f64 b, .iface 33 v]] w fun e w' => e = .returned (.bool true) ∧ w' = w.alloc (.cells #[.float .f64 b, .iface 33 v] 24) := by
  go_enter Try.func6, Try.ntmps6
  go_wp2
  go_ret
  exact ⟨rfl, rfl⟩

theorem truthy_nil (b : Nat) (w : World) :
    Calls Try.prog 6 #[.agg #[.float .f64 b, .nilIface]] w fun e w' => e = .returned (.bool false) ∧ w' = w.alloc (.cells #[.float .f64 b, .nilIface] 24) := by
  go_enter Try.func6, Try.ntmps6
  go_wp2
  go_ret
  exact ⟨rfl, rfl⟩

/-- 'IsNil' of a string, of nil. -/
theorem isNil_string (b : Nat) (v : Value) (w : World) :
    Calls Try.prog 7 #[.agg #[.float .f64 b, .iface 9 v]] w fun e w' => e = .returned (.bool false) ∧ w' = w.alloc (.cells #[.float .f64 b, .iface 9 v] 24) := by
  go_enter Try.func7, Try.ntmps7
  go_wp2
  go_ret
  exact ⟨rfl, rfl⟩

theorem isNil_nil (b : Nat) (w : World) :
    Calls Try.prog 7 #[.agg #[.float .f64 b, .nilIface]] w fun e w' => e = .returned (.bool true) ∧ w' = w.alloc (.cells #[.float .f64 b, .nilIface] 24) := by
  go_enter Try.func7, Try.ntmps7
  go_wp2
  go_ret
  exact ⟨rfl, rfl⟩

/-! ### THE WALK: the Go text returns true -/
set_option maxHeartbeats 800000 in
theorem walk (a0 : ByteArray) (a1 : Nat) (w : World) :
    Calls Try.prog 4 #[.string a0, .float .f64 a1] w fun e w' => e = .returned (.bool true) ∧ Grown w w' := by
  by_cases hs : a0.size ≤ 1048576
  · go_enter Try.func4, Try.ntmps4
    go_wp2_with (first
      | (go_at_call 8; with_reducible refine (bytes_small _ _ _ hs).mono ?_; rintro e w' ⟨rfl, rfl⟩)
      | (go_at_call 9; with_reducible refine (string_any _ _).mono ?_; rintro e w' ⟨rfl, rfl⟩)
      | (go_at_call 10; with_reducible refine (number_any _ _).mono ?_; rintro e w' ⟨rfl, rfl⟩)
      | (go_at_call 6; with_reducible refine (truthy_string _ _ _).mono ?_; rintro e w' ⟨rfl, rfl⟩)
      | (go_at_call 6; with_reducible refine (truthy_number _ _ _).mono ?_; rintro e w' ⟨rfl, rfl⟩)
      | (go_at_call 6; with_reducible refine (truthy_nil _ _).mono ?_; rintro e w' ⟨rfl, rfl⟩)
      | (go_at_call 7; with_reducible refine (isNil_string _ _ _).mono ?_; rintro e w' ⟨rfl, rfl⟩)
      | (go_at_call 7; with_reducible refine (isNil_nil _ _).mono ?_; rintro e w' ⟨rfl, rfl⟩))
    go_ret
    exact ⟨rfl, by repeat (first | exact Grown.refl _ | apply Grown.drew | apply Grown.alloc)⟩
  · have hs' : 1048576 < a0.size := by omega
    go_enter Try.func4, Try.ntmps4
    go_wp2_with (go_at_call 8; refine (bytes_great _ _ _ hs').mono ?_; rintro e w' ⟨rfl, rfl⟩)
    go_ret
    exact ⟨rfl, by repeat (first | exact Grown.refl _ | apply Grown.drew | apply Grown.alloc)⟩

/-! ### THE ROW's STEP: the guide's template at this function's number and types -/
set_option maxRecDepth 100000 in
theorem lifted (os : Os) (started : os.Started) (H : Type) (enc : TypeId × Value → H) :
    ReturnsInHanded {} Try.checked os 4 .any (Rows.fnTruthyOfEveryStringAndNumberSpec.pre6 enc Try.prog Try.f4 Rows.fnTruthyOfEveryStringAndNumberRow.domain false) (Rows.fnTruthyOfEveryStringAndNumberSpec.post enc Try.prog Try.f4 false true false false) := by
  refine returnsInHanded_of_change (C := Try.checked) own started (by kernel_rfl) Try.func4
    (ChangeSpec.witness6 (enc := enc) (C := Try.checked) false ⟨#[], #[.string ByteArray.empty, .float .f64 0], []⟩ 8 (by kernel_rfl) (by kernel_rfl) (by kernel_rfl) (by kernel_rfl)) ?_
  intro W base args ds gs before hval0 hW hcnd _
  have hval : ∀ (j : Nat) t v, Try.f4.params[j]? = some t → args[j]? = some v → Value.okWide Try.prog W .any base t v := hval0
  have hW' := hW
  obtain ⟨p, q, hA0, hV, rfl, hfz, hnd⟩ := hW
  have hA : DataW.TrodAll enc Try.prog W 0 (fun _ => true) true Try.f4.params.toList args.toList ds p := hA0
  rw [Try.params4] at hA hval
  obtain ⟨v0, vs0, d0, ds0, p0, q0, hargs, rfl, rfl, h0, r0⟩ := trodAll_cons hA
  obtain ⟨v1, vs1, d1, ds1, p1, q1, rfl, rfl, rfl, h1, r1⟩ := trodAll_cons r0
  obtain ⟨rfl, rfl, rfl⟩ := trodAll_nil r1
  obtain rfl : args = #[v0, v1] := by cases args; simp_all
  obtain ⟨rfl, rfl⟩ := trodVars_none hV
  obtain ⟨a0, rfl, rfl, rfl, w0⟩ := open_string Try.underlying9 (hval 0 9 v0 rfl rfl) h0
  obtain ⟨a1, rfl, rfl, rfl, w1⟩ := open_float Try.underlying22 (hval 1 22 v1 rfl rfl) h1
  clear hA0 hval0
  simp only [List.append_nil] at hW'
  refine (walk a0 a1 W).mono fun e W' ⟨he, hg⟩ => ?_
  subst he
  exact ⟨_, rfl, post_of_same (pa := []) (pv := []) hW' (fun _ _ _ => (trodAll_cons_mk (shut_bool Try.underlying4 _) trodAll_mk0)) (fun sp _ => (trodAll_cons_mk (shut_string Try.underlying9 w0) (trodAll_cons_mk (shut_float Try.underlying22 w1) trodAll_mk0))) (fun _ _ => rfl) rfl
    (hg.frame _) hg.2.1 (ok_one (by kernel_rfl) rfl (okWide_bool_mk Try.underlying4 _))⟩

theorem over : Rows.fnTruthyOfEveryStringAndNumberRow.holds Try.pinned (OpenSpec.ofChange Rows.fnTruthyOfEveryStringAndNumberSpec) :=
  OpenClaim.holds_of_wide 4 Try.f4 rfl rfl rfl rfl rfl rfl rfl ⟨rfl, rfl, rfl, rfl, rfl⟩ rfl rfl rfl rfl rfl (by kernel_rfl) Try.func4 (by kernel_rfl)
    (of_decide_eq_true (by kernel_rfl)) (by unfold Func.isWrapper; first | (rw [if_pos (by decide +kernel)]; kernel_rfl) | (rw [if_neg (by decide +kernel)]; exact ⟨rfl, rfl⟩))
    (fun os started H enc _ => lifted os started H enc)

/-- THE STATEMENT -/
theorem proved : Rows.FnTruthyOfEveryStringAndNumberSaid :=
  over
end Go.Proofs.Qxb6612600a.fnTruthyOfEveryStringAndNumber
