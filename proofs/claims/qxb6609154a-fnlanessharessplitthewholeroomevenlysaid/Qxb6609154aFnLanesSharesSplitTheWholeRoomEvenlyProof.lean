/-
  THE LAW 'Rows.FnLanesSharesSplitTheWholeRoomEvenlySaid', PROVED: the walk of the law over the contracts of Qxb6609154aLanes; the row's step by the guide's shell.
-/
import Derived.Test.Qxb6609154aRows
import Derived.WalkKit
import Derived.ProofKit
import Derived.OpenShut
import Derived.ShutString
import Derived.Test.Qxb6609154aLanes
namespace Go.Proofs.Qxb6609154a.fnLanesSharesSplitTheWholeRoomEvenly
open Go.ChangeShapes Go.WideShapes Go.ChangeAt Go.RowKit
open Go.Proofs.Qxb6609154a.lanes
set_option linter.unusedVariables false      -- a walk need not use every 'w<i>' (that an integer argument fits its kind)

theorem own : ownKnob Try.prog.godebug = none := by kernel_rfl

/-! ### PLAIN: no Go in sight -/
/-- What the first k lanes hold. -/
def tot (c o k : Int) : Int := k * (c / o) + min k (c % o)

theorem tot_zero (c o : Int) (ho : 1 ≤ o) (hc : 0 ≤ c) : tot c o 0 = 0 := by
  obtain ⟨q0, q1, r0, r1, qr⟩ := quo_bounds c o ho hc
  unfold tot
  omega

theorem tot_all (c o : Int) (ho : 1 ≤ o) (hc : 0 ≤ c) : tot c o o = c := by
  obtain ⟨q0, q1, r0, r1, qr⟩ := quo_bounds c o ho hc
  have h4 := Int.mul_ediv_add_emod c o
  unfold tot
  omega

theorem tot_succ (c o k : Int) (ho : 1 ≤ o) (hc : 0 ≤ c) (hk : k < o) : tot c o (k + 1) = tot c o k + share c o k := by
  unfold tot share
  rw [if_neg (by omega), Int.add_mul]
  by_cases h : k < c % o
  · rw [if_pos h]; omega
  · rw [if_neg h]; omega

theorem share_nonneg (c o k : Int) (ho : 1 ≤ o) (hc : 0 ≤ c) : 0 ≤ share c o k := by
  obtain ⟨q0, q1, r0, r1, qr⟩ := quo_bounds c o ho hc
  unfold share
  split
  · omega
  · split <;> omega

theorem share_le (c o k : Int) (ho : 1 ≤ o) (hc : 0 ≤ c) (hk : 0 ≤ k) : share c o k ≤ c := by
  obtain ⟨q0, q1, r0, r1, qr⟩ := quo_bounds c o ho hc
  unfold share
  split
  · omega
  · split <;> omega

/-- The shares never grow. -/
theorem share_down (c o k : Int) (ho : 1 ≤ o) (hc : 0 ≤ c) : share c o (k + 1) ≤ share c o k := by
  obtain ⟨q0, q1, r0, r1, qr⟩ := quo_bounds c o ho hc
  unfold share
  split
  · split
    · omega
    · split <;> omega
  · rw [if_neg (show ¬ o ≤ k by omega)]
    split
    · rw [if_pos (by omega)]; omega
    · split <;> omega

/-- Each share of an open lane is the first one, or one less. -/
theorem share_first (c o k : Int) (ho : 1 ≤ o) (hc : 0 ≤ c) (hk : 0 ≤ k) (hko : k < o) : share c o k ≤ share c o 0 ∧ share c o 0 - share c o k ≤ 1 := by
  obtain ⟨q0, q1, r0, r1, qr⟩ := quo_bounds c o ho hc
  unfold share
  rw [if_neg (show ¬ o ≤ k by omega), if_neg (show ¬ o ≤ 0 by omega)]
  constructor
  · split
    · rw [if_pos (by omega)]; omega
    · split <;> omega
  · split
    · split <;> omega
    · rw [if_neg (by omega)]; omega

/-- What the first k lanes hold is never more than the whole room. -/
theorem tot_mono (c o : Int) (ho : 1 ≤ o) (hc : 0 ≤ c) (n : Nat) : ∀ k : Int, k + n = o → tot c o k ≤ c := by
  induction n with
  | zero => intro k hk; have : k = o := by omega
            rw [this, tot_all c o ho hc]; omega
  | succ n ih =>
    intro k hk
    have h1 := ih (k + 1) (by omega)
    have h2 := tot_succ c o k ho hc (by omega)
    have h3 := share_nonneg c o k ho hc
    omega

theorem tot_le (c o k : Int) (ho : 1 ≤ o) (hc : 0 ≤ c) (hk : k ≤ o) : tot c o k ≤ c :=
  tot_mono c o ho hc (o - k).toNat k (by omega)

theorem tot_nonneg (c o k : Int) (ho : 1 ≤ o) (hc : 0 ≤ c) (hk : 0 ≤ k) : 0 ≤ tot c o k := by
  obtain ⟨q0, q1, r0, r1, qr⟩ := quo_bounds c o ho hc
  have h : 0 ≤ k * (c / o) := Int.mul_nonneg hk q0
  unfold tot
  omega

/-! ### THE WALK: the Go text returns true. -/
theorem walk (a0 : Int) (a1 : Int) (w0 : (Lit.int .i64 a0).wf = true) (w1 : (Lit.int .i64 a1).wf = true) (w : World) :
    Calls Try.prog 4 #[.int .i64 a0, .int .i64 a1] w fun e w' => e = .returned (.bool true) ∧ Grown w w' := by
  have b0 := bounds_i64 w0
  have b1 := bounds_i64 w1
  clear w0 w1
  by_cases h1 : a1 < 1
  · go_enter Try.func4, Try.ntmps4
    go_wp2
    go_ret
    exact ⟨rfl, Grown.refl _⟩
  have h1' : 1 ≤ a1 := by omega
  clear h1
  by_cases h2 : 65536 < a1
  · go_enter Try.func4, Try.ntmps4
    go_wp2
    go_ret
    exact ⟨rfl, Grown.refl _⟩
  have h2' : a1 ≤ 65536 := by omega
  clear h2
  by_cases h3 : a0 < 0
  · go_enter Try.func4, Try.ntmps4
    go_wp2
    go_ret
    exact ⟨rfl, Grown.refl _⟩
  have h3' : 0 ≤ a0 := by omega
  clear h3
  have f0 := share_nonneg a0 a1 0 h1' h3'
  have f1 := share_le a0 a1 0 h1' h3' (by omega)
  go_enter Try.func4, Try.ntmps4
  go_wp2_with (first
    | (go_at_call 5; refine (new_any a0 a1 _).mono ?_; rintro e x ⟨rfl, hc0, hc6, hg⟩)
    | (go_at_call 6; refine (lanesShare_any _ a0 a1 0 _ hc0 hc6 h1' h3' b0.2 (by omega)).mono ?_; rintro e y ⟨rfl, n, rfl⟩))
  go_loopw [7, 8, 9] (fun p t i wr => ∃ (k : Nat) (pv : Int), (k : Int) ≤ a1 ∧ i = .int .i64 k ∧ t = .int .i64 (tot a0 a1 k) ∧ p = .int .i64 pv ∧ share a0 a1 k ≤ pv ∧ wr.cell? ⟨w.heap.size, 0, none⟩ = some (.int .i64 a0) ∧ wr.cell? ⟨w.heap.size, 6, none⟩ = some (.int .i64 a1) ∧ Grown w wr) (fun _ _ i _ => (a1 - intOf i).toNat)
  case atStart => exact ⟨0, share a0 a1 0, by omega, rfl, by rw [show ((0 : Nat) : Int) = 0 from rfl, tot_zero a0 a1 h1' h3'], rfl, Int.le_refl _, hc0, hc6, hg⟩
  case round =>
    clear hc0 hc6 hg
    obtain ⟨k, pv, hk, rfl, rfl, rfl, hpv, hc0, hc6, hg⟩ := hrel
    have t0 := tot_nonneg a0 a1 k h1' h3' (by omega)
    have t1 := tot_le a0 a1 k h1' h3' hk
    by_cases hlt : (k : Int) < a1
    · have s0 := share_nonneg a0 a1 k h1' h3'
      have s1 := share_le a0 a1 k h1' h3' (by omega)
      obtain ⟨s2, s3⟩ := share_first a0 a1 k h1' h3' (by omega) hlt
      have t2 := tot_le a0 a1 (k + 1) h1' h3' (by omega)
      have t3 := tot_succ a0 a1 k h1' h3' hlt
      have sd := share_down a0 a1 k h1' h3'
      have s4 : share a0 a1 k ≤ a0 - tot a0 a1 k := by omega
      have s5 : tot a0 a1 k + share a0 a1 k ≤ a0 := by omega
      have HT : Hid (tot a0 a1 (k + 1) = tot a0 a1 k + share a0 a1 k) := t3
      clear t2 t3
      go_wp2_with (go_at_call 6; refine (lanesShare_any _ a0 a1 k _ hc0 hc6 h1' h3' b0.2 (by omega)).mono ?_; rintro e y ⟨rfl, n, rfl⟩)
      go_roundw
      case rel => exact ⟨k + 1, share a0 a1 k, by omega, by go_num, by rw [show ((k + 1 : Nat) : Int) = (k : Int) + 1 from rfl, HT.out], rfl, sd, hc0, hc6, hg⟩
      case measure => simp [intOf]; omega
    · obtain rfl : (k : Int) = a1 := by omega
      have e1 : tot a0 k k = a0 := tot_all a0 k h1' h3'
      have e2 : share a0 k k = 0 := share_out a0 k k h1' h3' (by omega) (.inl (Int.le_refl _))
      clear hlt t0 t1 hpv
      go_wp2_with (go_at_call 6; refine (lanesShare_any _ a0 k k _ hc0 hc6 h1' h3' b0.2 (by omega)).mono ?_; rintro e y ⟨rfl, n, rfl⟩)
      go_ret
      exact ⟨rfl, hg⟩

/-! ### THE ROW's STEP: the guide's shell -/
set_option maxRecDepth 100000 in
theorem lifted (os : Os) (started : os.Started) (H : Type) (enc : TypeId × Value → H) :
    ReturnsInHanded {} Try.checked os 4 .any (Rows.fnLanesSharesSplitTheWholeRoomEvenlySpec.pre6 enc Try.prog Try.f4 Rows.fnLanesSharesSplitTheWholeRoomEvenlyRow.domain false) (Rows.fnLanesSharesSplitTheWholeRoomEvenlySpec.post enc Try.prog Try.f4 false true false false) := by
  refine returnsInHanded_of_change (C := Try.checked) own started (by kernel_rfl) Try.func4
    (ChangeSpec.witness6 (enc := enc) (C := Try.checked) false ⟨#[], #[.int .i64 0, .int .i64 0], []⟩ 8 (by kernel_rfl) (by kernel_rfl) (by kernel_rfl) (by kernel_rfl)) ?_
  intro W base args ds gs before hval0 hW hcnd _
  have hval : ∀ (j : Nat) t v, Try.f4.params[j]? = some t → args[j]? = some v → Value.okWide Try.prog W .any base t v := hval0
  have hW' := hW
  obtain ⟨p, q, hA0, hV, rfl, hfz, hnd⟩ := hW
  have hA : DataW.TrodAll enc Try.prog W 0 (fun _ => true) true Try.f4.params.toList args.toList ds p := hA0
  rw [Try.params4] at hA hval
  obtain ⟨v0, vs0, d0, ds0, p0, q0, hargs, rfl, rfl, h0, r0⟩ := trodAll_cons hA
  obtain ⟨v1, vs1, d1, ds1, p1, q1, rfl, rfl, rfl, h1, r1⟩ := trodAll_cons r0
  obtain ⟨rfl, rfl, rfl⟩ := trodAll_nil r1
  obtain rfl : args = #[v0, v1] := by cases args; simp_all
  obtain ⟨rfl, rfl⟩ := trodVars_none hV
  obtain ⟨a0, rfl, rfl, rfl, w0⟩ := open_int Try.underlying3 (hval 0 3 v0 rfl rfl) h0
  obtain ⟨a1, rfl, rfl, rfl, w1⟩ := open_int Try.underlying3 (hval 1 3 v1 rfl rfl) h1
  clear hA0 hval0
  simp only [List.append_nil] at hW'
  refine (walk a0 a1 w0 w1 W).mono fun e W' ⟨he, hg⟩ => ?_
  subst he
  exact ⟨_, rfl, post_of_same (pa := []) (pv := []) hW' (fun _ _ _ => (trodAll_cons_mk (shut_bool Try.underlying4 _) trodAll_mk0)) (fun sp _ => (trodAll_cons_mk (shut_int Try.underlying3 w0) (trodAll_cons_mk (shut_int Try.underlying3 w1) trodAll_mk0))) (fun _ _ => rfl) rfl
    (hg.frame _) hg.2.1 (ok_one (by kernel_rfl) rfl (okWide_bool_mk Try.underlying4 _))⟩

theorem over : Rows.fnLanesSharesSplitTheWholeRoomEvenlyRow.holds Try.pinned (OpenSpec.ofChange Rows.fnLanesSharesSplitTheWholeRoomEvenlySpec) :=
  OpenClaim.holds_of_wide 4 Try.f4 rfl rfl rfl rfl rfl rfl rfl ⟨rfl, rfl, rfl, rfl, rfl⟩ rfl rfl rfl rfl rfl (by kernel_rfl) Try.func4 (by kernel_rfl)
    (of_decide_eq_true (by kernel_rfl)) (by unfold Func.isWrapper; first | (rw [if_pos (by decide +kernel)]; kernel_rfl) | (rw [if_neg (by decide +kernel)]; exact ⟨rfl, rfl⟩))
    (fun os started H enc _ => lifted os started H enc)

/-- THE STATEMENT -/
theorem proved : Rows.FnLanesSharesSplitTheWholeRoomEvenlySaid :=
  over
end Go.Proofs.Qxb6609154a.fnLanesSharesSplitTheWholeRoomEvenly
