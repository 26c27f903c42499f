/-
  THE LAW 'Rows.FnEncodedLengthVendorIDAddsOneWordSaid', PROVED: the walk of the law over the contracts of Qxb6609158aAvp; the row's step by the guide's shell.
-/
import Derived.Test.Qxb6609158aRows
import Derived.WalkKit
import Derived.ProofKit
import Derived.OpenShut
import Derived.ShutString
import Derived.ChangeOld
import Derived.Below
import Derived.Test.Qxb6609158aAvp
namespace Go.Proofs.Qxb6609158a.fnEncodedLengthVendorIDAddsOneWord
open Go.ChangeShapes Go.WideShapes Go.ChangeAt Go.RowKit
open Go.Proofs.Qxb6609158a.avp (vnd_plain vnd_or vnd_and enc_words enc_vendor zz_vendor zz_plain bytes_small bytes_great)
set_option linter.unusedVariables false

theorem own : ownKnob Try.prog.godebug = none := by kernel_rfl
theorem laidOut : laidOutB Try.prog = true := by kernel_rfl

/-- WHAT THE WALK IS TOLD OF A SLICE OF INTEGERS THAT CAME IN: it is nil; or it leads to a row of 'cap' cells, the numbers 'zs' (the first 'len' are its elements, the rest its spare room), each fitting its kind. -/
def IsRow (k : IntKind) (w : World) (a : Option Addr) (len cap : Nat) (zs : List Int) : Prop :=
  (a = none ∧ len = 0 ∧ cap = 0 ∧ zs = []) ∨
  ∃ x, a = some x ∧ len ≤ cap ∧ cap ≤ maxLen ∧ zs.length = cap ∧ (∀ i, i < zs.length → w.cell? (x.add i) = some (.int k (zs.getD i 0))) ∧ ∀ n ∈ zs, (Lit.int k n).wf = true

/-! ### THE WALK: the Go text returns true, and writes nothing that was there -/
theorem walk (a0 : Int) (a1 : Int) (a2 : Int) (a3 : Option Addr) (len3 cap3 : Nat) (z3 : List Int) (w : World) (w0 : (Lit.int .u32 a0).wf = true) (w1 : (Lit.int .u8 a1).wf = true) (w2 : (Lit.int .u32 a2).wf = true) (w3 : IsRow .u8 w a3 len3 cap3 z3) :
    Calls Try.prog 3 #[.int .u32 a0, .int .u8 a1, .int .u32 a2, .slice a3 len3 cap3] w fun e w' => e = .returned (.bool true) ∧ Below w.heap.size w w' := by
  have b1 := bounds_u8 w1
  clear w0 w1 w2 w3
  by_cases hn : len3 ≤ 1048576
  · have v1 := vnd_or a1 b1.1 b1.2
    have v2 := vnd_and a1 b1.1 b1.2
    have v0 := vnd_plain a1 b1.1 b1.2
    obtain ⟨e1, e2, e3⟩ := enc_words len3
    have e4 := enc_vendor len3
    have V0 : Hid (avp.vnd a1 = decide (128 ≤ a1)) := v0
    have V1 : Hid (avp.vnd (bits .or .u8 a1 128) = true) := v1
    have V2 : Hid (avp.vnd (bits .and .u8 a1 127) = false) := v2
    clear v0 v1 v2
    by_cases hv : 128 ≤ a1
    · have v0 : Hid (avp.vnd a1 = true) := (by have := V0.out; simpa [hv] using this : avp.vnd a1 = _)
      go_enter Try.func3, Try.ntmps3
      go_wp2_with (first
        | (go_at_call 4; refine (bytes_small _ _ _ _ _ _ _ hn).mono ?_; rintro e w' ⟨rfl, rfl⟩)
        | (go_at_call 5; with_reducible refine (zz_vendor _ a1 _ _ _ _ _ v0.out hn).mono ?_; rintro e x1 ⟨rfl, g1⟩)
        | (go_at_call 5; with_reducible refine (zz_vendor _ (bits .or .u8 a1 128) _ _ _ _ _ V1.out hn).mono ?_; rintro e x2 ⟨rfl, g2⟩)
        | (go_at_call 5; with_reducible refine (zz_plain _ (bits .and .u8 a1 127) _ _ _ _ _ V2.out hn).mono ?_; rintro e x3 ⟨rfl, g3⟩))
      go_ret
      exact ⟨rfl, (g1.trans (g2.mono g1.size)).trans (g3.mono (Nat.le_trans g1.size g2.size))⟩
    · have v0 : Hid (avp.vnd a1 = false) := (by have := V0.out; simpa [hv] using this : avp.vnd a1 = _)
      have hv' : a1 < 128 := by omega
      clear hv
      go_enter Try.func3, Try.ntmps3
      go_wp2_with (first
        | (go_at_call 4; refine (bytes_small _ _ _ _ _ _ _ hn).mono ?_; rintro e w' ⟨rfl, rfl⟩)
        | (go_at_call 5; with_reducible refine (zz_plain _ a1 _ _ _ _ _ v0.out hn).mono ?_; rintro e x1 ⟨rfl, g1⟩)
        | (go_at_call 5; with_reducible refine (zz_vendor _ (bits .or .u8 a1 128) _ _ _ _ _ V1.out hn).mono ?_; rintro e x2 ⟨rfl, g2⟩)
        | (go_at_call 5; with_reducible refine (zz_plain _ (bits .and .u8 a1 127) _ _ _ _ _ V2.out hn).mono ?_; rintro e x3 ⟨rfl, g3⟩))
      go_ret
      exact ⟨rfl, (g1.trans (g2.mono g1.size)).trans (g3.mono (Nat.le_trans g1.size g2.size))⟩
  · have hn' : 1048576 < len3 := by omega
    clear hn
    go_enter Try.func3, Try.ntmps3
    go_wp2_with (go_at_call 4; refine (bytes_great _ _ _ _ _ _ _ hn').mono ?_; rintro e w' ⟨rfl, rfl⟩)
    go_ret
    exact ⟨rfl, Below.refl _ _⟩

/-! ### THE ROW's STEP: the guide's shell -/
set_option maxRecDepth 100000 in
theorem lifted (os : Os) (started : os.Started) (H : Type) (enc : TypeId × Value → H) :
    ReturnsInHanded {} Try.checked os 3 .any (Rows.fnEncodedLengthVendorIDAddsOneWordSpec.pre6 enc Try.prog Try.f3 Rows.fnEncodedLengthVendorIDAddsOneWordRow.domain false) (Rows.fnEncodedLengthVendorIDAddsOneWordSpec.post enc Try.prog Try.f3 false true false false) := by
  refine returnsInHanded_of_change (C := Try.checked) own started (by kernel_rfl) Try.func3
    (ChangeSpec.witness6 (enc := enc) (C := Try.checked) false ⟨#[], #[.int .u32 0, .int .u8 0, .int .u32 0, .slice none 0 0], []⟩ 8 (by kernel_rfl) (by kernel_rfl) (by kernel_rfl) (by kernel_rfl)) ?_
  intro W base args ds gs before hval0 hW hcnd _
  have hval : ∀ (j : Nat) t v, Try.f3.params[j]? = some t → args[j]? = some v → Value.okWide Try.prog W .any base t v := hval0
  have hW' := hW
  obtain ⟨p, q, hA0, hV, rfl, hfz, hnd⟩ := hW
  have hA : DataW.TrodAll enc Try.prog W 0 (fun _ => true) true Try.f3.params.toList args.toList ds p := hA0
  rw [Try.params3] at hA hval
  obtain ⟨v0, vs0, d0, ds0, p0, q0, hargs, rfl, rfl, h0, r0⟩ := trodAll_cons hA
  obtain ⟨v1, vs1, d1, ds1, p1, q1, rfl, rfl, rfl, h1, r1⟩ := trodAll_cons r0
  obtain ⟨v2, vs2, d2, ds2, p2, q2, rfl, rfl, rfl, h2, r2⟩ := trodAll_cons r1
  obtain ⟨v3, vs3, d3, ds3, p3, q3, rfl, rfl, rfl, h3, r3⟩ := trodAll_cons r2
  obtain ⟨rfl, rfl, rfl⟩ := trodAll_nil r3
  obtain rfl : args = #[v0, v1, v2, v3] := by cases args; simp_all
  obtain ⟨rfl, rfl⟩ := trodVars_none hV
  obtain ⟨a0, rfl, rfl, rfl, w0⟩ := open_int Try.underlying22 (hval 0 22 v0 rfl rfl) h0
  obtain ⟨a1, rfl, rfl, rfl, w1⟩ := open_int Try.underlying5 (hval 1 5 v1 rfl rfl) h1
  obtain ⟨a2, rfl, rfl, rfl, w2⟩ := open_int Try.underlying22 (hval 2 22 v2 rfl rfl) h2
  obtain ⟨a3, len3, cap3, rfl⟩ := okWide_slice Try.underlying23 (hval 3 23 v3 rfl rfl)
  have k3 := h3
  have lt3 : ∀ x ∈ p3, x.block < W.heap.size := by obtain ⟨m, hm⟩ := k3; exact DataW.trod_lt m _ _ _ hm
  obtain ⟨z3, w3⟩ : ∃ zs, IsRow .u8 W a3 len3 cap3 zs := by
    obtain ⟨fuel, hf⟩ := h3
    rcases open_ints Try.underlying23 Try.underlying5 (by kernel_rfl) hf with ⟨hcs, _⟩ | ⟨x, l, c, zs, hcs, _, hl, hm, hz, _, hcell, hwz⟩
    · simp [Value.cells] at hcs
      obtain ⟨rfl, rfl, rfl⟩ := hcs
      exact ⟨[], .inl ⟨rfl, rfl, rfl, rfl⟩⟩
    · simp [Value.cells] at hcs
      obtain ⟨rfl, rfl, rfl⟩ := hcs
      exact ⟨zs, .inr ⟨_, rfl, hl, hm, by simpa using hz, hcell, hwz⟩⟩
  clear hA0 hval0
  refine (walk a0 a1 a2 a3 len3 cap3 z3 W w0 w1 w2 w3).mono fun e W' ⟨he, bel⟩ => ?_
  subst he
  exact ⟨_, rfl, _, _, _, [], _, [], hW', trodAll_mk1 (shut_bool Try.underlying4 _), (trodAll_cons_mk (shut_int Try.underlying22 w0) (trodAll_cons_mk (shut_int Try.underlying5 w1) (trodAll_cons_mk (shut_int Try.underlying22 w2) (trodAll_cons_mk (Below.trod laidOut (by kernel_rfl) (of_decide_eq_true (by kernel_rfl)) k3 bel lt3) trodAll_mk0)))), rfl, bel.frame _, fun h => by cases h⟩

theorem over : Rows.fnEncodedLengthVendorIDAddsOneWordRow.holds Try.pinned (OpenSpec.ofChange Rows.fnEncodedLengthVendorIDAddsOneWordSpec) :=
  OpenClaim.holds_of_wide 3 Try.f3 rfl rfl rfl rfl rfl rfl rfl ⟨rfl, rfl, rfl, rfl, rfl⟩ rfl rfl rfl rfl rfl (by kernel_rfl) Try.func3 (by kernel_rfl)
    (of_decide_eq_true (by kernel_rfl)) (by unfold Func.isWrapper; first | (rw [if_pos (by decide +kernel)]; kernel_rfl) | (rw [if_neg (by decide +kernel)]; exact ⟨rfl, rfl⟩))
    (fun os started H enc _ => lifted os started H enc)

/-- THE STATEMENT -/
theorem proved : Rows.FnEncodedLengthVendorIDAddsOneWordSaid := over
end Go.Proofs.Qxb6609158a.fnEncodedLengthVendorIDAddsOneWord
