/-
  THE LANES: the plain function of a lane's share, its plain laws, the walks of ZZnewLanes, (*lanes).share and ZZlanesShare.
-/
import Derived.Test.Qxb6609154aRows
import Derived.WalkKit
import Derived.ProofKit
import Derived.OpenShut
import Derived.ShutString
import Derived.Deep.QuietTactic
import Derived.BigQuiet
namespace Go.Proofs.Qxb6609154a.lanes
open Go.ChangeShapes Go.WideShapes Go.ChangeAt Go.RowKit
set_option linter.unusedVariables false

/-! ### PLAIN: no Go in sight -/
/-- The room of lane i: what 'share' computes. -/
def share (c o i : Int) : Int := if o ≤ i then 0 else if i < c % o then c / o + 1 else c / o

theorem quo_bounds (c o : Int) (ho : 1 ≤ o) (hc : 0 ≤ c) : 0 ≤ c / o ∧ c / o ≤ c ∧ 0 ≤ c % o ∧ c % o < o ∧ c / o + c % o ≤ c := by
  have h1 : 0 ≤ c / o := Int.ediv_nonneg hc (by omega)
  have h2 := Int.emod_nonneg c (show o ≠ 0 by omega)
  have h3 := Int.emod_lt_of_pos c (show 0 < o by omega)
  have h4 := Int.mul_ediv_add_emod c o
  have h5 : 1 * (c / o) ≤ o * (c / o) := Int.mul_le_mul_of_nonneg_right ho h1
  omega

/-- Dealing the places i, i+o, i+2o, .. below c gives lane i its share. -/
theorem dealt (c o i : Int) (ho : 1 ≤ o) (hc : 0 ≤ c) (hi : 0 ≤ i) (hio : i < o) (hic : i < c) : (c - 1 - i) / o + 1 = share c o i := by
  have h4 := Int.mul_ediv_add_emod c o
  obtain ⟨q0, q1, r0, r1, qr⟩ := quo_bounds c o ho hc
  unfold share
  rw [if_neg (by omega)]
  generalize c / o = q at *
  generalize c % o = r at *
  by_cases h : i < r
  · rw [if_pos h]
    have e : c - 1 - i = (r - 1 - i) + o * q := by omega
    rw [e, Int.add_mul_ediv_left _ _ (by omega), Int.ediv_eq_zero_of_lt (by omega) (by omega)]
    omega
  · rw [if_neg h]
    have e : c - 1 - i = (o + r - 1 - i) + o * (q - 1) := by rw [Int.mul_sub]; omega
    rw [e, Int.add_mul_ediv_left _ _ (by omega), Int.ediv_eq_zero_of_lt (by omega) (by omega)]
    omega

theorem share_out (c o i : Int) (ho : 1 ≤ o) (hc : 0 ≤ c) (hi : 0 ≤ i) (h : o ≤ i ∨ c ≤ i) : share c o i = 0 := by
  unfold share
  by_cases h1 : o ≤ i
  · rw [if_pos h1]
  · have hco : c < o := by omega
    rw [if_neg h1, Int.emod_eq_of_lt hc hco, Int.ediv_eq_zero_of_lt hc hco, if_neg (by omega)]

/-! ### THE WALKS -/
/-- The cells of a new 'lanes' of room c with o lanes open. -/
def fields (c o : Int) : Array Value :=
  #[.int .i64 c, .pointer none, .pointer none, .int .i32 0, .int .u32 0, .int .i64 0, .int .i64 o, .slice none 0 0,
    .int .u64 0, .int .i64 0, .pointer none, .string ⟨#[]⟩, .slice none 0 0, .pointer none, .bool false, .string ⟨#[]⟩]

/-- 'ZZnewLanes': one new block; its cells 0 and 6 are the room and the lanes open. -/
theorem new_any (c o : Int) (w : World) :
    Calls Try.prog 5 #[.int .i64 c, .int .i64 o] w fun e w' => e = .returned (.pointer (some ⟨w.heap.size, 0, none⟩)) ∧ w'.cell? ⟨w.heap.size, 0, none⟩ = some (.int .i64 c) ∧ w'.cell? ⟨w.heap.size, 6, none⟩ = some (.int .i64 o) ∧ Grown w w' := by
  go_enter Try.func5, Try.ntmps5
  go_wp2
  go_ret
  exact ⟨rfl, by simp [go_sem], by simp [go_sem], Grown.alloc (Grown.refl _) _ _⟩

/-- '(*lanes).share', its three ways. -/
theorem share_past (b : Nat) (c o i : Int) (w : World) (h6 : w.cell? ⟨b, 6, none⟩ = some (.int .i64 o)) (hi : o ≤ i) :
    Calls Try.prog 8 #[.pointer (some ⟨b, 0, none⟩), .int .i64 i] w fun e w' => e = .returned (.int .i64 0) ∧ ∃ n, w' = w.drewN n := by
  go_enter Try.func8, Try.ntmps8
  go_wp2
  go_ret
  exact ⟨rfl, 0, rfl⟩

theorem share_more (b : Nat) (c o i : Int) (w : World) (h0 : w.cell? ⟨b, 0, none⟩ = some (.int .i64 c)) (h6 : w.cell? ⟨b, 6, none⟩ = some (.int .i64 o)) (ho : 1 ≤ o) (hc : 0 ≤ c) (hc' : c ≤ 9223372036854775807) (hi0 : 0 ≤ i) (hi : i < o)
    (hr : i < c % o) :
    Calls Try.prog 8 #[.pointer (some ⟨b, 0, none⟩), .int .i64 i] w fun e w' => e = .returned (.int .i64 (c / o + 1)) ∧ ∃ n, w' = w.drewN n := by
  obtain ⟨q0, q1, r0, r1, qr⟩ := quo_bounds c o ho hc
  go_enter Try.func8, Try.ntmps8
  go_wp2
  go_quiet (fail)
  go_wp2
  go_quiet (fail)
  go_wp2
  go_ret
  exact ⟨rfl, _, rfl⟩

theorem share_less (b : Nat) (c o i : Int) (w : World) (h0 : w.cell? ⟨b, 0, none⟩ = some (.int .i64 c)) (h6 : w.cell? ⟨b, 6, none⟩ = some (.int .i64 o)) (ho : 1 ≤ o) (hc : 0 ≤ c) (hc' : c ≤ 9223372036854775807) (hi0 : 0 ≤ i) (hi : i < o)
    (hr : c % o ≤ i) :
    Calls Try.prog 8 #[.pointer (some ⟨b, 0, none⟩), .int .i64 i] w fun e w' => e = .returned (.int .i64 (c / o)) ∧ ∃ n, w' = w.drewN n := by
  obtain ⟨q0, q1, r0, r1, qr⟩ := quo_bounds c o ho hc
  go_enter Try.func8, Try.ntmps8
  go_wp2
  go_quiet (fail)
  go_wp2
  go_quiet (fail)
  go_wp2
  go_ret
  exact ⟨rfl, _, by rw [World.drewN_drewN]⟩

theorem share_any (b : Nat) (c o i : Int) (w : World) (h0 : w.cell? ⟨b, 0, none⟩ = some (.int .i64 c)) (h6 : w.cell? ⟨b, 6, none⟩ = some (.int .i64 o)) (ho : 1 ≤ o) (hc : 0 ≤ c) (hc' : c ≤ 9223372036854775807) (hi0 : 0 ≤ i) :
    Calls Try.prog 8 #[.pointer (some ⟨b, 0, none⟩), .int .i64 i] w fun e w' => e = .returned (.int .i64 (share c o i)) ∧ ∃ n, w' = w.drewN n := by
  unfold share
  by_cases h1 : o ≤ i
  · rw [if_pos h1]
    exact share_past b c o i w h6 h1
  · rw [if_neg h1]
    by_cases h2 : i < c % o
    · rw [if_pos h2]
      exact share_more b c o i w h0 h6 ho hc hc' hi0 (by omega) h2
    · rw [if_neg h2]
      exact share_less b c o i w h0 h6 ho hc hc' hi0 (by omega) (by omega)

/-- 'ZZlanesShare'. -/
theorem lanesShare_any (b : Nat) (c o i : Int) (w : World) (h0 : w.cell? ⟨b, 0, none⟩ = some (.int .i64 c)) (h6 : w.cell? ⟨b, 6, none⟩ = some (.int .i64 o)) (ho : 1 ≤ o) (hc : 0 ≤ c) (hc' : c ≤ 9223372036854775807) (hi0 : 0 ≤ i) :
    Calls Try.prog 6 #[.pointer (some ⟨b, 0, none⟩), .int .i64 i] w fun e w' => e = .returned (.int .i64 (share c o i)) ∧ ∃ n, w' = w.drewN n := by
  go_enter Try.func6, Try.ntmps6
  go_wp2_with (go_at_call 8; refine (share_any b c o i _ h0 h6 ho hc hc' hi0).mono ?_; rintro e w' ⟨rfl, n, rfl⟩)
  go_ret
  exact ⟨rfl, _, rfl⟩

/-- 'zzDealtRoundRobin'. -/
theorem dealt_any (c o i : Int) (w : World) (ho : 1 ≤ o) (ho' : o ≤ 9223372036854775807) (hc : 0 ≤ c) (hc' : c ≤ 9223372036854775807) (hi0 : 0 ≤ i) (hi' : i ≤ 9223372036854775807) :
    Calls Try.prog 7 #[.int .i64 c, .int .i64 o, .int .i64 i] w fun e w' => e = .returned (.int .i64 (share c o i)) ∧ w' = w := by
  by_cases h1 : o ≤ i
  · rw [share_out c o i ho hc hi0 (.inl h1)]
    go_enter Try.func7, Try.ntmps7
    go_wp2
    go_ret
    exact ⟨rfl, rfl⟩
  · by_cases h2 : c ≤ i
    · rw [share_out c o i ho hc hi0 (.inr h2)]
      have h1' : i < o := by omega
      clear h1
      go_enter Try.func7, Try.ntmps7
      go_wp2
      go_ret
      exact ⟨rfl, rfl⟩
    · rw [← dealt c o i ho hc hi0 (by omega) (by omega)]
      have h1' : i < o := by omega
      have h2' : i < c := by omega
      clear h1 h2
      obtain ⟨q0, q1, r0, r1, qr⟩ := quo_bounds (c - 1 - i) o ho (by omega)
      go_enter Try.func7, Try.ntmps7
      go_wp2
      go_ret
      exact ⟨rfl, rfl⟩

end Go.Proofs.Qxb6609154a.lanes
