/-
  THE AVP's ENCODED LENGTH: the flags' bits, the walks of headerLength, pad, encodedLength and ZZEncodedLength.
-/
import Derived.Test.Qxb6609158aRows
import Derived.WalkKit
import Derived.ProofKit
import Derived.OpenShut
import Derived.ShutString
import Derived.ChangeOld
import Derived.Below
import Derived.Deep.RegionWith
namespace Go.Proofs.Qxb6609158a.avp
open Go.ChangeShapes Go.WideShapes Go.ChangeAt Go.RowKit
set_option linter.unusedVariables false

/-! ### PLAIN: the vendor flag is the bit 128 of a byte -/
/-- Does the byte f bear the vendor flag? -/
def vnd (f : Int) : Bool := bits .and .u8 f 128 != 0

theorem all_bytes (p : Int → Bool) (h : (List.range 256).all (fun n => p (n : Int)) = true) (f : Int) (h0 : 0 ≤ f) (h1 : f ≤ 255) : p f = true := by
  have e : ((f.toNat : Nat) : Int) = f := Int.toNat_of_nonneg h0
  have := List.all_eq_true.1 h f.toNat (by simp; omega)
  rwa [e] at this

theorem vnd_plain (f : Int) (h0 : 0 ≤ f) (h1 : f ≤ 255) : vnd f = decide (128 ≤ f) := by
  have := all_bytes (fun f => vnd f == decide (128 ≤ f)) (by decide +kernel) f h0 h1
  simpa using this
theorem vnd_or (f : Int) (h0 : 0 ≤ f) (h1 : f ≤ 255) : vnd (bits .or .u8 f 128) = true :=
  all_bytes (fun f => vnd (bits .or .u8 f 128)) (by decide +kernel) f h0 h1
theorem vnd_and (f : Int) (h0 : 0 ≤ f) (h1 : f ≤ 255) : vnd (bits .and .u8 f 127) = false := by
  have := all_bytes (fun f => !vnd (bits .and .u8 f 127)) (by decide +kernel) f h0 h1
  simpa using this

/-- The bytes that follow n bytes up to a multiple of four. -/
def padOf (n : Int) : Int := (4 - n % 4) % 4
/-- The encoded length of n bytes of data behind a header of h bytes. -/
def enc (h n : Int) : Int := h + n + padOf (h + n)

theorem pad_bounds (n : Int) : 0 ≤ padOf n ∧ padOf n ≤ 3 := by unfold padOf; omega
/-- Without a vendor id: the least multiple of four that holds the header and the data. -/
theorem enc_words (n : Int) : enc 8 n % 4 = 0 ∧ 8 + n ≤ enc 8 n ∧ enc 8 n < 8 + n + 4 := by unfold enc padOf; omega
/-- The vendor id adds one word. -/
theorem enc_vendor (n : Int) : enc 12 n = enc 8 n + 4 := by unfold enc padOf; omega

/-! ### THE WALKS -/
theorem header_vendor (c f v : Int) (s : Value) (w : World) (hb : vnd f = true) :
    Calls Try.prog 7 #[.agg #[.int .u32 c, .int .u8 f, .int .u32 v, s]] w fun e w' => e = .returned (.int .i64 12) ∧ w' = w.alloc (.cells #[.int .u32 c, .int .u8 f, .int .u32 v, s] 27) := by
  unfold vnd at hb
  go_enter Try.func7, Try.ntmps7
  go_wp2
  go_ret
  exact ⟨rfl, rfl⟩

theorem header_plain (c f v : Int) (s : Value) (w : World) (hb : vnd f = false) :
    Calls Try.prog 7 #[.agg #[.int .u32 c, .int .u8 f, .int .u32 v, s]] w fun e w' => e = .returned (.int .i64 8) ∧ w' = w.alloc (.cells #[.int .u32 c, .int .u8 f, .int .u32 v, s] 27) := by
  unfold vnd at hb
  go_enter Try.func7, Try.ntmps7
  go_wp2
  go_ret
  exact ⟨rfl, rfl⟩

theorem pad_any (n : Int) (w : World) (h0 : 0 ≤ n) (h1 : n ≤ 2000000) :
    Calls Try.prog 8 #[.int .i64 n] w fun e w' => e = .returned (.int .i64 (padOf n)) ∧ w' = w := by
  unfold padOf
  go_enter Try.func8, Try.ntmps8
  go_wp2
  go_ret
  exact ⟨rfl, rfl⟩

theorem encoded_vendor (c f v : Int) (a : Option Addr) (n cp : Nat) (w : World) (hb : vnd f = true) (hn : n ≤ 1048576) :
    Calls Try.prog 6 #[.agg #[.int .u32 c, .int .u8 f, .int .u32 v, .slice a n cp]] w fun e w' => e = .returned (.int .i64 (enc 12 n)) ∧ Below w.heap.size w w' := by
  unfold enc
  have hp := pad_bounds (12 + n)
  go_enter Try.func6, Try.ntmps6
  go_wp2
  go_region_with (go_at_call 7; refine (header_vendor _ _ _ _ _ hb).mono ?_; rintro e w' ⟨rfl, rfl⟩)
  all_goals (go_wp2_with (go_at_call 8; refine (pad_any _ _ (by omega) (by omega)).mono ?_; rintro e w' ⟨rfl, rfl⟩))
  all_goals go_ret
  all_goals exact ⟨rfl, (((Below.refl _ _).alloc (Nat.le_refl _) _).alloc (by simp) _).drew⟩

theorem encoded_plain (c f v : Int) (a : Option Addr) (n cp : Nat) (w : World) (hb : vnd f = false) (hn : n ≤ 1048576) :
    Calls Try.prog 6 #[.agg #[.int .u32 c, .int .u8 f, .int .u32 v, .slice a n cp]] w fun e w' => e = .returned (.int .i64 (enc 8 n)) ∧ Below w.heap.size w w' := by
  unfold enc
  have hp := pad_bounds (8 + n)
  go_enter Try.func6, Try.ntmps6
  go_wp2
  go_region_with (go_at_call 7; refine (header_plain _ _ _ _ _ hb).mono ?_; rintro e w' ⟨rfl, rfl⟩)
  all_goals (go_wp2_with (go_at_call 8; refine (pad_any _ _ (by omega) (by omega)).mono ?_; rintro e w' ⟨rfl, rfl⟩))
  all_goals go_ret
  all_goals exact ⟨rfl, (((Below.refl _ _).alloc (Nat.le_refl _) _).alloc (by simp) _).drew⟩

/-- 'ZZEncodedLength'. -/
theorem zz_vendor (c f v : Int) (a : Option Addr) (n cp : Nat) (w : World) (hb : vnd f = true) (hn : n ≤ 1048576) :
    Calls Try.prog 5 #[.agg #[.int .u32 c, .int .u8 f, .int .u32 v, .slice a n cp]] w fun e w' => e = .returned (.int .i64 (enc 12 n)) ∧ Below w.heap.size w w' := by
  go_enter Try.func5, Try.ntmps5
  go_wp2_with (go_at_call 6; refine (encoded_vendor _ _ _ _ _ _ _ hb hn).mono ?_; rintro e w' ⟨rfl, hw⟩)
  go_ret
  exact ⟨rfl, ((Below.refl _ _).alloc (Nat.le_refl _) _).trans (hw.mono (by simp))⟩

theorem zz_plain (c f v : Int) (a : Option Addr) (n cp : Nat) (w : World) (hb : vnd f = false) (hn : n ≤ 1048576) :
    Calls Try.prog 5 #[.agg #[.int .u32 c, .int .u8 f, .int .u32 v, .slice a n cp]] w fun e w' => e = .returned (.int .i64 (enc 8 n)) ∧ Below w.heap.size w w' := by
  go_enter Try.func5, Try.ntmps5
  go_wp2_with (go_at_call 6; refine (encoded_plain _ _ _ _ _ _ _ hb hn).mono ?_; rintro e w' ⟨rfl, hw⟩)
  go_ret
  exact ⟨rfl, ((Below.refl _ _).alloc (Nat.le_refl _) _).trans (hw.mono (by simp))⟩

/-- 'zzBytes_..': is the data at most 1<<20 bytes long? -/
theorem bytes_small (c f v : Int) (a : Option Addr) (n cp : Nat) (w : World) (hn : n ≤ 1048576) :
    Calls Try.prog 4 #[.int .u32 c, .int .u8 f, .int .u32 v, .slice a n cp] w fun e w' => e = .returned (.bool true) ∧ w' = w := by
  go_enter Try.func4, Try.ntmps4
  go_wp2
  go_ret
  exact ⟨rfl, rfl⟩

theorem bytes_great (c f v : Int) (a : Option Addr) (n cp : Nat) (w : World) (hn : 1048576 < n) :
    Calls Try.prog 4 #[.int .u32 c, .int .u8 f, .int .u32 v, .slice a n cp] w fun e w' => e = .returned (.bool false) ∧ w' = w := by
  go_enter Try.func4, Try.ntmps4
  go_wp2
  go_ret
  exact ⟨rfl, rfl⟩

end Go.Proofs.Qxb6609158a.avp
