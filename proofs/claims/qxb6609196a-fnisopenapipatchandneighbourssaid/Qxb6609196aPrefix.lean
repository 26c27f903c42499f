/-
  isOpenAPI: the plain function, its four plain laws, the walks of strings.HasPrefix, isOpenAPI and ZZisOpenAPI.
-/
import Derived.Test.Qxb6609196aRows
import Derived.WalkKit
import Derived.ProofKit
import Derived.OpenShut
import Derived.ShutString
import Derived.Lib.Strings
import Derived.Lib.Slices
import Derived.Lib.Walk
namespace Go.Proofs.Qxb6609196a.openApi
open Go.ChangeShapes Go.WideShapes Go.ChangeAt Go.RowKit
set_option linter.unusedVariables false

/-! ### PLAIN: lists of bytes -/
/-- Two strings of different lengths are not equal, as the model asks it. -/
theorem other_of_size (v m : ByteArray) (h : v.size ≠ m.size) : (v.toList == m.toList) = false := by
  rw [Lib.toList_data, Lib.toList_data]
  refine beq_eq_false_iff_ne.2 fun e => h ?_
  rw [Lib.size_eq, Lib.size_eq, e]

/-- The minor, a full stop (byte 46) and a patch open with the minor and the full stop. -/
theorem patch_opens (m p : List UInt8) : Lib.hasPrefix (m ++ [46] ++ p) (m ++ [46]) = true := by
  unfold Lib.hasPrefix
  rw [List.isPrefixOf_iff_prefix]
  exact ⟨p, rfl⟩

/-- The minor, a digit nought (byte 48) and a patch do not. -/
theorem digit_does_not (m p : List UInt8) : Lib.hasPrefix (m ++ [48] ++ p) (m ++ [46]) = false := by
  unfold Lib.hasPrefix
  refine Bool.eq_false_iff.2 fun h => ?_
  rw [List.isPrefixOf_iff_prefix, List.append_assoc, List.prefix_append_right_inj] at h
  simp at h

/-- m opens with no longer text. -/
theorem shorter_does_not (m q : List UInt8) (h : m.length < q.length) : Lib.hasPrefix m q = false := by
  unfold Lib.hasPrefix
  refine Bool.eq_false_iff.2 fun e => ?_
  rw [List.isPrefixOf_iff_prefix] at e
  have := e.length_le
  omega

/-! ### THE WALKS -/
set_option maxHeartbeats 1000000 in
/-- strings.HasPrefix (the library's own text is walked, after the shelf's contract). -/
theorem hasPrefix_any (s p : ByteArray) (w : World) :
    Calls Try.prog 25 #[.string s, .string p] w fun e w' => e = .returned (.bool (Lib.hasPrefix s.data.toList p.data.toList)) ∧ w' = w := by
  rw [← Lib.hasPrefix_of_take, ← Lib.size_eq, ← Lib.size_eq]
  go_enter Try.func25, Try.ntmps25
  go_wp2
  · rename_i h
    go_ret
    refine ⟨?_, rfl⟩
    show Ending.returned (Value.bool ((s.extract 0 p.size).toList == p.toList)) = _
    rw [Lib.extract_toList, Lib.toList_data]
    simp [h]
  · rename_i h
    go_ret
    refine ⟨?_, rfl⟩
    show Ending.returned (Value.bool false) = _
    simp [h]

theorem isOpenAPI_same (v : ByteArray) (w : World) :
    Calls Try.prog 20 #[.string v, .string v] w fun e w' => e = .returned (.bool true) ∧ w' = w := by
  go_enter Try.func20, Try.ntmps20
  go_wp2_with (go_at_call 25; refine (hasPrefix_any _ _ _).mono ?_; rintro e w' ⟨rfl, rfl⟩)
  go_ret
  exact ⟨rfl, rfl⟩

theorem isOpenAPI_other (v m : ByteArray) (w : World) (hne : (v.toList == m.toList) = false) (hm : m.size ≤ 2000000) :
    Calls Try.prog 20 #[.string v, .string m] w fun e w' => e = .returned (.bool (Lib.hasPrefix v.data.toList (m.data.toList ++ [46]))) ∧ w' = w := by
  go_enter Try.func20, Try.ntmps20
  go_wp2_with (go_at_call 25; refine (hasPrefix_any _ _ _).mono ?_; rintro e w' ⟨rfl, rfl⟩)
  go_ret
  exact ⟨rfl, rfl⟩

/-- 'ZZisOpenAPI', at the four calls of the law. -/
theorem zz_same (m : ByteArray) (w : World) :
    Calls Try.prog 8 #[.string m, .string m] w fun e w' => e = .returned (.bool true) ∧ w' = w := by
  go_enter Try.func8, Try.ntmps8
  go_wp2_with (go_at_call 20; refine (isOpenAPI_same _ _).mono ?_; rintro e w' ⟨rfl, rfl⟩)
  go_ret
  exact ⟨rfl, rfl⟩

theorem zz_other (v m : ByteArray) (b : Bool) (w : World) (hs : v.size ≠ m.size) (hm : m.size ≤ 2000000) (hb : Lib.hasPrefix v.data.toList (m.data.toList ++ [46]) = b) :
    Calls Try.prog 8 #[.string v, .string m] w fun e w' => e = .returned (.bool b) ∧ w' = w := by
  subst hb
  go_enter Try.func8, Try.ntmps8
  go_wp2_with (go_at_call 20; refine (isOpenAPI_other _ _ _ (other_of_size v m hs) hm).mono ?_; rintro e w' ⟨rfl, rfl⟩)
  go_ret
  exact ⟨rfl, rfl⟩

theorem zz_patch (m p : ByteArray) (w : World) (hm : m.size ≤ 2000000) :
    Calls Try.prog 8 #[.string (m ++ ⟨#[46]⟩ ++ p), .string m] w fun e w' => e = .returned (.bool true) ∧ w' = w :=
  zz_other _ _ _ _ (by simp [ByteArray.size_append, ByteArray.size_mk']; omega) hm (by simpa using patch_opens m.data.toList p.data.toList)

theorem zz_digit (m p : ByteArray) (w : World) (hm : m.size ≤ 2000000) :
    Calls Try.prog 8 #[.string (m ++ ⟨#[48]⟩ ++ p), .string m] w fun e w' => e = .returned (.bool false) ∧ w' = w :=
  zz_other _ _ _ _ (by simp [ByteArray.size_append, ByteArray.size_mk']; omega) hm (by simpa using digit_does_not m.data.toList p.data.toList)

theorem zz_longer (m p : ByteArray) (w : World) (hm : m.size ≤ 400000) (hp : p.size ≤ 400000) :
    Calls Try.prog 8 #[.string m, .string (m ++ ⟨#[46]⟩ ++ p)] w fun e w' => e = .returned (.bool false) ∧ w' = w :=
  zz_other _ _ _ _ (by simp [ByteArray.size_append, ByteArray.size_mk']; omega) (by simp [ByteArray.size_append, ByteArray.size_mk']; omega) (shorter_does_not _ _ (by simp))

/-- 'zzBytes_..': are both strings together at most 1<<20 bytes long? -/
theorem bytes_small (m p : ByteArray) (w : World) (h : m.size + p.size ≤ 1048576) :
    Calls Try.prog 7 #[.string m, .string p] w fun e w' => e = .returned (.bool true) ∧ w' = w := by
  have h1 : m.size ≤ 1048576 := by omega
  have h2 : p.size ≤ 1048576 := by omega
  go_enter Try.func7, Try.ntmps7
  go_wp2
  go_ret
  exact ⟨rfl, rfl⟩

theorem bytes_great (m p : ByteArray) (w : World) (h : 1048576 < m.size + p.size) :
    Calls Try.prog 7 #[.string m, .string p] w fun e w' => e = .returned (.bool false) ∧ w' = w := by
  by_cases h1 : m.size ≤ 1048576
  · by_cases h2 : p.size ≤ 1048576
    · go_enter Try.func7, Try.ntmps7
      go_wp2
      go_ret
      exact ⟨rfl, rfl⟩
    · have h2' : 1048576 < p.size := by omega
      clear h2
      go_enter Try.func7, Try.ntmps7
      go_wp2
      go_ret
      exact ⟨rfl, rfl⟩
  · have h1' : 1048576 < m.size := by omega
    clear h1
    go_enter Try.func7, Try.ntmps7
    go_wp2
    go_ret
    exact ⟨rfl, rfl⟩

end Go.Proofs.Qxb6609196a.openApi
