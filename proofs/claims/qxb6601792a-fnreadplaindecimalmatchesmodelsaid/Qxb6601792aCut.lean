import Derived.Test.Qxb6601792aRows
import Derived.WalkKit
import Derived.WalkSpells
import Derived.Lib.Strings
import Derived.Test.Qxb6601792aPlain
namespace Go.Proofs.Qxb6601792a.Pd
open Go.RowKit

theorem head_list (a : ByteArray) (h0 : 0 < a.size) : (a.extract 0 1).toList = [a[0]'h0] := by
  rw [Lib.extract_toList]
  have hl : 0 < a.data.toList.length := by simpa using h0
  simp only [List.drop_zero, Nat.sub_zero]
  rw [List.take_succ_eq_append_getElem (by simpa using h0)]
  simp
  rfl

theorem head_is (a : ByteArray) (h0 : 0 < a.size) (b : Bool) (h : (((a[0]'h0).toNat : Int) == 45) = b) : ((a.extract 0 1).toList == [45]) = b := by
  rw [head_list a h0, ← h, Bool.eq_iff_iff]
  simp only [beq_iff_eq, List.cons.injEq, and_true]
  rw [← UInt8.toNat_inj]
  show (a[0]'h0).toNat = 45 ↔ _
  omega

/-- 'strings.CutPrefix(s, "-")'. -/
theorem cut_empty (a : ByteArray) (w : World) (h : a.size = 0) :
    Calls Try.prog 13 #[.string a, .string ⟨#[45]⟩] w fun e w' => e = .returned (.tuple #[.string a, .bool false]) ∧ w' = w := by
  have h0 : ¬ (1 : Int) ≤ (a.size : Int) := by omega
  clear h
  go_enter Try.func13, Try.ntmps13
  go_wp2
  go_ret2
  exact ⟨rfl, rfl⟩

theorem cut_no (a : ByteArray) (w : World) (ha : a.size ≤ 1048576) (h0 : 0 < a.size) (h : (((a[0]'h0).toNat : Int) == 45) = false) :
    Calls Try.prog 13 #[.string a, .string ⟨#[45]⟩] w fun e w' => e = .returned (.tuple #[.string a, .bool false]) ∧ w' = w := by
  have h1 := head_is a h0 _ h
  clear h
  go_enter Try.func13, Try.ntmps13
  go_wp2
  go_ret2
  exact ⟨rfl, rfl⟩

theorem cut_yes (a : ByteArray) (w : World) (ha : a.size ≤ 1048576) (h0 : 0 < a.size) (h : (((a[0]'h0).toNat : Int) == 45) = true) :
    Calls Try.prog 13 #[.string a, .string ⟨#[45]⟩] w fun e w' => e = .returned (.tuple #[.string (a.extract 1 a.size), .bool true]) ∧ w' = w := by
  have h1 := head_is a h0 _ h
  clear h
  go_enter Try.func13, Try.ntmps13
  go_wp2
  go_ret2
  exact ⟨rfl, rfl⟩
end Go.Proofs.Qxb6601792a.Pd
