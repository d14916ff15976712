import Derived.Test.Qxb6603660aRows
import Derived.WalkKit
import Derived.WalkSpells
import Derived.LaidEqlPtr
namespace Go.Proofs.Qxb6603660a.fnAddressOfGivesFreshCopies
open Go.RowKit

/-- 'ZZnewValue': the struct is laid in one new block and handed back by value. -/
theorem new_any (a : ByteArray) (w : World) :
    Calls Try.prog 5 #[.string a] w fun e w' => e = .returned (.agg #[.string a]) ∧ w.alloc (.cells #[.string a] 24) = w' := by
  go_enter Try.func5, Try.ntmps5
  go_wp2
  exact bodyPost_ret (v := .agg #[.string a]) (by simp [results, Try.results5, go_sem]) rfl ⟨rfl, rfl⟩

/-- 'addressOf': the parameter is a new block; its address comes back. -/
theorem addr_any (a : ByteArray) (w : World) :
    Calls Try.prog 8 #[.agg #[.string a]] w fun e w' => e = .returned (.pointer (some ⟨w.heap.size, 0, none⟩)) ∧ w.alloc (.cells #[.string a] 24) = w' := by
  go_enter Try.func8, Try.ntmps8
  go_wp2
  go_ret
  exact ⟨rfl, rfl⟩

theorem zaddr_any (a : ByteArray) (w : World) :
    Calls Try.prog 6 #[.agg #[.string a]] w fun e w' => e = .returned (.pointer (some ⟨w.heap.size + 1, 0, none⟩)) ∧ (w.alloc (.cells #[.string a] 24)).alloc (.cells #[.string a] 24) = w' := by
  go_enter Try.func6, Try.ntmps6
  go_wp2_with fail
  refine (addr_any a _).mono ?_
  rintro e w' ⟨rfl, rfl⟩
  go_wp2
  go_ret
  exact ⟨by simp, rfl⟩

theorem data_any (a : ByteArray) (w : World) :
    Calls Try.prog 7 #[.agg #[.string a]] w fun e w' => e = .returned (.string a) ∧ w.alloc (.cells #[.string a] 24) = w' := by
  go_enter Try.func7, Try.ntmps7
  go_wp2
  go_ret
  exact ⟨rfl, rfl⟩

theorem size24 : (Try.prog.info? 24).map (·.size) = some 1 := by kernel_rfl

theorem heap_next (w : World) (o : Obj) : (w.alloc o).heap[w.heap.size]? = some o := by
  show (w.heap.push o)[w.heap.size]? = _
  simp

/-- The two addresses lie in two blocks: '==' says no. -/
theorem two_apart (w : World) (o1 o2 o3 : Obj) (c d : Array Value) :
    (binOp .eql 26 (.pointer (some ⟨w.heap.size + 1 + 1 + 1, 0, none⟩)) (.pointer (some ⟨w.heap.size + 1 + 1 + 1 + 1 + 1, 0, none⟩))).run Try.prog
      ((((((w.alloc o1).alloc o2).alloc o3).alloc (.cells c 24)).alloc (.cells c 24)).alloc (.cells d 24)) =
    .ok (.bool false) ((((((w.alloc o1).alloc o2).alloc o3).alloc (.cells c 24)).alloc (.cells c 24)).alloc (.cells d 24)) := by
  obtain ⟨j, hj, hjs⟩ := Option.map_eq_some_iff.1 size24
  refine run_eql_ptr_other _ (ca := c) (cb := d) (ta := 24) (tb := 24) Try.underlying26 hj (by rw [hjs]; decide) (by simp) ?_ ?_
  · have h := heap_next (((w.alloc o1).alloc o2).alloc o3) (.cells c 24)
    have e : (((w.alloc o1).alloc o2).alloc o3).heap.size = w.heap.size + 1 + 1 + 1 := by simp
    rw [e] at h
    show ((((((w.alloc o1).alloc o2).alloc o3).alloc (.cells c 24)).alloc (.cells c 24)).alloc (.cells d 24)).heap[w.heap.size + 1 + 1 + 1]? = _
    rw [Below.heap_alloc _ _ _ (by simp), Below.heap_alloc _ _ _ (by simp)]
    exact h
  · have h := heap_next (((((w.alloc o1).alloc o2).alloc o3).alloc (.cells c 24)).alloc (.cells c 24)) (.cells d 24)
    have e : (((((w.alloc o1).alloc o2).alloc o3).alloc (.cells c 24)).alloc (.cells c 24)).heap.size = w.heap.size + 1 + 1 + 1 + 1 + 1 := by simp
    rw [e] at h
    exact h
end Go.Proofs.Qxb6603660a.fnAddressOfGivesFreshCopies
