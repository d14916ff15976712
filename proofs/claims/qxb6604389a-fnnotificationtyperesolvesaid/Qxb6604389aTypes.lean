import Derived.Test.Qxb6604389aRows
import Derived.WalkKit
import Derived.WalkSpells
import Derived.WalkLawsBesides
import Derived.LaidEqlPtr
import Derived.Deep.OwnRows
namespace Go.Proofs.Qxb6604389a.N
open Go.RowKit

/-- What is known of a TypeCode in memory: its kind, its name, its content. -/
def IsTc (w : World) (b : Nat) (k : Int) (name : ByteArray) (pc : Option Addr) : Prop :=
  b < w.heap.size ∧ w.cell? ⟨b, 0, none⟩ = some (.int .u32 k) ∧ w.cell? ⟨b, 2, none⟩ = some (.string name) ∧ w.cell? ⟨b, 4, none⟩ = some (.pointer pc) ∧ ∃ c, w.heap[b]? = some (.cells c 36 (0, 0))

theorem IsTc.below {w w' : World} {b : Nat} {k : Int} {name : ByteArray} {pc : Option Addr} (h : IsTc w b k name pc) (hb : Below w.heap.size w w') : IsTc w' b k name pc := by
  obtain ⟨h1, h2, h3, h4, c, h5⟩ := h
  exact ⟨Nat.lt_of_lt_of_le h1 hb.size, (hb.cell (p := ⟨b, 0, none⟩) h1).trans h2, (hb.cell (p := ⟨b, 2, none⟩) h1).trans h3, (hb.cell (p := ⟨b, 4, none⟩) h1).trans h4, c, (hb.block b h1).trans h5⟩

theorem heap_next (w : World) (o : Obj) : (w.alloc o).heap[w.heap.size]? = some o := by
  show (w.heap.push o)[w.heap.size]? = _
  simp

theorem isTc_new (w : World) (k : Int) (id name : ByteArray) (x3 : Value) (pc : Option Addr) :
    IsTc (w.alloc (.cells #[.int .u32 k, .string id, .string name, x3, .pointer pc, .int .u32 0, .pointer none, .int .i32 0, .int .u16 0, .int .i16 0, .int .i16 0, .pointer none] 36)) w.heap.size k name pc :=
  ⟨by simp, by simp, by simp, by simp, _, heap_next _ _⟩

/-- 'standardType'. -/
theorem std_any (m name : ByteArray) (k : Int) (pc : Option Addr) (ma : Option Addr) (mn mc : Nat) (w : World) (hm : m.size ≤ 1048576) (hn : name.size ≤ 1048576) :
    Calls Try.prog 12 #[.string m, .int .u32 k, .string name, .pointer pc, .slice ma mn mc] w fun e w' => e = .returned (.pointer (some ⟨w.heap.size, 0, none⟩)) ∧
      IsTc w' w.heap.size k name pc ∧ Below w.heap.size w w' := by
  go_enter Try.func12, Try.ntmps12
  go_wp2
  go_ret
  exact ⟨rfl, isTc_new _ _ _ _ _ _, (Below.refl _ _).alloc (Nat.le_refl _) _⟩

/-- 'notificationType', 'ZZB1notificationType'. -/
theorem notif_any (name : ByteArray) (k : Int) (pc : Option Addr) (ma : Option Addr) (mn mc : Nat) (w : World) (hn : name.size ≤ 1048576) :
    Calls Try.prog 10 #[.int .u32 k, .string name, .pointer pc, .slice ma mn mc] w fun e w' => e = .returned (.pointer (some ⟨w.heap.size, 0, none⟩)) ∧
      IsTc w' w.heap.size k name pc ∧ Below w.heap.size w w' := by
  go_enter Try.func10, Try.ntmps10
  go_wp2_with (go_at_call 12; refine (std_any _ name k pc ma mn mc _ (by decide) hn).mono ?_; rintro e w1 ⟨rfl, h1, h2⟩)
  go_ret
  exact ⟨rfl, h1, h2⟩

theorem zz_any (name : ByteArray) (k : Int) (pc : Option Addr) (ma : Option Addr) (mn mc : Nat) (w : World) (hn : name.size ≤ 1048576) :
    Calls Try.prog 8 #[.int .u32 k, .string name, .pointer pc, .slice ma mn mc] w fun e w' => e = .returned (.pointer (some ⟨w.heap.size, 0, none⟩)) ∧
      IsTc w' w.heap.size k name pc ∧ Below w.heap.size w w' := by
  go_enter Try.func8, Try.ntmps8
  go_wp2_with (go_at_call 10; refine (notif_any name k pc ma mn mc _ hn).mono ?_; rintro e w1 ⟨rfl, h1, h2⟩)
  go_ret
  exact ⟨rfl, h1, h2⟩

/-- 'resolve' of what is no alias. -/
theorem resolve_other (b : Nat) (k : Int) (w : World) (hk : (k == 21) = false) (h0 : w.cell? ⟨b, 0, none⟩ = some (.int .u32 k)) :
    Calls Try.prog 11 #[.pointer (some ⟨b, 0, none⟩)] w fun e w' => ∃ n, e = .returned (.tuple #[.pointer (some ⟨b, 0, none⟩), .int .i64 n]) ∧ w' = w := by
  go_enter Try.func11, Try.ntmps11
  go_wp2
  refine wp_loop_rounds 1 ?_
  rw [rounds_succ]
  go_wp2
  go_ret2
  exact ⟨_, rfl, rfl⟩

/-- .. of an alias of nothing. -/
theorem resolve_bare (b : Nat) (w : World) (h0 : w.cell? ⟨b, 0, none⟩ = some (.int .u32 21)) (h4 : w.cell? ⟨b, 4, none⟩ = some (.pointer none)) :
    Calls Try.prog 11 #[.pointer (some ⟨b, 0, none⟩)] w fun e w' => ∃ n, e = .returned (.tuple #[.pointer (some ⟨b, 0, none⟩), .int .i64 n]) ∧ w' = w := by
  go_enter Try.func11, Try.ntmps11
  go_wp2
  refine wp_loop_rounds 1 ?_
  rw [rounds_succ]
  go_wp2
  go_ret2
  exact ⟨_, rfl, rfl⟩

/-- .. of an alias of what has no content of its own. -/
theorem resolve_alias (b d : Nat) (k : Int) (w : World) (h0 : w.cell? ⟨b, 0, none⟩ = some (.int .u32 21)) (h4 : w.cell? ⟨b, 4, none⟩ = some (.pointer (some ⟨d, 0, none⟩)))
    (d0 : w.cell? ⟨d, 0, none⟩ = some (.int .u32 k)) (d4 : w.cell? ⟨d, 4, none⟩ = some (.pointer none)) :
    Calls Try.prog 11 #[.pointer (some ⟨b, 0, none⟩)] w fun e w' => ∃ n, e = .returned (.tuple #[.pointer (some ⟨d, 0, none⟩), .int .i64 n]) ∧ w' = w := by
  cases hk : (k == 21)
  · go_enter Try.func11, Try.ntmps11
    go_wp2
    refine wp_loop_rounds 2 ?_
    rw [rounds_succ]
    go_wp2
    rw [rounds_succ]
    go_wp2
    go_ret2
    exact ⟨_, rfl, rfl⟩
  · go_enter Try.func11, Try.ntmps11
    go_wp2
    refine wp_loop_rounds 2 ?_
    rw [rounds_succ]
    go_wp2
    rw [rounds_succ]
    go_wp2
    go_ret2
    exact ⟨_, rfl, rfl⟩

/-- 'Resolve' hands on the first of what 'resolve' hands back. -/
theorem Resolve_of (v r : Value) (w : World) (h : Hid (Calls Try.prog 11 #[v] w fun e w' => ∃ n, e = .returned (.tuple #[r, .int .i64 n]) ∧ w' = w)) :
    Calls Try.prog 9 #[v] w fun e w' => e = .returned r ∧ w' = w := by
  go_enter Try.func9, Try.ntmps9
  go_wp2_with (go_at_call 11; refine h.out.mono ?_; rintro e w1 ⟨n, rfl, rfl⟩)
  go_ret
  exact ⟨rfl, rfl⟩
end Go.Proofs.Qxb6604389a.N
