import Derived.Test.Qxb6603573aRows
import Derived.WalkKit
import Derived.WalkSpells
import Derived.WalkLawsBesides
import Derived.Laws.BytesArg
import Derived.Laws.Cover4
import Derived.Laws.IdiomStrings
namespace Go.Proofs.Qxb6603573a.U
open Go.RowKit

/-- The bytes of two slices, each of two. -/
theorem str_two (x0 x1 y0 y1 : Int) (hx0 : 0 ≤ x0 ∧ x0 ≤ 255) (hx1 : 0 ≤ x1 ∧ x1 ≤ 255) (hy0 : 0 ≤ y0 ∧ y0 ≤ 255) (hy1 : 0 ≤ y1 ∧ y1 ≤ 255) :
    ((strOfNums [x0, x1]).toList == (strOfNums [y0, y1]).toList) = (x0 == y0 && x1 == y1) := by
  have hof : ∀ x : Int, 0 ≤ x ∧ x ≤ 255 → (UInt8.ofNat x.toNat).toNat = x.toNat := fun x h => by simp [UInt8.toNat_ofNat']; omega
  rw [Bool.eq_iff_iff]
  simp only [ByteArray.toList_eq, strOfNums_data, List.map_cons, List.map_nil, beq_iff_eq, List.cons.injEq, and_true, Bool.and_eq_true, ← UInt8.toNat_inj, hof _ hx0, hof _ hx1, hof _ hy0, hof _ hy1]
  omega

/-- 'bytes.Equal' of two slices of two bytes. -/
theorem equal_two (b1 o1 c1 b2 o2 c2 : Nat) (x0 x1 y0 y1 : Int) (w : World)
    (hx0 : 0 ≤ x0 ∧ x0 ≤ 255) (hx1 : 0 ≤ x1 ∧ x1 ≤ 255) (hy0 : 0 ≤ y0 ∧ y0 ≤ 255) (hy1 : 0 ≤ y1 ∧ y1 ≤ 255)
    (h0 : w.cell? ⟨b1, o1, none⟩ = some (.int .u8 x0)) (h1 : w.cell? ⟨b1, o1 + 1, none⟩ = some (.int .u8 x1))
    (g0 : w.cell? ⟨b2, o2, none⟩ = some (.int .u8 y0)) (g1 : w.cell? ⟨b2, o2 + 1, none⟩ = some (.int .u8 y1)) (r : Bool) (hr : (x0 == y0 && x1 == y1) = r) :
    Calls Try.prog 27 #[.slice (some ⟨b1, o1, none⟩) 2 c1, .slice (some ⟨b2, o2, none⟩) 2 c2] w fun e w' => e = .returned (.bool r) ∧ w' = w := by
  have e1 := run_convert_bytes_arg (P := Try.prog) w 22 5 Try.underlying22 Try.underlying5 b1 o1 2 c1 [x0, x1] rfl (fun i hi => by
    match i, hi with
    | 0, _ => exact h0
    | 1, _ => exact h1) 9 Try.underlying9
  have e2 := run_convert_bytes_arg (P := Try.prog) w 22 5 Try.underlying22 Try.underlying5 b2 o2 2 c2 [y0, y1] rfl (fun i hi => by
    match i, hi with
    | 0, _ => exact g0
    | 1, _ => exact g1) 9 Try.underlying9
  have e3 := str_two x0 x1 y0 y1 hx0 hx1 hy0 hy1
  rw [hr] at e3
  generalize strOfNums [x0, x1] = s1 at *
  generalize strOfNums [y0, y1] = s2 at *
  clear hr h0 h1 g0 g1
  go_enter Try.func27, Try.ntmps27
  go_wp2
  go_ret
  exact ⟨rfl, rfl⟩

/-- 'bytes.HasPrefix(s, p)', p of two bytes. -/
theorem begins_two (b1 o1 n c1 b2 c2 : Nat) (x0 x1 y0 y1 : Int) (w : World) (hn : 2 ≤ n) (hn9 : n ≤ 4194304) (hc : n ≤ c1)
    (hx0 : 0 ≤ x0 ∧ x0 ≤ 255) (hx1 : 0 ≤ x1 ∧ x1 ≤ 255) (hy0 : 0 ≤ y0 ∧ y0 ≤ 255) (hy1 : 0 ≤ y1 ∧ y1 ≤ 255)
    (h0 : w.cell? ⟨b1, o1, none⟩ = some (.int .u8 x0)) (h1 : w.cell? ⟨b1, o1 + 1, none⟩ = some (.int .u8 x1))
    (g0 : w.cell? ⟨b2, 0, none⟩ = some (.int .u8 y0)) (g1 : w.cell? ⟨b2, 1, none⟩ = some (.int .u8 y1)) (r : Bool) (hr : (x0 == y0 && x1 == y1) = r) :
    Calls Try.prog 24 #[.slice (some ⟨b1, o1, none⟩) n c1, .slice (some ⟨b2, 0, none⟩) 2 c2] w fun e w' => e = .returned (.bool r) ∧ w' = w := by
  have H := show Hid _ from fun c1 c2 => equal_two b1 o1 c1 b2 0 c2 x0 x1 y0 y1 w hx0 hx1 hy0 hy1 h0 h1 g0 g1 r hr
  clear hr h0 h1 g0 g1 hx0 hx1 hy0 hy1
  go_enter Try.func24, Try.ntmps24
  go_wp2_with (go_at_call 27; refine (H.out _ _).mono ?_; rintro e w' ⟨rfl, rfl⟩)
  go_ret
  exact ⟨rfl, rfl⟩

theorem begins_short (a : Option Addr) (n c1 b2 c2 : Nat) (w : World) (hn : n < 2) :
    Calls Try.prog 24 #[.slice a n c1, .slice (some ⟨b2, 0, none⟩) 2 c2] w fun e w' => e = .returned (.bool false) ∧ w' = w := by
  go_enter Try.func24, Try.ntmps24
  go_wp2
  go_ret
  exact ⟨rfl, rfl⟩

/-- 'utf16Order' of fewer than two bytes. -/
theorem order_short (a : Option Addr) (n c1 : Nat) (w : World) (hn : n < 2) :
    Calls Try.prog 22 #[.slice a n c1] w fun e w' => e = .returned .nilIface ∧ Below w.heap.size w w' := by
  go_enter Try.func22, Try.ntmps22
  go_wp2_with (go_at_call 24; refine (begins_short _ _ _ _ _ _ hn).mono ?_; rintro e w' ⟨rfl, rfl⟩)
  go_ret
  exact ⟨rfl, ((Below.refl _ _).alloc (by simp) _).alloc (by simp) _⟩

theorem old_cell {w : World} {b i : Nat} {v : Value} (o : Obj) (hb : b < w.heap.size) (h : w.cell? ⟨b, i, none⟩ = some v) : (w.alloc o).cell? ⟨b, i, none⟩ = some v :=
  (((Below.refl w.heap.size w).alloc (Nat.le_refl _) o).cell (p := ⟨b, i, none⟩) hb).trans h
theorem old_cell2 {w : World} {b i : Nat} {v : Value} (o o' : Obj) (hb : b < w.heap.size) (h : w.cell? ⟨b, i, none⟩ = some v) : ((w.alloc o).alloc o').cell? ⟨b, i, none⟩ = some v :=
  old_cell o' (by simp; omega) (old_cell o hb h)

theorem order_little (b o n c1 : Nat) (w : World) (hn : 2 ≤ n) (hn9 : n ≤ 4194304) (hc : n ≤ c1) (hb : b < w.heap.size)
    (h0 : w.cell? ⟨b, o, none⟩ = some (.int .u8 255)) (h1 : w.cell? ⟨b, o + 1, none⟩ = some (.int .u8 254)) :
    Calls Try.prog 22 #[.slice (some ⟨b, o, none⟩) n c1] w fun e w' => e = .returned (.iface 50 (.agg #[])) ∧ Below w.heap.size w w' := by
  go_enter Try.func22, Try.ntmps22
  go_wp2_with fail
  refine (begins_two b o n c1 _ 2 255 254 255 254 _ hn hn9 hc (by omega) (by omega) (by omega) (by omega) (old_cell _ hb h0) (old_cell _ hb h1) (by simp) (by simp) true rfl).mono ?_
  rintro e w' ⟨rfl, rfl⟩
  go_wp2_with fail
  go_ret
  exact ⟨rfl, (Below.refl _ _).alloc (by simp) _⟩

theorem order_big (b o n c1 : Nat) (w : World) (hn : 2 ≤ n) (hn9 : n ≤ 4194304) (hc : n ≤ c1) (hb : b < w.heap.size)
    (h0 : w.cell? ⟨b, o, none⟩ = some (.int .u8 254)) (h1 : w.cell? ⟨b, o + 1, none⟩ = some (.int .u8 255)) :
    Calls Try.prog 22 #[.slice (some ⟨b, o, none⟩) n c1] w fun e w' => e = .returned (.iface 51 (.agg #[])) ∧ Below w.heap.size w w' := by
  go_enter Try.func22, Try.ntmps22
  go_wp2_with fail
  refine (begins_two b o n c1 _ 2 254 255 255 254 _ hn hn9 hc (by omega) (by omega) (by omega) (by omega) (old_cell _ hb h0) (old_cell _ hb h1) (by simp) (by simp) false rfl).mono ?_
  rintro e w' ⟨rfl, rfl⟩
  go_wp2_with fail
  refine (begins_two b o n c1 _ 2 254 255 254 255 _ hn hn9 hc (by omega) (by omega) (by omega) (by omega) (old_cell2 _ _ hb h0) (old_cell2 _ _ hb h1) (by simp) (by simp) true rfl).mono ?_
  rintro e w' ⟨rfl, rfl⟩
  go_wp2_with fail
  go_ret
  exact ⟨rfl, ((Below.refl _ _).alloc (by simp) _).alloc (by simp) _⟩

theorem order_none (b o n c1 : Nat) (x0 x1 : Int) (w : World) (hn : 2 ≤ n) (hn9 : n ≤ 4194304) (hc : n ≤ c1) (hb : b < w.heap.size)
    (hx0 : 0 ≤ x0 ∧ x0 ≤ 255) (hx1 : 0 ≤ x1 ∧ x1 ≤ 255)
    (h0 : w.cell? ⟨b, o, none⟩ = some (.int .u8 x0)) (h1 : w.cell? ⟨b, o + 1, none⟩ = some (.int .u8 x1))
    (nl : ¬ (x0 = 255 ∧ x1 = 254)) (nb : ¬ (x0 = 254 ∧ x1 = 255)) :
    Calls Try.prog 22 #[.slice (some ⟨b, o, none⟩) n c1] w fun e w' => e = .returned .nilIface ∧ Below w.heap.size w w' := by
  have e1 : (x0 == 255 && x1 == 254) = false := by rw [Bool.eq_false_iff]; simpa using nl
  have e2 : (x0 == 254 && x1 == 255) = false := by rw [Bool.eq_false_iff]; simpa using nb
  have E1 := show Hid _ from e1
  have E2 := show Hid _ from e2
  clear e1 e2 nl nb
  go_enter Try.func22, Try.ntmps22
  go_wp2_with fail
  refine (begins_two b o n c1 _ 2 x0 x1 255 254 _ hn hn9 hc hx0 hx1 (by omega) (by omega) (old_cell _ hb h0) (old_cell _ hb h1) (by simp) (by simp) false E1.out).mono ?_
  rintro e w' ⟨rfl, rfl⟩
  go_wp2_with fail
  refine (begins_two b o n c1 _ 2 x0 x1 254 255 _ hn hn9 hc hx0 hx1 (by omega) (by omega) (old_cell2 _ _ hb h0) (old_cell2 _ _ hb h1) (by simp) (by simp) false E2.out).mono ?_
  rintro e w' ⟨rfl, rfl⟩
  go_wp2_with fail
  go_ret
  exact ⟨rfl, ((Below.refl _ _).alloc (by simp) _).alloc (by simp) _⟩
end Go.Proofs.Qxb6603573a.U
