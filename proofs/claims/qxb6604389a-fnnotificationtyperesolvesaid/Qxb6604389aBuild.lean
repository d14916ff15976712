import Derived.Test.Qxb6604389aStrs
import Derived.Laws.MakeOwn
namespace Go.Proofs.Qxb6604389a.N
open Go.RowKit

theorem info9 : (Try.prog.info? 9).map (fun i => (i.zero, i.size, i.bytes)) = some (some (.string ⟨#[]⟩), 1, 16) := by kernel_rfl
theorem info39 : (Try.prog.info? 39).map (fun i => (i.zero, i.size, i.bytes)) = some (some (.agg #[.string ⟨#[]⟩, .pointer none, .nilIface, .int .i16 0]), 4, 48) := by kernel_rfl

/-- A slot of the row that is copied: what has been copied, then empty strings. -/
def half (k : Nat) (S : Nat → ByteArray) (i : Nat) : Value := if i < k then .string (S i) else .string ⟨#[]⟩
theorem half_zero (S : Nat → ByteArray) : half 0 S = fun _ => .string ⟨#[]⟩ := by funext i; simp [half]
theorem half_step (k : Nat) (S : Nat → ByteArray) (i : Nat) : (if i = k then .string (S k) else half k S i) = half (k + 1) S i := by
  unfold half
  by_cases h : i = k
  · subst h; simp
  · rw [if_neg h]
    by_cases h2 : i < k
    · rw [if_pos h2, if_pos (by omega)]
    · rw [if_neg h2, if_neg (by omega)]
theorem rowIs_Ss {w : World} {b t n : Nat} {S : Nat → ByteArray} (h : w.rowIs b t n (half n S)) : Ss w b 0 n S :=
  ⟨h.lt, fun i hi => by rw [Nat.zero_add, h.cell hi]; simp [half, hi]⟩

/-- 'zzB1CopyStrings'. -/
theorem copy_any (b o n c : Nat) (S : Nat → ByteArray) (w : World) (hn : n ≤ 65536) (h : Ss w b o n S) :
    Calls Try.prog 6 #[.slice (some ⟨b, o, none⟩) n c] w fun e w' =>
      e = .returned (.slice (some ⟨w.heap.size, 0, none⟩) n n) ∧ Below w.heap.size w w' ∧ Ss w' w.heap.size 0 n S := by
  have hb := h.1
  have hc := h.2
  clear h
  have hmk := run_make_row' (P := Try.prog) 23 9 (.string ⟨#[]⟩) 16 Try.underlying23 info9 rfl .i64 .i64 n (by omega) (by omega)
  have hnil := fun w a n c => Lib.run_eql_slice_nil (P := Try.prog) w 23 9 a n c 0 0 Try.underlying23
  go_enter Try.func6, Try.ntmps6
  go_wp2
  go_loopw [4] (fun i wr => ∃ k : Nat, k ≤ n ∧ i = .int .i64 k ∧ Below w.heap.size w wr ∧ wr.rowIs w.heap.size 9 n (half k S)) (fun i _ => n - (intOf i).toNat)
  case atStart => exact ⟨0, Nat.zero_le _, rfl, (Below.refl _ _).alloc (Nat.le_refl _) _, by rw [half_zero]; exact World.rowIs_made _ _ _ _⟩
  case round =>
    obtain ⟨k, hk, rfl, hbel, hrow⟩ := hrel
    by_cases hlt : k < n
    · have hlt' : (k : Int) < (n : Int) := by omega
      have q1 := (hbel.cell (p := ⟨b, o + k, none⟩) hb).trans (hc k hlt)
      have q2 := hrow.cell hlt
      have q3 := hrow.frozen k
      have hb2 := (hbel.setCell (p := ⟨w.heap.size, k, none⟩) (Nat.le_refl _) (.string (S k)))
      have hr2 := (hrow.set k (.string (S k))).congr (fun i _ => half_step k S i)
      have HB := show Hid _ from hb2
      have HR := show Hid _ from hr2
      obtain ⟨v2, q2'⟩ : ∃ v, wr.cell? ⟨w.heap.size, k, none⟩ = some v := ⟨_, q2⟩
      clear q2 hb2 hr2 hbel hrow
      go_wp2
      go_roundw
      case rel => exact ⟨k + 1, by omega, by go_num, HB.out, HR.out⟩
      case measure => simp [intOf]; omega
    · have e : k = n := by omega
      subst e
      have HC := show Hid _ from rowIs_Ss hrow
      have HB := show Hid _ from hbel
      clear hrow hbel
      go_wp2
      go_ret
      exact ⟨rfl, HB.out, HC.out⟩

theorem copy_empty (x : Addr) (c : Nat) (w : World) :
    Calls Try.prog 6 #[.slice (some x) 0 c] w fun e w' => e = .returned (.slice (some ⟨w.heap.size, 0, none⟩) 0 0) ∧ Below w.heap.size w w' := by
  have hmk := run_make_row' (P := Try.prog) 23 9 (.string ⟨#[]⟩) 16 Try.underlying23 info9 rfl .i64 .i64 0 (by omega) (by omega)
  rw [Int.natCast_zero] at hmk
  have hnil := fun w a n c => Lib.run_eql_slice_nil (P := Try.prog) w 23 9 a n c 0 0 Try.underlying23
  go_enter Try.func6, Try.ntmps6
  go_wp2
  refine wp_loop_rounds 1 ?_
  rw [rounds_succ]
  go_wp2
  go_ret
  exact ⟨rfl, (Below.refl _ _).alloc (Nat.le_refl _) _⟩

theorem copy_nil (w : World) :
    Calls Try.prog 6 #[.slice none 0 0] w fun e w' => e = .returned (.slice none 0 0) ∧ Below w.heap.size w w' := by
  have hnil := fun w a n c => Lib.run_eql_slice_nil (P := Try.prog) w 23 9 a n c 0 0 Try.underlying23
  go_enter Try.func6, Try.ntmps6
  go_wp2
  go_ret
  exact ⟨rfl, Below.refl _ _⟩

/-- The members' row: every cell is there and may be written. -/
def Mem (w : World) (M n : Nat) : Prop := M < w.heap.size ∧ ∀ j, j < n * 4 → (∃ v, w.cell? ⟨M, j, none⟩ = some v) ∧ w.frozen? ⟨M, j, none⟩ = false

theorem Mem.set {w : World} {M n : Nat} (h : Mem w M n) (j : Nat) (x : Value) : Mem (w.setCell ⟨M, j, none⟩ x) M n := by
  refine ⟨by simpa [World.setCell] using h.1, fun i hi => ⟨?_, ?_⟩⟩
  · obtain ⟨v, hv⟩ := (h.2 i hi).1
    by_cases e : (⟨M, j, none⟩ : Addr) = ⟨M, i, none⟩
    · rw [e]; exact ⟨x, World.cell?_setCell_same _ _ _ hv⟩
    · exact ⟨v, (World.cell?_setCell_other _ _ _ _ e).trans hv⟩
  · rw [World.frozen?_setCell]; exact (h.2 i hi).2

theorem mem_made (w : World) (z : Array Value) (n : Nat) : Mem (w.alloc (.cells (madeCells z (n * 4)) 39)) w.heap.size n := by
  refine ⟨by simp, fun j hj => ⟨?_, World.frozen?_alloc_at _ _ _ _ rfl⟩⟩
  rw [World.cell?_alloc_at _ _ _ _ rfl, Array.getElem?_eq_getElem (by rw [size_madeCells]; exact hj)]
  exact ⟨_, rfl⟩

theorem make39 (n : Nat) (hn : n ≤ 65536) (w : World) : (Instr.makeSlice 28 (.int .i64 (n : Int)) (.int .i64 (n : Int))).run Try.prog w =
    .ok (.slice (some ⟨w.heap.size, 0, none⟩) n n) (w.alloc (.cells (madeCells #[.string ⟨#[]⟩, .pointer none, .nilIface, .int .i16 0] (n * 4)) 39)) := by
  obtain ⟨i, hi, hz0, hz1, hz2⟩ := info_parts info39
  have h := run_make (P := Try.prog) w 28 39 i _ Try.underlying28 hi hz0 .i64 .i64 (n : Int) (n : Int) (by omega) (by omega) (by rw [hz2]; omega) (by omega)
  rw [hz1] at h
  simpa [Value.cells] using h

set_option maxHeartbeats 1000000 in
theorem build_no (ck : Int) (cn : ByteArray) (b n c : Nat) (S : Nat → ByteArray) (w : World) (hn : n ≤ 65536) (h : Ss w b 0 n S) :
    Calls Try.prog 7 #[.bool false, .int .u32 ck, .string cn, .slice (some ⟨b, 0, none⟩) n c] w fun e w' => ∃ g m p, e = .returned (.tuple #[.pointer none, .slice g m p]) ∧ Below w.heap.size w w' := by
  have hb := h.1
  have HC := show Hid (Ss w b 0 n S) from h
  clear h
  have hmk := make39 n hn
  have hnil := fun w a n c => run_neq_slice_nil_any (P := Try.prog) w 23 9 a n c 0 0 Try.underlying23
  go_enter Try.func7, Try.ntmps7
  go_wp2
  go_loopw [12] (fun i wr => ∃ k : Nat, k ≤ n ∧ i = .int .i64 k ∧ Hid (Below w.heap.size w wr) ∧ Hid (Mem wr w.heap.size n)) (fun i _ => n - (intOf i).toNat)
  case atStart => exact ⟨0, Nat.zero_le _, rfl, (Below.refl _ _).alloc (Nat.le_refl _) _, mem_made _ _ _⟩
  case round =>
    obtain ⟨k, hk, rfl, HB, HM⟩ := hrel
    by_cases hlt : k < n
    · have hlt' : (k : Int) < (n : Int) := by omega
      have q1 : wr.cell? ⟨b, k, none⟩ = some (.string (S k)) := (HB.out.cell (p := ⟨b, k, none⟩) hb).trans (by have := HC.out.2 k hlt; rwa [Nat.zero_add] at this)
      obtain ⟨⟨v2, q2⟩, q3⟩ := HM.out.2 (k * 4) (by omega)
      go_wp2
      go_roundw
      case rel => exact ⟨k + 1, by omega, by go_num, HB.out.setCell (p := ⟨w.heap.size, k * 4, none⟩) (Nat.le_refl _) _, HM.out.set _ _⟩
      case measure => simp [intOf]; omega
    · go_wp2
      go_ret2
      exact ⟨_, _, _, rfl, HB.out⟩

theorem build_no_empty (ck : Int) (cn : ByteArray) (x : Addr) (c : Nat) (w : World) :
    Calls Try.prog 7 #[.bool false, .int .u32 ck, .string cn, .slice (some x) 0 c] w fun e w' => ∃ g m p, e = .returned (.tuple #[.pointer none, .slice g m p]) ∧ Below w.heap.size w w' := by
  have hmk := make39 0 (by omega)
  rw [Int.natCast_zero] at hmk
  have hnil := fun w a n c => run_neq_slice_nil_any (P := Try.prog) w 23 9 a n c 0 0 Try.underlying23
  go_enter Try.func7, Try.ntmps7
  go_wp2
  refine wp_loop_rounds 1 ?_
  rw [rounds_succ]
  go_wp2
  go_ret2
  exact ⟨_, _, _, rfl, (Below.refl _ _).alloc (Nat.le_refl _) _⟩

theorem build_no_nil (ck : Int) (cn : ByteArray) (w : World) :
    Calls Try.prog 7 #[.bool false, .int .u32 ck, .string cn, .slice none 0 0] w fun e w' => ∃ g m p, e = .returned (.tuple #[.pointer none, .slice g m p]) ∧ Below w.heap.size w w' := by
  have hnil := fun w a n c => run_neq_slice_nil_any (P := Try.prog) w 23 9 a n c 0 0 Try.underlying23
  go_enter Try.func7, Try.ntmps7
  go_wp2
  go_ret2
  exact ⟨_, _, _, rfl, Below.refl _ _⟩

/-- The content's TypeCode, as it is laid. -/
abbrev tcObj (ck : Int) (cn : ByteArray) : Obj := .cells #[.int .u32 ck, .string ⟨#[]⟩, .string cn, .slice none 0 0, .pointer none, .int .u32 0, .pointer none, .int .i32 0, .int .u16 0, .int .i16 0, .int .i16 0, .pointer none] 36

theorem tc_kept {w wr : World} {ck : Int} {cn : ByteArray} (h : Below (w.heap.size + 1) (w.alloc (tcObj ck cn)) wr) : IsTc wr w.heap.size ck cn none ∧ Below w.heap.size w wr :=
  ⟨(isTc_new w ck ⟨#[]⟩ cn (.slice none 0 0) none).below (Below.mono h (by simp)), ((Below.refl _ _).alloc (Nat.le_refl _) _).trans (Below.mono h (by omega))⟩

set_option maxHeartbeats 1000000 in
theorem build_yes (ck : Int) (cn : ByteArray) (b n c : Nat) (S : Nat → ByteArray) (w : World) (hn : n ≤ 65536) (h : Ss w b 0 n S) :
    Calls Try.prog 7 #[.bool true, .int .u32 ck, .string cn, .slice (some ⟨b, 0, none⟩) n c] w fun e w' => ∃ g m p, e = .returned (.tuple #[.pointer (some ⟨w.heap.size, 0, none⟩), .slice g m p]) ∧ IsTc w' w.heap.size ck cn none ∧ Below w.heap.size w w' := by
  have hb := h.1
  have HC := show Hid (Ss w b 0 n S) from h
  clear h
  have hmk := make39 n hn
  have hnil := fun w a n c => run_neq_slice_nil_any (P := Try.prog) w 23 9 a n c 0 0 Try.underlying23
  go_enter Try.func7, Try.ntmps7
  go_wp2
  go_loopw [12] (fun i wr => ∃ k : Nat, k ≤ n ∧ i = .int .i64 k ∧ Hid (Below (w.heap.size + 1) (w.alloc (tcObj ck cn)) wr) ∧ Hid (Mem wr (w.heap.size + 1) n)) (fun i _ => n - (intOf i).toNat)
  case atStart => exact ⟨0, Nat.zero_le _, rfl, (Below.refl _ _).alloc (by simp) _, by have h := mem_made (w.alloc (tcObj ck cn)) #[.string ⟨#[]⟩, .pointer none, .nilIface, .int .i16 0] n; rw [World.size_alloc] at h; exact h⟩
  case round =>
    obtain ⟨k, hk, rfl, HB, HM⟩ := hrel
    by_cases hlt : k < n
    · have hlt' : (k : Int) < (n : Int) := by omega
      have q1 : wr.cell? ⟨b, k, none⟩ = some (.string (S k)) := ((tc_kept HB.out).2.cell (p := ⟨b, k, none⟩) hb).trans (by have := HC.out.2 k hlt; rwa [Nat.zero_add] at this)
      obtain ⟨⟨v2, q2⟩, q3⟩ := HM.out.2 (k * 4) (by omega)
      go_wp2
      go_roundw
      case rel => exact ⟨k + 1, by omega, by go_num, HB.out.setCell (p := ⟨w.heap.size + 1, k * 4, none⟩) (Nat.le_refl _) _, HM.out.set _ _⟩
      case measure => simp [intOf]; omega
    · go_wp2
      go_ret2
      exact ⟨_, _, _, rfl, tc_kept HB.out⟩

theorem build_yes_empty (ck : Int) (cn : ByteArray) (x : Addr) (c : Nat) (w : World) :
    Calls Try.prog 7 #[.bool true, .int .u32 ck, .string cn, .slice (some x) 0 c] w fun e w' => ∃ g m p, e = .returned (.tuple #[.pointer (some ⟨w.heap.size, 0, none⟩), .slice g m p]) ∧ IsTc w' w.heap.size ck cn none ∧ Below w.heap.size w w' := by
  have hmk := make39 0 (by omega)
  rw [Int.natCast_zero] at hmk
  have hnil := fun w a n c => run_neq_slice_nil_any (P := Try.prog) w 23 9 a n c 0 0 Try.underlying23
  go_enter Try.func7, Try.ntmps7
  go_wp2
  refine wp_loop_rounds 1 ?_
  rw [rounds_succ]
  go_wp2
  go_ret2
  exact ⟨_, _, _, rfl, tc_kept ((Below.refl _ _).alloc (by simp) _)⟩

theorem build_yes_nil (ck : Int) (cn : ByteArray) (w : World) :
    Calls Try.prog 7 #[.bool true, .int .u32 ck, .string cn, .slice none 0 0] w fun e w' => ∃ g m p, e = .returned (.tuple #[.pointer (some ⟨w.heap.size, 0, none⟩), .slice g m p]) ∧ IsTc w' w.heap.size ck cn none ∧ Below w.heap.size w w' := by
  have hnil := fun w a n c => run_neq_slice_nil_any (P := Try.prog) w 23 9 a n c 0 0 Try.underlying23
  go_enter Try.func7, Try.ntmps7
  go_wp2
  go_ret2
  exact ⟨_, _, _, rfl, tc_kept (Below.refl _ _)⟩
end Go.Proofs.Qxb6604389a.N
