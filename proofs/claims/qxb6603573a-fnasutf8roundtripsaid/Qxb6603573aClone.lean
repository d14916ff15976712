import Derived.Test.Qxb6603573aSmall
import Derived.Deep.OwnRows
namespace Go.Proofs.Qxb6603573a.U
open Go.RowKit

theorem info5 : (Try.prog.info? 5).map (fun i => (i.zero, i.size, i.bytes)) = some (some (.int .u8 0), 1, 1) := by kernel_rfl

/-- A slot of the row that is copied: what has been copied, then zeros. -/
def half (K : IntKind) (k : Nat) (f : Nat → Int) (i : Nat) : Value := if i < k then .int K (f i) else .int K 0

theorem half_zero (K : IntKind) (f : Nat → Int) : half K 0 f = fun _ => .int K 0 := by funext i; simp [half]
theorem half_step (K : IntKind) (k : Nat) (f : Nat → Int) (i : Nat) : (if i = k then .int K (f k) else half K k f i) = half K (k + 1) f i := by
  unfold half
  by_cases h : i = k
  · subst h; simp
  · rw [if_neg h]
    by_cases h2 : i < k
    · rw [if_pos h2, if_pos (by omega)]
    · rw [if_neg h2, if_neg (by omega)]

theorem rowIs_Cs {K : IntKind} {w : World} {b t n : Nat} {f : Nat → Int} (h : w.rowIs b t n (half K n f)) : Cs K w b 0 n f :=
  ⟨h.lt, fun i hi => by rw [Nat.zero_add, h.cell hi]; simp [half, hi]⟩

theorem clone_any (b o n c : Nat) (f : Nat → Int) (w : World) (hn : n ≤ 1048576) (h0 : 0 < n) (h : Cs .u8 w b o n f) :
    Calls Try.prog 6 #[.slice (some ⟨b, o, none⟩) n c] w fun e w' =>
      e = .returned (.slice (some ⟨w.heap.size, 0, none⟩) n n) ∧ Below w.heap.size w w' ∧ Cs .u8 w' w.heap.size 0 n f := by
  have hb := h.1
  have hc := h.2
  clear h
  have hmk := run_make_row' (P := Try.prog) 22 5 (.int .u8 0) 1 Try.underlying22 info5 rfl .i64 .i64 n (by omega) (by omega)
  have hnil := fun w a n c => Lib.run_eql_slice_nil (P := Try.prog) w 22 5 a n c 0 0 Try.underlying22
  go_enter Try.func6, Try.ntmps6
  go_wp2
  go_loopw [4] (fun i wr => ∃ k : Nat, k ≤ n ∧ i = .int .i64 k ∧ Below w.heap.size w wr ∧ wr.rowIs w.heap.size 5 n (half .u8 k f)) (fun i _ => n - (intOf i).toNat)
  case atStart => exact ⟨0, Nat.zero_le _, rfl, (Below.refl _ _).alloc (Nat.le_refl _) _, by rw [half_zero]; exact World.rowIs_made _ _ _ _⟩
  case round =>
    obtain ⟨k, hk, rfl, hbel, hrow⟩ := hrel
    by_cases hlt : k < n
    · have hlt' : (k : Int) < (n : Int) := by omega
      have q1 := (hbel.cell (p := ⟨b, o + k, none⟩) hb).trans (hc k hlt)
      have q2 := hrow.cell hlt
      have q3 := hrow.frozen k
      have hb2 := (hbel.setCell (p := ⟨w.heap.size, k, none⟩) (Nat.le_refl _) (.int .u8 (f k)))
      have hr2 := (hrow.set k (.int .u8 (f k))).congr (fun i _ => half_step .u8 k f i)
      have HB := show Hid _ from hb2
      have HR := show Hid _ from hr2
      obtain ⟨v2, q2'⟩ : ∃ v, wr.cell? ⟨w.heap.size, k, none⟩ = some v := ⟨_, q2⟩
      clear q2 hb2 hr2 hbel hrow
      go_wp2
      go_roundw
      case rel => exact ⟨k + 1, by omega, by go_num, HB.out, HR.out⟩
      case measure => simp [intOf]; omega
    · have e : k = n := by omega
      subst e
      have HC := show Hid _ from rowIs_Cs hrow
      have HB := show Hid _ from hbel
      clear hrow hbel
      go_wp2
      go_ret
      exact ⟨rfl, HB.out, HC.out⟩

theorem clone_empty (x : Addr) (c : Nat) (w : World) :
    Calls Try.prog 6 #[.slice (some x) 0 c] w fun e w' => e = .returned (.slice (some ⟨w.heap.size, 0, none⟩) 0 0) ∧ Below w.heap.size w w' := by
  have hmk := run_make_row' (P := Try.prog) 22 5 (.int .u8 0) 1 Try.underlying22 info5 rfl .i64 .i64 0 (by omega) (by omega)
  rw [Int.natCast_zero] at hmk
  have hnil := fun w a n c => Lib.run_eql_slice_nil (P := Try.prog) w 22 5 a n c 0 0 Try.underlying22
  go_enter Try.func6, Try.ntmps6
  go_wp2
  refine wp_loop_rounds 1 ?_
  rw [rounds_succ]
  go_wp2
  go_ret
  exact ⟨rfl, (Below.refl _ _).alloc (Nat.le_refl _) _⟩

theorem clone_nil (w : World) :
    Calls Try.prog 6 #[.slice none 0 0] w fun e w' => e = .returned (.slice none 0 0) ∧ Below w.heap.size w w' := by
  have hnil := fun w a n c => Lib.run_eql_slice_nil (P := Try.prog) w 22 5 a n c 0 0 Try.underlying22
  go_enter Try.func6, Try.ntmps6
  go_wp2
  go_ret
  exact ⟨rfl, Below.refl _ _⟩
end Go.Proofs.Qxb6603573a.U
