import Derived.Test.Qxb6603573aBase
import Derived.Deep.QuietTactic
import Derived.BigQuiet
import Derived.Lib.EndianBits
namespace Go.Proofs.Qxb6603573a.U
open Go.RowKit

/-- From offset o of block b on lie the n numbers f 0, f 1, .. -/
def Cs (k : IntKind) (w : World) (b o n : Nat) (f : Nat → Int) : Prop := b < w.heap.size ∧ ∀ i, i < n → w.cell? ⟨b, o + i, none⟩ = some (.int k (f i))

theorem Cs.below {k : IntKind} {w w' : World} {b o n : Nat} {f : Nat → Int} (h : Cs k w b o n f) (hb : Below w.heap.size w w') : Cs k w' b o n f :=
  ⟨Nat.lt_of_lt_of_le h.1 hb.size, fun i hi => (hb.cell (p := ⟨b, o + i, none⟩) h.1).trans (h.2 i hi)⟩

theorem below_drewN (w : World) (n : Nat) : Below w.heap.size w (w.drewN n) := ⟨rfl, rfl, rfl, Nat.le_refl _, fun _ _ => rfl⟩

/-- 'zzBytesEqual' of two slices that hold the same. -/
theorem same_bytes (b1 o1 c1 b2 o2 c2 n : Nat) (f : Nat → Int) (w : World) (hn : n ≤ 4194304) (h1 : Cs .u8 w b1 o1 n f) (h2 : Cs .u8 w b2 o2 n f) :
    Calls Try.prog 12 #[.slice (some ⟨b1, o1, none⟩) n c1, .slice (some ⟨b2, o2, none⟩) n c2] w fun e w' => e = .returned (.bool true) ∧ Below w.heap.size w w' := by
  have g1 := h1.2
  have g2 := h2.2
  clear h1 h2
  go_enter Try.func12, Try.ntmps12
  go_wp2
  go_loopw [5] (fun i wr => ∃ k m : Nat, k ≤ n ∧ i = .int .i64 k ∧ wr = w.drewN m) (fun i _ => n - (intOf i).toNat)
  case atStart => exact ⟨0, 0, Nat.zero_le _, rfl, rfl⟩
  case round =>
    obtain ⟨k, m, hk, rfl, rfl⟩ := hrel
    by_cases hlt : k < n
    · have q1 := g1 k hlt
      have q2 := g2 k hlt
      have hlt' : (k : Int) < (n : Int) := by omega
      go_wp2
      go_quiet (fail)
      go_wp2
      go_roundw
      case rel => exact ⟨k + 1, _, by omega, by go_num, rfl⟩
      case measure => simp [intOf]; omega
    · go_wp2
      go_ret
      exact ⟨rfl, below_drewN _ _⟩

theorem same_empty (a1 a2 : Option Addr) (c1 c2 : Nat) (w : World) :
    Calls Try.prog 12 #[.slice a1 0 c1, .slice a2 0 c2] w fun e w' => e = .returned (.bool true) ∧ Below w.heap.size w w' := by
  go_enter Try.func12, Try.ntmps12
  go_wp2
  refine wp_loop_rounds 1 ?_
  rw [rounds_succ]
  go_wp2
  go_ret
  exact ⟨rfl, Below.refl _ _⟩

/-- One unit of UTF-16, out of the two bytes that stand at 2 i. -/
def un (lt : Bool) (f : Nat → Int) (i : Nat) : Int := bif lt then f (2 * i) + f (2 * i + 1) * 256 else f (2 * i) * 256 + f (2 * i + 1)

/-- Every number is a byte. -/
def Bd (f : Nat → Int) : Prop := ∀ i, 0 ≤ f i ∧ f i ≤ 255

theorem un_bd {f : Nat → Int} (h : Bd f) (lt : Bool) (i : Nat) : 0 ≤ un lt f i ∧ un lt f i ≤ 65535 := by
  have h0 := h (2 * i)
  have h1 := h (2 * i + 1)
  cases lt <;> simp only [un, cond_true, cond_false] <;> omega

/-- 'zzUnit'. -/
theorem unit_any (lt : Bool) (b o n c i : Nat) (x : Int) (f : Nat → Int) (w : World) (hx : x = i) (hn : n ≤ 4194304) (h : Cs .u8 w b o n f) (hf : Bd f) (hi : 2 * i + 1 < n) :
    Calls Try.prog 19 #[.slice (some ⟨b, o, none⟩) n c, .int .i64 x, .bool lt] w fun e w' => e = .returned (.int .u32 (un lt f i)) ∧ w' = w := by
  subst hx
  have q0 := h.2 (2 * i) (by omega)
  have q1 := h.2 (2 * i + 1) (by omega)
  have h0 := hf (2 * i)
  have h1 := hf (2 * i + 1)
  cases lt
  · simp only [un, cond_false]
    generalize f (2 * i) = x0 at *
    generalize f (2 * i + 1) = x1 at *
    clear h hf
    go_enter Try.func19, Try.ntmps19
    go_wp2
    go_ret
    exact ⟨rfl, rfl⟩
  · simp only [un, cond_true]
    generalize f (2 * i) = x0 at *
    generalize f (2 * i + 1) = x1 at *
    clear h hf
    go_enter Try.func19, Try.ntmps19
    go_wp2
    go_ret
    exact ⟨rfl, rfl⟩

theorem uint16_little (b o n c : Nat) (x0 x1 : Int) (w : World) (hn : 2 ≤ n) (hb : b < w.heap.size) (h0 : 0 ≤ x0 ∧ x0 ≤ 255) (h1 : 0 ≤ x1 ∧ x1 ≤ 255)
    (q0 : w.cell? ⟨b, o, none⟩ = some (.int .u8 x0)) (q1 : w.cell? ⟨b, o + 1, none⟩ = some (.int .u8 x1)) :
    Calls Try.prog 50 #[.agg #[], .slice (some ⟨b, o, none⟩) n c] w fun e w' => e = .returned (.int .u16 (x0 + x1 * 256)) ∧ Below w.heap.size w w' := by
  have hn' : (1 : Int) < (n : Int) := by omega
  go_enter Try.func50, Try.ntmps50
  go_wp2
  go_quiet (fail)
  go_wp2
  go_ret
  exact ⟨by simp [u16_or8 x0 (x1 * 256) (by omega) (by omega) (by omega) (by omega) (by omega)], ((Below.refl _ _).alloc (Nat.le_refl _) _).trans (Below.mono (below_drewN _ _) (by simp))⟩

theorem uint16_big (b o n c : Nat) (x0 x1 : Int) (w : World) (hn : 2 ≤ n) (hb : b < w.heap.size) (h0 : 0 ≤ x0 ∧ x0 ≤ 255) (h1 : 0 ≤ x1 ∧ x1 ≤ 255)
    (q0 : w.cell? ⟨b, o, none⟩ = some (.int .u8 x0)) (q1 : w.cell? ⟨b, o + 1, none⟩ = some (.int .u8 x1)) :
    Calls Try.prog 58 #[.agg #[], .slice (some ⟨b, o, none⟩) n c] w fun e w' => e = .returned (.int .u16 (x0 * 256 + x1)) ∧ Below w.heap.size w w' := by
  have hn' : (1 : Int) < (n : Int) := by omega
  go_enter Try.func58, Try.ntmps58
  go_wp2
  go_quiet (fail)
  go_wp2
  go_ret
  exact ⟨by simp [u16_or8 x1 (x0 * 256) (by omega) (by omega) (by omega) (by omega) (by omega), Int.add_comm], ((Below.refl _ _).alloc (Nat.le_refl _) _).trans (Below.mono (below_drewN _ _) (by simp))⟩

/-- 'zzMark'. -/
theorem mark_short (a : Option Addr) (n c : Nat) (w : World) (hn : n < 2) :
    Calls Try.prog 13 #[.slice a n c] w fun e w' => e = .returned (.tuple #[.bool false, .bool false]) ∧ Below w.heap.size w w' := by
  go_enter Try.func13, Try.ntmps13
  go_wp2
  go_ret2
  exact ⟨rfl, Below.refl _ _⟩

theorem mark_little (b o n c : Nat) (w : World) (hn : 2 ≤ n)
    (q0 : w.cell? ⟨b, o, none⟩ = some (.int .u8 255)) (q1 : w.cell? ⟨b, o + 1, none⟩ = some (.int .u8 254)) :
    Calls Try.prog 13 #[.slice (some ⟨b, o, none⟩) n c] w fun e w' => e = .returned (.tuple #[.bool true, .bool false]) ∧ Below w.heap.size w w' := by
  have hn' : (1 : Int) < (n : Int) := by omega
  go_enter Try.func13, Try.ntmps13
  go_wp2
  go_quiet (fail)
  go_wp2
  go_ret2
  exact ⟨rfl, below_drewN _ _⟩

theorem mark_big (b o n c : Nat) (w : World) (hn : 2 ≤ n)
    (q0 : w.cell? ⟨b, o, none⟩ = some (.int .u8 254)) (q1 : w.cell? ⟨b, o + 1, none⟩ = some (.int .u8 255)) :
    Calls Try.prog 13 #[.slice (some ⟨b, o, none⟩) n c] w fun e w' => e = .returned (.tuple #[.bool false, .bool true]) ∧ Below w.heap.size w w' := by
  have hn' : (1 : Int) < (n : Int) := by omega
  go_enter Try.func13, Try.ntmps13
  go_wp2
  go_quiet (fail)
  go_wp2
  go_ret2
  exact ⟨rfl, below_drewN _ _⟩

theorem mark_none (b o n c : Nat) (x0 x1 : Int) (w : World) (hn : 2 ≤ n)
    (q0 : w.cell? ⟨b, o, none⟩ = some (.int .u8 x0)) (q1 : w.cell? ⟨b, o + 1, none⟩ = some (.int .u8 x1))
    (nl : ¬ (x0 = 255 ∧ x1 = 254)) (nb : ¬ (x0 = 254 ∧ x1 = 255)) :
    Calls Try.prog 13 #[.slice (some ⟨b, o, none⟩) n c] w fun e w' => e = .returned (.tuple #[.bool false, .bool false]) ∧ Below w.heap.size w w' := by
  have hn' : (1 : Int) < (n : Int) := by omega
  by_cases e0 : x0 = 255
  · have e1 : (x1 == 254) = false := by rw [beq_eq_false_iff_ne]; exact fun h => nl ⟨e0, h⟩
    subst e0
    clear nl nb
    go_enter Try.func13, Try.ntmps13
    go_wp2
    go_quiet (fail)
    go_wp2
    go_ret2
    exact ⟨rfl, below_drewN _ _⟩
  · by_cases e2 : x0 = 254
    · have e1 : (x1 == 255) = false := by rw [beq_eq_false_iff_ne]; exact fun h => nb ⟨e2, h⟩
      subst e2
      clear nl nb e0
      go_enter Try.func13, Try.ntmps13
      go_wp2
      go_quiet (fail)
      go_wp2
      go_ret2
      exact ⟨rfl, below_drewN _ _⟩
    · have f0 : (x0 == 255) = false := by rw [beq_eq_false_iff_ne]; exact e0
      have f2 : (x0 == 254) = false := by rw [beq_eq_false_iff_ne]; exact e2
      clear nl nb e0 e2
      go_enter Try.func13, Try.ntmps13
      go_wp2
      go_quiet (fail)
      go_wp2
      go_ret2
      exact ⟨rfl, below_drewN _ _⟩

theorem or_1024 (a b : Nat) (ha : a < 1024) (hb : b < 1024) : bits .or .i32 ((a : Int) * 1024) (b : Int) = (a : Int) * 1024 + (b : Int) := by
  have h1 : (BitVec.ofInt 32 ((a * 1024 : Nat) : Int)).toNat = a * 1024 := by
    rw [BitVec.ofInt_natCast, BitVec.toNat_ofNat]; exact Nat.mod_eq_of_lt (by omega)
  have h2 : (BitVec.ofInt 32 (b : Int)).toNat = b := by
    rw [BitVec.ofInt_natCast, BitVec.toNat_ofNat]; exact Nat.mod_eq_of_lt (by omega)
  have h3 : a * 1024 ||| b = a * 1024 + b := by
    have := Nat.two_pow_add_eq_or_of_lt (i := 10) (b := b) (by omega) a
    rw [Nat.mul_comm] at this
    exact this.symm
  show IntKind.i32.wrap ((BitVec.ofInt 32 ((a : Int) * 1024) ||| BitVec.ofInt 32 (b : Int)).toNat : Int) = _
  rw [show ((a : Int) * 1024) = ((a * 1024 : Nat) : Int) by omega, BitVec.toNat_or, h1, h2, h3, IntKind.wrap_i32]
  omega

theorem rune_val (r1 r2 : Int) (h1 : 55296 ≤ r1) (h2 : r1 < 56320) (h3 : 56320 ≤ r2) (h4 : r2 < 57344) :
    wrap32 (bits BinOp.or IntKind.i32 ((r1 - 55296) * 1024) (r2 - 56320) + 65536) = (r1 - 55296) * 1024 + (r2 - 56320) + 65536 := by
  obtain ⟨a, ha⟩ := Int.eq_ofNat_of_zero_le (show 0 ≤ r1 - 55296 by omega)
  obtain ⟨b, hb⟩ := Int.eq_ofNat_of_zero_le (show 0 ≤ r2 - 56320 by omega)
  rw [ha, hb, or_1024 a b (by omega) (by omega)]
  unfold wrap32
  omega

theorem rune_two (r1 r2 : Int) (w : World) (h1 : 55296 ≤ r1) (h2 : r1 < 56320) (h3 : 56320 ≤ r2) (h4 : r2 < 57344) :
    Calls Try.prog 29 #[.int .i32 r1, .int .i32 r2] w fun e w' => e = .returned (.int .i32 ((r1 - 55296) * 1024 + (r2 - 56320) + 65536)) ∧ w' = w := by
  go_enter Try.func29, Try.ntmps29
  go_wp2
  go_ret
  exact ⟨by simp [rune_val r1 r2 h1 h2 h3 h4], rfl⟩
end Go.Proofs.Qxb6603573a.U
