import Derived.Test.Qxb6604389aTypes
namespace Go.Proofs.Qxb6604389a.N
open Go.RowKit

/-- From offset o of block b on lie the n strings S 0, S 1, .. -/
def Ss (w : World) (b o n : Nat) (S : Nat → ByteArray) : Prop := b < w.heap.size ∧ ∀ i, i < n → w.cell? ⟨b, o + i, none⟩ = some (.string (S i))

theorem Ss.below {w w' : World} {b o n : Nat} {S : Nat → ByteArray} (h : Ss w b o n S) (hb : Below w.heap.size w w') : Ss w' b o n S :=
  ⟨Nat.lt_of_lt_of_le h.1 hb.size, fun i hi => (hb.cell (p := ⟨b, o + i, none⟩) h.1).trans (h.2 i hi)⟩

/-- A bool comes back, whatever it is. -/
def AnyB (e : Ending) : Prop := ∃ r, e = .returned (.bool r)
/-- A bool comes back; where it is false, P holds. -/
def BigB (P : Prop) (e : Ending) : Prop := ∃ r, e = .returned (.bool r) ∧ (r = false → P)

set_option maxHeartbeats 1000000 in
/-- 'zzBytes_..': it answers, whatever it answers. -/
theorem bytes_any (k : Int) (name : ByteArray) (hc : Bool) (ck : Int) (cn : ByteArray) (b o n c : Nat) (S : Nat → ByteArray) (w : World)
    (h1 : name.size ≤ 9223372036854775807) (h2 : cn.size ≤ 9223372036854775807) (h3 : n ≤ 9223372036854775807) (h4 : Hid (∀ i, (S i).size ≤ 9223372036854775807)) (hs : Ss w b o n S) :
    Calls Try.prog 4 #[.int .u32 k, .string name, .bool hc, .int .u32 ck, .string cn, .slice (some ⟨b, o, none⟩) n c] w fun e w' => AnyB e ∧ w' = w := by
  have HS := show Hid (Ss w b o n S) from hs
  clear hs
  go_enter Try.func4, Try.ntmps4
  go_wp2
  all_goals first | (go_ret; exact ⟨⟨_, rfl⟩, rfl⟩) | skip
  go_loop [13, 14] (fun z i => ∃ (q : Nat) (t : Int), q ≤ n ∧ i = .int .i64 q ∧ z = .int .i64 t ∧ 0 ≤ t ∧ t ≤ 1048576) (fun _ i => n - (intOf i).toNat)
  case atStart => exact ⟨0, _, Nat.zero_le _, rfl, rfl, by omega, by omega⟩
  case round =>
    obtain ⟨q, t, hq, rfl, rfl, ht0, ht1⟩ := hrel
    by_cases hlt : q < n
    · have hlt' : (q : Int) < (n : Int) := by omega
      have q0 := HS.out.2 q hlt
      have hz := h4.out q
      generalize S q = s at *
      by_cases a1 : (1048576 : Int) < (s.size : Int)
      · go_wp2
        go_ret
        exact ⟨⟨_, rfl⟩, rfl⟩
      · by_cases a2 : (1048576 : Int) < t + (s.size : Int)
        · go_wp2
          go_ret
          exact ⟨⟨_, rfl⟩, rfl⟩
        · go_wp2
          go_round
          case rel => exact ⟨q + 1, _, by omega, by go_num, rfl, by omega, by omega⟩
          case measure => simp [intOf]; omega
    · go_wp2
      go_ret
      exact ⟨⟨_, rfl⟩, rfl⟩

theorem bytes_empty (k : Int) (name : ByteArray) (hc : Bool) (ck : Int) (cn : ByteArray) (a : Option Addr) (c : Nat) (w : World)
    (h1 : name.size ≤ 9223372036854775807) (h2 : cn.size ≤ 9223372036854775807) :
    Calls Try.prog 4 #[.int .u32 k, .string name, .bool hc, .int .u32 ck, .string cn, .slice a 0 c] w fun e w' => AnyB e ∧ w' = w := by
  go_enter Try.func4, Try.ntmps4
  go_wp2
  all_goals first | (go_ret; exact ⟨⟨_, rfl⟩, rfl⟩) | skip
  refine wp_loop_rounds 1 ?_
  rw [rounds_succ]
  go_wp2
  go_ret
  exact ⟨⟨_, rfl⟩, rfl⟩

set_option maxHeartbeats 1000000 in
/-- 'zzB1NotifTooBig': where it says no, the lengths are small. -/
theorem big_any (name cn : ByteArray) (b o n c : Nat) (S : Nat → ByteArray) (w : World)
    (h1 : name.size ≤ 9223372036854775807) (h2 : cn.size ≤ 9223372036854775807) (h3 : n ≤ 9223372036854775807) (hs : Ss w b o n S) :
    Calls Try.prog 5 #[.string name, .string cn, .slice (some ⟨b, o, none⟩) n c] w fun e w' => BigB (name.size ≤ 65536 ∧ cn.size ≤ 65536 ∧ n ≤ 65536) e ∧ w' = w := by
  have HS := show Hid (Ss w b o n S) from hs
  clear hs
  by_cases c1 : (65536 : Int) < (name.size : Int)
  · go_enter Try.func5, Try.ntmps5
    go_wp2
    go_ret
    exact ⟨⟨true, rfl, fun h => by cases h⟩, rfl⟩
  · by_cases c2 : (65536 : Int) < (cn.size : Int)
    · go_enter Try.func5, Try.ntmps5
      go_wp2
      go_ret
      exact ⟨⟨true, rfl, fun h => by cases h⟩, rfl⟩
    · by_cases c3 : (65536 : Int) < (n : Int)
      · go_enter Try.func5, Try.ntmps5
        go_wp2
        go_ret
        exact ⟨⟨true, rfl, fun h => by cases h⟩, rfl⟩
      · have HB : Hid (name.size ≤ 65536 ∧ cn.size ≤ 65536 ∧ n ≤ 65536) := by unfold Hid; omega
        go_enter Try.func5, Try.ntmps5
        go_wp2
        go_loop [7, 8] (fun z i => ∃ (q : Nat) (t : Int), q ≤ n ∧ i = .int .i64 q ∧ z = .int .i64 t) (fun _ i => n - (intOf i).toNat)
        case atStart => exact ⟨0, _, Nat.zero_le _, rfl, rfl⟩
        case round =>
          obtain ⟨q, t, hq, rfl, rfl⟩ := hrel
          by_cases hlt : q < n
          · have hlt' : (q : Int) < (n : Int) := by omega
            have q0 := HS.out.2 q hlt
            generalize S q = s at *
            by_cases a2 : (1048576 : Int) < wrap64 (t + (s.size : Int))
            · go_wp2
              go_ret
              exact ⟨⟨true, rfl, fun h => by cases h⟩, rfl⟩
            · go_wp2
              go_round
              case rel => exact ⟨q + 1, _, by omega, by go_num, rfl⟩
              case measure => simp [intOf]; omega
          · go_wp2
            go_ret
            exact ⟨⟨_, rfl, fun _ => HB.out⟩, rfl⟩

theorem big_empty (name cn : ByteArray) (a : Option Addr) (c : Nat) (w : World)
    (h1 : name.size ≤ 9223372036854775807) (h2 : cn.size ≤ 9223372036854775807) :
    Calls Try.prog 5 #[.string name, .string cn, .slice a 0 c] w fun e w' => BigB (name.size ≤ 65536 ∧ cn.size ≤ 65536 ∧ 0 ≤ 65536) e ∧ w' = w := by
  by_cases c1 : (65536 : Int) < (name.size : Int)
  · go_enter Try.func5, Try.ntmps5
    go_wp2
    go_ret
    exact ⟨⟨true, rfl, fun h => by cases h⟩, rfl⟩
  · by_cases c2 : (65536 : Int) < (cn.size : Int)
    · go_enter Try.func5, Try.ntmps5
      go_wp2
      go_ret
      exact ⟨⟨true, rfl, fun h => by cases h⟩, rfl⟩
    · have HB : Hid (name.size ≤ 65536 ∧ cn.size ≤ 65536 ∧ 0 ≤ 65536) := by unfold Hid; omega
      go_enter Try.func5, Try.ntmps5
      go_wp2
      refine wp_loop_rounds 1 ?_
      rw [rounds_succ]
      go_wp2
      go_ret
      exact ⟨⟨_, rfl, fun _ => HB.out⟩, rfl⟩
end Go.Proofs.Qxb6604389a.N
