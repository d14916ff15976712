import Derived.Test.Qxb6601792aCut
namespace Go.Proofs.Qxb6601792a.Pd
open Go.RowKit

/-- The bytes of a string, as numbers. -/
def bs (u : ByteArray) : List Nat := u.data.toList.map UInt8.toNat
theorem bs_len (u : ByteArray) : (bs u).length = u.size := by simp [bs]
theorem bs_drop (u : ByteArray) (k : Nat) (h : k < u.size) : (bs u).drop k = (u[k]'h).toNat :: (bs u).drop (k + 1) := by
  rw [List.drop_eq_getElem_cons (by rw [bs_len]; exact h)]
  congr 1
  simp [bs]
  rfl
theorem bs_end (u : ByteArray) (k : Nat) (h : u.size ≤ k) : (bs u).drop k = [] := List.drop_eq_nil_of_le (by rw [bs_len]; exact h)
theorem digB_yes {c : Nat} (h1 : (48 : Int) ≤ (c : Int)) (h2 : (c : Int) ≤ 57) : digB c = true := by simp [digB]; omega
theorem digB_no {c : Nat} (h : ¬ ((48 : Int) ≤ (c : Int) ∧ (c : Int) ≤ 57)) : digB c = false := by
  rw [Bool.eq_false_iff]; intro hd; simp [digB] at hd; omega

theorem wrap_W (x : Int) : IntKind.u64.wrap x = W x := by rw [IntKind.wrap_u64]; rfl

/-- The struct 'd', as the call holds it. -/
abbrev dCells (un : Int) : Obj := .cells #[.bool false, .int .u64 un, .int .i32 0, .bool false] 28

theorem ans_none {neg : Bool} {u : ByteArray} (h : rd u.size (bs u) 0 0 0 (-1) = none) : rdAns neg (bs u) = zero := by
  unfold rdAns; rw [bs_len, h]
theorem ans_zero {neg : Bool} {u : ByteArray} {un pt : Int} (h : rd u.size (bs u) 0 0 0 (-1) = some (0, un, pt)) : rdAns neg (bs u) = zero := by
  unfold rdAns; rw [bs_len, h]; rfl
theorem ans_some {neg : Bool} {u : ByteArray} {dg : Nat} {un pt : Int} (h : rd u.size (bs u) 0 0 0 (-1) = some (dg, un, pt)) (h0 : dg ≠ 0) :
    rdAns neg (bs u) = ⟨neg, un, if 0 ≤ pt then (u.size : Int) - pt - 1 else 0, decide ((dg : Int) ≤ 19), true⟩ := by
  unfold rdAns; rw [bs_len, h]; simp [h0]

set_option maxHeartbeats 1000000 in
theorem reader (a u : ByteArray) (neg : Bool) (w : World) (hu : u.size ≤ 1048576)
    (hcut : Hid (∀ w, Calls Try.prog 13 #[.string a, .string ⟨#[45]⟩] w fun e w' => e = .returned (.tuple #[.string u, .bool neg]) ∧ w' = w)) :
    Calls Try.prog 12 #[.string a] w fun e w' =>
      e = .returned (.tuple #[.agg #[.bool (rdAns neg (bs u)).neg, .int .u64 (rdAns neg (bs u)).un, .int .i32 (rdAns neg (bs u)).pl, .bool (rdAns neg (bs u)).fits], .bool (rdAns neg (bs u)).ok]) ∧ Grown w w' := by
  go_enter Try.func12, Try.ntmps12
  go_wp2_with (go_at_call 13; refine (hcut.out _).mono ?_; rintro e w' ⟨rfl, rfl⟩)
  go_loopw [6, 7, 8] (fun d p i wr => ∃ (k dg : Nat) (un pt : Int), k ≤ u.size ∧ i = .int .i64 k ∧ d = .int .i64 dg ∧ p = .int .i64 pt ∧ dg ≤ k ∧ -1 ≤ pt ∧ pt < k ∧ 
      wr = w.alloc (dCells un) ∧ Hid (rd u.size ((bs u).drop k) k dg un pt = rd u.size (bs u) 0 0 0 (-1))) (fun _ _ i _ => u.size - (intOf i).toNat)
  case atStart => exact ⟨0, 0, 0, -1, Nat.zero_le _, rfl, rfl, rfl, by omega, by omega, by omega, rfl, by simp [Hid]⟩
  case round =>
    obtain ⟨k, dg, un, pt, hk, rfl, rfl, rfl, hdg, hp1, hp2, rfl, HR⟩ := hrel
    by_cases hlt : k < u.size
    · by_cases hd : (48 : Int) ≤ ((u[k]'hlt).toNat : Int) ∧ ((u[k]'hlt).toNat : Int) ≤ 57
      · obtain ⟨hd1, hd2⟩ := hd
        go_wp2
        go_roundw
        case rel =>
          refine ⟨k + 1, dg + 1, _, pt, by omega, by go_num, by go_num, rfl, by omega, hp1, by omega, rfl, ?_⟩
          have h := HR.out
          rw [bs_drop u k hlt, rd_dig (digB_yes hd1 hd2)] at h
          rw [wrap_W, wrap_W]
          exact h
        case measure => simp [intOf]; omega
      · have hdf := digB_no hd
        have HD : Hid (digB (u[k]'hlt).toNat = false) := hdf
        clear hdf
        by_cases hpt : ((u[k]'hlt).toNat : Int) = 46 ∧ pt < 0 ∧ 0 < k ∧ k + 1 < u.size
        · obtain ⟨q1, q2, q3, q4⟩ := hpt
          have q1b : (((u[k]'hlt).toNat : Int) == 46) = true := by rw [beq_iff_eq]; exact q1
          have Q1 : Hid ((u[k]'hlt).toNat = 46) := by unfold Hid; omega
          have hl : ((u[k]'hlt).toNat : Int) < 48 := by omega
          clear q1
          go_wp2
          go_roundw
          case rel =>
            refine ⟨k + 1, dg, un, k, by omega, by go_num, rfl, rfl, by omega, by omega, by omega, rfl, ?_⟩
            have h := HR.out
            rw [bs_drop u k hlt, rd_pt HD.out ⟨Q1.out, q2, q3, q4⟩] at h
            exact h
          case measure => simp [intOf]; omega
        · have HN : Hid (rdAns neg (bs u) = zero) := by
            refine ans_none ?_
            rw [← HR.out, bs_drop u k hlt, rd_no HD.out (fun h => hpt ⟨by omega, h.2.1, h.2.2.1, h.2.2.2⟩)]
          clear HR
          go_wp2
          all_goals exact bodyPost_ret (v := .tuple #[.agg #[.bool false, .int .u64 0, .int .i32 0, .bool false], .bool false]) (by simp [results, Try.results12, go_sem]) rfl ⟨by rw [HN.out]; rfl, (Grown.refl _).alloc _ _⟩
    · have HE : Hid (rd u.size (bs u) 0 0 0 (-1) = some (dg, un, pt)) := by
        have h := HR.out
        rw [bs_end u k (by omega), rd] at h
        exact h.symm
      clear HR
      by_cases h0 : dg = 0
      · subst h0
        have HZ : Hid (rdAns neg (bs u) = zero) := ans_zero HE.out
        clear HE
        go_wp2
        exact bodyPost_ret (v := .tuple #[.agg #[.bool false, .int .u64 0, .int .i32 0, .bool false], .bool false]) (by simp [results, Try.results12, go_sem]) rfl ⟨by rw [HZ.out]; rfl, (Grown.refl _).alloc _ _⟩
      · have h0b : ((dg : Int) == 0) = false := by rw [beq_eq_false_iff_ne]; omega
        have HZ : Hid (rdAns neg (bs u) = ⟨neg, un, if 0 ≤ pt then (u.size : Int) - pt - 1 else 0, decide ((dg : Int) ≤ 19), true⟩) := ans_some HE.out h0
        clear h0 HE
        by_cases hpp : 0 ≤ pt
        · go_wp2
          exact bodyPost_ret (v := .tuple #[.agg #[.bool neg, .int .u64 un, .int .i32 ((u.size : Int) - pt - 1), .bool (decide ((dg : Int) ≤ 19))], .bool true]) (by simp [results, Try.results12, go_sem]) rfl ⟨by rw [HZ.out, if_pos hpp], (Grown.refl _).alloc _ _⟩
        · go_wp2
          exact bodyPost_ret (v := .tuple #[.agg #[.bool neg, .int .u64 un, .int .i32 0, .bool (decide ((dg : Int) ≤ 19))], .bool true]) (by simp [results, Try.results12, go_sem]) rfl ⟨by rw [HZ.out, if_neg (by omega)], (Grown.refl _).alloc _ _⟩
end Go.Proofs.Qxb6601792a.Pd
