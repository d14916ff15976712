import Derived.Test.Qxb6601792aReader
namespace Go.Proofs.Qxb6601792a.Pd
open Go.RowKit

theorem bs_all (u : ByteArray) : (bs u).take u.size = bs u := List.take_of_length_le (by rw [bs_len]; omega)
theorem bs_take (u : ByteArray) (m : Nat) (h : m < u.size) : ((bs u).take (m + 1)).reverse = (u[m]'h).toNat :: ((bs u).take m).reverse := by
  rw [List.take_succ_eq_append_getElem (by rw [bs_len]; exact h), List.reverse_append]
  simp [bs]
  rfl
theorem bs_mem (u : ByteArray) (m : Nat) (h : m < u.size) : (u[m]'h).toNat ∈ bs u := by
  have h2 : (u[m]'h).toNat ∈ (bs u).drop m := by rw [bs_drop u m h]; exact List.mem_cons_self ..
  exact List.mem_of_mem_drop h2
theorem bs_ok {u : ByteArray} {dt : Int} (h : sc (bs u) 0 (-1) = some dt) : ∀ (m : Nat) (hm : m < u.size), (u[m]'hm).toNat = 46 ∨ ((48 : Int) ≤ ((u[m]'hm).toNat : Int) ∧ ((u[m]'hm).toNat : Int) ≤ 57) := by
  intro m hm
  rcases sc_all _ _ _ _ h _ (bs_mem u m hm) with h | h
  · simp [digB] at h; omega
  · exact .inl h
theorem md_none {neg : Bool} {l : List Nat} (h : sc l 0 (-1) = none) : mdAns neg l = zero := by unfold mdAns; rw [h]
theorem md_z1 {neg : Bool} {l : List Nat} {d : Int} (h : sc l 0 (-1) = some d) (h1 : nInt l d = 0) : mdAns neg l = zero := by unfold mdAns; rw [h]; simp [h1]
theorem md_z2 {neg : Bool} {l : List Nat} {d : Int} (h : sc l 0 (-1) = some d) (h1 : ¬ nInt l d = 0) (h2 : 0 ≤ d ∧ nFrac l d = 0) : mdAns neg l = zero := by
  unfold mdAns; rw [h]; simp only []; rw [if_neg h1, if_pos h2]
theorem md_some {neg : Bool} {l : List Nat} {d : Int} (h : sc l 0 (-1) = some d) (h1 : ¬ nInt l d = 0) (h2 : ¬ (0 ≤ d ∧ nFrac l d = 0)) :
    mdAns neg l = ⟨neg, vl l.reverse 0 1, nFrac l d, decide (nInt l d + nFrac l d ≤ 19), true⟩ := by
  unfold mdAns; rw [h]; simp only []; rw [if_neg h1, if_neg h2]

set_option maxHeartbeats 2000000 in
theorem model_plain (a : ByteArray) (w : World) (ha : a.size ≤ 1048576) (h : ¬ (0 : Int) < (a.size : Int) ∨ ∃ h0 : 0 < a.size, (((a[0]'h0).toNat : Int) == 45) = false) :
    Calls Try.prog 8 #[.string a] w fun e w' =>
      e = .returned (.tuple #[.bool (mdAns false (bs a)).neg, .int .u64 (mdAns false (bs a)).un, .int .i32 (mdAns false (bs a)).pl, .bool (mdAns false (bs a)).fits, .bool (mdAns false (bs a)).ok]) ∧ w' = w := by
  rcases h with h | ⟨h0, h⟩
  · go_enter Try.func8, Try.ntmps8
    go_wp2
    refine wp_loop_rounds 1 ?_
    rw [rounds_succ]
    have HZ : Hid (mdAns false (bs a) = zero) := by
      have e : bs a = [] := List.eq_nil_of_length_eq_zero (by rw [bs_len]; omega)
      rw [e]; rfl
    have h0 : a.size = 0 := by omega
    go_wp2
    exact bodyPost_ret (v := .tuple #[.bool false, .int .u64 0, .int .i32 0, .bool false, .bool false]) (by simp [results, Try.results8, go_sem]) rfl ⟨by rw [HZ.out]; rfl, rfl⟩
  · have h0' : (0 : Int) < (a.size : Int) := by omega
    go_enter Try.func8, Try.ntmps8
    go_wp2
    go_loop [9, 10] (fun d i => ∃ (k : Nat) (dt : Int), k ≤ a.size ∧ i = .int .i64 k ∧ d = .int .i64 dt ∧ -1 ≤ dt ∧ dt < k ∧ Hid (sc ((bs a).drop k) k dt = sc (bs a) 0 (-1))) (fun _ i => a.size - (intOf i).toNat)
    case atStart => exact ⟨0, -1, Nat.zero_le _, rfl, rfl, by omega, by omega, by simp [Hid]⟩
    case round =>
      obtain ⟨k, dt, hk, rfl, rfl, hd0, hd9, HR⟩ := hrel
      by_cases hlt : k < a.size
      · by_cases hd : (48 : Int) ≤ ((a[k]'hlt).toNat : Int) ∧ ((a[k]'hlt).toNat : Int) ≤ 57
        · obtain ⟨hd1, hd2⟩ := hd
          have HS : Hid (sc ((bs a).drop (k + 1)) (k + 1) dt = sc (bs a) 0 (-1)) := by
            have h := HR.out
            rw [bs_drop a k hlt, sc_dig (digB_yes hd1 hd2)] at h
            exact h
          clear HR
          go_wp2
          go_round
          case rel => exact ⟨k + 1, dt, by omega, by go_num, rfl, by omega, by omega, HS⟩
          case measure => simp [intOf]; omega
        · have HD : Hid (digB (a[k]'hlt).toNat = false) := digB_no hd
          by_cases hpt : ((a[k]'hlt).toNat : Int) = 46 ∧ dt < 0
          · obtain ⟨q1, q2⟩ := hpt
            have HS : Hid (sc ((bs a).drop (k + 1)) (k + 1) (k : Int) = sc (bs a) 0 (-1)) := by
              have h := HR.out
              rw [bs_drop a k hlt, sc_pt HD.out ⟨by omega, q2⟩] at h
              exact h
            have q1b : (((a[k]'hlt).toNat : Int) == 46) = true := by rw [beq_iff_eq]; exact q1
            have hl : ((a[k]'hlt).toNat : Int) < 48 := by omega
            clear q1 HR
            go_wp2
            go_round
            case rel => exact ⟨k + 1, k, by omega, by go_num, rfl, by omega, by omega, HS⟩
            case measure => simp [intOf]; omega
          · have HZ : Hid (mdAns false (bs a) = zero) := by
              refine md_none ?_
              rw [← HR.out, bs_drop a k hlt, sc_no HD.out (fun h => hpt ⟨by omega, h.2⟩)]
            clear HR
            go_wp2
            all_goals exact bodyPost_ret (v := .tuple #[.bool false, .int .u64 0, .int .i32 0, .bool false, .bool false]) (by simp [results, Try.results8, go_sem]) rfl ⟨by rw [HZ.out]; rfl, rfl⟩
      · have HE : Hid (sc (bs a) 0 (-1) = some dt) := by
          have h := HR.out
          rw [bs_end a k (by omega), sc] at h
          exact h.symm
        clear HR
        have hall : Hid (∀ (m : Nat) (hm : m < a.size), (a[m]'hm).toNat = 46 ∨ ((48 : Int) ≤ ((a[m]'hm).toNat : Int) ∧ ((a[m]'hm).toNat : Int) ≤ 57)) := bs_ok HE.out
        by_cases hdt : 0 ≤ dt
        · have hi : nInt (bs a) dt = dt := by unfold nInt; rw [if_pos hdt]
          have hf : nFrac (bs a) dt = (a.size : Int) - dt - 1 := by unfold nFrac; rw [if_pos hdt, bs_len]
          have HI := show Hid _ from hi
          have HF := show Hid _ from hf
          clear hi hf
          by_cases hi0 : dt = 0
          · have HZ : Hid (mdAns false (bs a) = zero) := md_z1 HE.out (by rw [HI.out]; exact hi0)
            clear HE HI HF
            go_wp2
            exact bodyPost_ret (v := .tuple #[.bool false, .int .u64 0, .int .i32 0, .bool false, .bool false]) (by simp [results, Try.results8, go_sem]) rfl ⟨by rw [HZ.out]; rfl, rfl⟩
          · by_cases hf0 : (a.size : Int) - dt - 1 = 0
            · have HZ : Hid (mdAns false (bs a) = zero) := md_z2 HE.out (by rw [HI.out]; exact hi0) ⟨hdt, by rw [HF.out]; exact hf0⟩
              have hf1 : ((a.size : Int) - dt - 1 == 0) = true := by rw [beq_iff_eq]; exact hf0
              clear HE HI HF hf0
              go_wp2
              exact bodyPost_ret (v := .tuple #[.bool false, .int .u64 0, .int .i32 0, .bool false, .bool false]) (by simp [results, Try.results8, go_sem]) rfl ⟨by rw [HZ.out]; rfl, rfl⟩
            · have HZ : Hid (mdAns false (bs a) = ⟨false, vl (bs a).reverse 0 1, (a.size : Int) - dt - 1, decide (dt + ((a.size : Int) - dt - 1) ≤ 19), true⟩) := by
                have h := md_some (neg := false) HE.out (by rw [HI.out]; exact hi0) (by rw [HF.out]; exact fun h => hf0 h.2)
                rw [HI.out, HF.out] at h
                exact h
              clear HE HI HF
              go_wp2
              go_loop [14, 15, 16] (fun v p i => ∃ (k : Nat) (vv pw : Int), k ≤ a.size ∧ i = .int .i64 ((k : Int) - 1) ∧ v = .int .u64 vv ∧ p = .int .u64 pw ∧ Hid (vl ((bs a).take k).reverse vv pw = vl (bs a).reverse 0 1)) (fun _ _ i => (intOf i + 1).toNat)
              case atStart => exact ⟨a.size, 0, 1, Nat.le_refl _, rfl, rfl, rfl, by unfold Hid; rw [bs_all]⟩
              case round =>
                obtain ⟨k, vv, pw, hk, rfl, rfl, rfl, HV⟩ := hrel
                rcases k with _ | m
                · have HF : Hid (vl (bs a).reverse 0 1 = vv) := by
                    have h := HV.out
                    rw [List.take_zero, List.reverse_nil, vl] at h
                    exact h.symm
                  clear HV
                  go_wp2
                  exact bodyPost_ret (v := .tuple #[.bool false, .int .u64 vv, .int .i32 ((a.size : Int) - dt - 1), .bool (decide ((dt) + ((a.size : Int) - dt - 1) ≤ 19)), .bool true]) (by simp [results, Try.results8, go_sem]) rfl ⟨by rw [HZ.out, HF.out], rfl⟩
                · have hm : m < a.size := by omega
                  have hkm : ((m + 1 : Nat) : Int) - 1 = (m : Int) := by omega
                  rcases hall.out m hm with h46 | ⟨hd1, hd2⟩
                  · have h46b : (((a[m]'hm).toNat : Int) == 46) = true := by rw [beq_iff_eq]; omega
                    have HS : Hid (vl ((bs a).take m).reverse vv pw = vl (bs a).reverse 0 1) := by
                      have h := HV.out
                      rw [bs_take a m hm, h46, vl_pt] at h
                      exact h
                    clear HV h46
                    rw [hkm]
                    clear hkm
                    go_wp2
                    go_round
                    case rel => exact ⟨m, vv, pw, by omega, rfl, rfl, rfl, HS⟩
                    case measure => simp [intOf]
                  · have h46b : (((a[m]'hm).toNat : Int) == 46) = false := by rw [beq_eq_false_iff_ne]; omega
                    have HS : Hid (vl ((bs a).take m).reverse (W (vv + W ((((a[m]'hm).toNat : Int) - 48) * pw))) (W (pw * 10)) = vl (bs a).reverse 0 1) := by
                      have h := HV.out
                      rw [bs_take a m hm, vl_dig (by omega)] at h
                      exact h
                    clear HV
                    rw [hkm]
                    clear hkm
                    go_wp2
                    go_round
                    case rel => exact ⟨m, _, _, by omega, rfl, rfl, rfl, by rw [wrap_W, wrap_W, wrap_W]; exact HS⟩
                    case measure => simp [intOf]

        · have hi : nInt (bs a) dt = a.size := by unfold nInt; rw [if_neg hdt, bs_len]
          have hf : nFrac (bs a) dt = 0 := by unfold nFrac; rw [if_neg hdt]
          have HI := show Hid _ from hi
          have HF := show Hid _ from hf
          clear hi hf
          by_cases hi0 : (a.size : Int) = 0
          · have HZ : Hid (mdAns false (bs a) = zero) := md_z1 HE.out (by rw [HI.out]; exact hi0)
            have hf1 : ((a.size : Int) == 0) = true := by rw [beq_iff_eq]; exact hi0
            clear HE HI HF hi0
            go_wp2
            exact bodyPost_ret (v := .tuple #[.bool false, .int .u64 0, .int .i32 0, .bool false, .bool false]) (by simp [results, Try.results8, go_sem]) rfl ⟨by rw [HZ.out]; rfl, rfl⟩
          · have HZ : Hid (mdAns false (bs a) = ⟨false, vl (bs a).reverse 0 1, 0, decide ((a.size : Int) + 0 ≤ 19), true⟩) := by
              have h := md_some (neg := false) HE.out (by rw [HI.out]; exact hi0) (fun h => hdt h.1)
              rw [HI.out, HF.out] at h
              exact h
            clear HE HI HF
            go_wp2
            go_loop [14, 15, 16] (fun v p i => ∃ (k : Nat) (vv pw : Int), k ≤ a.size ∧ i = .int .i64 ((k : Int) - 1) ∧ v = .int .u64 vv ∧ p = .int .u64 pw ∧ Hid (vl ((bs a).take k).reverse vv pw = vl (bs a).reverse 0 1)) (fun _ _ i => (intOf i + 1).toNat)
            case atStart => exact ⟨a.size, 0, 1, Nat.le_refl _, rfl, rfl, rfl, by unfold Hid; rw [bs_all]⟩
            case round =>
              obtain ⟨k, vv, pw, hk, rfl, rfl, rfl, HV⟩ := hrel
              rcases k with _ | m
              · have HF : Hid (vl (bs a).reverse 0 1 = vv) := by
                  have h := HV.out
                  rw [List.take_zero, List.reverse_nil, vl] at h
                  exact h.symm
                clear HV
                go_wp2
                exact bodyPost_ret (v := .tuple #[.bool false, .int .u64 vv, .int .i32 (0), .bool (decide (((a.size : Int)) + (0) ≤ 19)), .bool true]) (by simp [results, Try.results8, go_sem]) rfl ⟨by rw [HZ.out, HF.out], rfl⟩
              · have hm : m < a.size := by omega
                have hkm : ((m + 1 : Nat) : Int) - 1 = (m : Int) := by omega
                rcases hall.out m hm with h46 | ⟨hd1, hd2⟩
                · have h46b : (((a[m]'hm).toNat : Int) == 46) = true := by rw [beq_iff_eq]; omega
                  have HS : Hid (vl ((bs a).take m).reverse vv pw = vl (bs a).reverse 0 1) := by
                    have h := HV.out
                    rw [bs_take a m hm, h46, vl_pt] at h
                    exact h
                  clear HV h46
                  rw [hkm]
                  clear hkm
                  go_wp2
                  go_round
                  case rel => exact ⟨m, vv, pw, by omega, rfl, rfl, rfl, HS⟩
                  case measure => simp [intOf]
                · have h46b : (((a[m]'hm).toNat : Int) == 46) = false := by rw [beq_eq_false_iff_ne]; omega
                  have HS : Hid (vl ((bs a).take m).reverse (W (vv + W ((((a[m]'hm).toNat : Int) - 48) * pw))) (W (pw * 10)) = vl (bs a).reverse 0 1) := by
                    have h := HV.out
                    rw [bs_take a m hm, vl_dig (by omega)] at h
                    exact h
                  clear HV
                  rw [hkm]
                  clear hkm
                  go_wp2
                  go_round
                  case rel => exact ⟨m, _, _, by omega, rfl, rfl, rfl, by rw [wrap_W, wrap_W, wrap_W]; exact HS⟩
                  case measure => simp [intOf]



set_option maxHeartbeats 2000000 in
theorem model_neg (a u : ByteArray) (w : World) (ha : a.size ≤ 1048576) (h0 : 0 < a.size) (h : (((a[0]'h0).toNat : Int) == 45) = true) (hu : Hid (u = a.extract 1 a.size)) (hs : u.size ≤ 1048576) :
    Calls Try.prog 8 #[.string a] w fun e w' =>
      e = .returned (.tuple #[.bool (mdAns true (bs u)).neg, .int .u64 (mdAns true (bs u)).un, .int .i32 (mdAns true (bs u)).pl, .bool (mdAns true (bs u)).fits, .bool (mdAns true (bs u)).ok]) ∧ w' = w := by
  have h0' : (0 : Int) < (a.size : Int) := by omega
  go_enter Try.func8, Try.ntmps8
  go_wp2
  rw [← hu.out]
  clear hu h h0'
  go_loop [9, 10] (fun d i => ∃ (k : Nat) (dt : Int), k ≤ u.size ∧ i = .int .i64 k ∧ d = .int .i64 dt ∧ -1 ≤ dt ∧ dt < k ∧ Hid (sc ((bs u).drop k) k dt = sc (bs u) 0 (-1))) (fun _ i => u.size - (intOf i).toNat)
  case atStart => exact ⟨0, -1, Nat.zero_le _, rfl, rfl, by omega, by omega, by simp [Hid]⟩
  case round =>
    obtain ⟨k, dt, hk, rfl, rfl, hd0, hd9, HR⟩ := hrel
    by_cases hlt : k < u.size
    · by_cases hd : (48 : Int) ≤ ((u[k]'hlt).toNat : Int) ∧ ((u[k]'hlt).toNat : Int) ≤ 57
      · obtain ⟨hd1, hd2⟩ := hd
        have HS : Hid (sc ((bs u).drop (k + 1)) (k + 1) dt = sc (bs u) 0 (-1)) := by
          have h := HR.out
          rw [bs_drop u k hlt, sc_dig (digB_yes hd1 hd2)] at h
          exact h
        clear HR
        go_wp2
        go_round
        case rel => exact ⟨k + 1, dt, by omega, by go_num, rfl, by omega, by omega, HS⟩
        case measure => simp [intOf]; omega
      · have HD : Hid (digB (u[k]'hlt).toNat = false) := digB_no hd
        by_cases hpt : ((u[k]'hlt).toNat : Int) = 46 ∧ dt < 0
        · obtain ⟨q1, q2⟩ := hpt
          have HS : Hid (sc ((bs u).drop (k + 1)) (k + 1) (k : Int) = sc (bs u) 0 (-1)) := by
            have h := HR.out
            rw [bs_drop u k hlt, sc_pt HD.out ⟨by omega, q2⟩] at h
            exact h
          have q1b : (((u[k]'hlt).toNat : Int) == 46) = true := by rw [beq_iff_eq]; exact q1
          have hl : ((u[k]'hlt).toNat : Int) < 48 := by omega
          clear q1 HR
          go_wp2
          go_round
          case rel => exact ⟨k + 1, k, by omega, by go_num, rfl, by omega, by omega, HS⟩
          case measure => simp [intOf]; omega
        · have HZ : Hid (mdAns true (bs u) = zero) := by
            refine md_none ?_
            rw [← HR.out, bs_drop u k hlt, sc_no HD.out (fun h => hpt ⟨by omega, h.2⟩)]
          clear HR
          go_wp2
          all_goals exact bodyPost_ret (v := .tuple #[.bool false, .int .u64 0, .int .i32 0, .bool false, .bool false]) (by simp [results, Try.results8, go_sem]) rfl ⟨by rw [HZ.out]; rfl, rfl⟩
    · have HE : Hid (sc (bs u) 0 (-1) = some dt) := by
        have h := HR.out
        rw [bs_end u k (by omega), sc] at h
        exact h.symm
      clear HR
      have hall : Hid (∀ (m : Nat) (hm : m < u.size), (u[m]'hm).toNat = 46 ∨ ((48 : Int) ≤ ((u[m]'hm).toNat : Int) ∧ ((u[m]'hm).toNat : Int) ≤ 57)) := bs_ok HE.out
      by_cases hdt : 0 ≤ dt
      · have hi : nInt (bs u) dt = dt := by unfold nInt; rw [if_pos hdt]
        have hf : nFrac (bs u) dt = (u.size : Int) - dt - 1 := by unfold nFrac; rw [if_pos hdt, bs_len]
        have HI := show Hid _ from hi
        have HF := show Hid _ from hf
        clear hi hf
        by_cases hi0 : dt = 0
        · have HZ : Hid (mdAns true (bs u) = zero) := md_z1 HE.out (by rw [HI.out]; exact hi0)
          clear HE HI HF
          go_wp2
          exact bodyPost_ret (v := .tuple #[.bool false, .int .u64 0, .int .i32 0, .bool false, .bool false]) (by simp [results, Try.results8, go_sem]) rfl ⟨by rw [HZ.out]; rfl, rfl⟩
        · by_cases hf0 : (u.size : Int) - dt - 1 = 0
          · have HZ : Hid (mdAns true (bs u) = zero) := md_z2 HE.out (by rw [HI.out]; exact hi0) ⟨hdt, by rw [HF.out]; exact hf0⟩
            have hf1 : ((u.size : Int) - dt - 1 == 0) = true := by rw [beq_iff_eq]; exact hf0
            clear HE HI HF hf0
            go_wp2
            exact bodyPost_ret (v := .tuple #[.bool false, .int .u64 0, .int .i32 0, .bool false, .bool false]) (by simp [results, Try.results8, go_sem]) rfl ⟨by rw [HZ.out]; rfl, rfl⟩
          · have HZ : Hid (mdAns true (bs u) = ⟨true, vl (bs u).reverse 0 1, (u.size : Int) - dt - 1, decide (dt + ((u.size : Int) - dt - 1) ≤ 19), true⟩) := by
              have h := md_some (neg := true) HE.out (by rw [HI.out]; exact hi0) (by rw [HF.out]; exact fun h => hf0 h.2)
              rw [HI.out, HF.out] at h
              exact h
            clear HE HI HF
            go_wp2
            go_loop [14, 15, 16] (fun v p i => ∃ (k : Nat) (vv pw : Int), k ≤ u.size ∧ i = .int .i64 ((k : Int) - 1) ∧ v = .int .u64 vv ∧ p = .int .u64 pw ∧ Hid (vl ((bs u).take k).reverse vv pw = vl (bs u).reverse 0 1)) (fun _ _ i => (intOf i + 1).toNat)
            case atStart => exact ⟨u.size, 0, 1, Nat.le_refl _, rfl, rfl, rfl, by unfold Hid; rw [bs_all]⟩
            case round =>
              obtain ⟨k, vv, pw, hk, rfl, rfl, rfl, HV⟩ := hrel
              rcases k with _ | m
              · have HF : Hid (vl (bs u).reverse 0 1 = vv) := by
                  have h := HV.out
                  rw [List.take_zero, List.reverse_nil, vl] at h
                  exact h.symm
                clear HV
                go_wp2
                exact bodyPost_ret (v := .tuple #[.bool true, .int .u64 vv, .int .i32 ((u.size : Int) - dt - 1), .bool (decide ((dt) + ((u.size : Int) - dt - 1) ≤ 19)), .bool true]) (by simp [results, Try.results8, go_sem]) rfl ⟨by rw [HZ.out, HF.out], rfl⟩
              · have hm : m < u.size := by omega
                have hkm : ((m + 1 : Nat) : Int) - 1 = (m : Int) := by omega
                rcases hall.out m hm with h46 | ⟨hd1, hd2⟩
                · have h46b : (((u[m]'hm).toNat : Int) == 46) = true := by rw [beq_iff_eq]; omega
                  have HS : Hid (vl ((bs u).take m).reverse vv pw = vl (bs u).reverse 0 1) := by
                    have h := HV.out
                    rw [bs_take u m hm, h46, vl_pt] at h
                    exact h
                  clear HV h46
                  rw [hkm]
                  clear hkm
                  go_wp2
                  go_round
                  case rel => exact ⟨m, vv, pw, by omega, rfl, rfl, rfl, HS⟩
                  case measure => simp [intOf]
                · have h46b : (((u[m]'hm).toNat : Int) == 46) = false := by rw [beq_eq_false_iff_ne]; omega
                  have HS : Hid (vl ((bs u).take m).reverse (W (vv + W ((((u[m]'hm).toNat : Int) - 48) * pw))) (W (pw * 10)) = vl (bs u).reverse 0 1) := by
                    have h := HV.out
                    rw [bs_take u m hm, vl_dig (by omega)] at h
                    exact h
                  clear HV
                  rw [hkm]
                  clear hkm
                  go_wp2
                  go_round
                  case rel => exact ⟨m, _, _, by omega, rfl, rfl, rfl, by rw [wrap_W, wrap_W, wrap_W]; exact HS⟩
                  case measure => simp [intOf]

      · have hi : nInt (bs u) dt = u.size := by unfold nInt; rw [if_neg hdt, bs_len]
        have hf : nFrac (bs u) dt = 0 := by unfold nFrac; rw [if_neg hdt]
        have HI := show Hid _ from hi
        have HF := show Hid _ from hf
        clear hi hf
        by_cases hi0 : (u.size : Int) = 0
        · have HZ : Hid (mdAns true (bs u) = zero) := md_z1 HE.out (by rw [HI.out]; exact hi0)
          have hf1 : ((u.size : Int) == 0) = true := by rw [beq_iff_eq]; exact hi0
          clear HE HI HF hi0
          go_wp2
          exact bodyPost_ret (v := .tuple #[.bool false, .int .u64 0, .int .i32 0, .bool false, .bool false]) (by simp [results, Try.results8, go_sem]) rfl ⟨by rw [HZ.out]; rfl, rfl⟩
        · have HZ : Hid (mdAns true (bs u) = ⟨true, vl (bs u).reverse 0 1, 0, decide ((u.size : Int) + 0 ≤ 19), true⟩) := by
            have h := md_some (neg := true) HE.out (by rw [HI.out]; exact hi0) (fun h => hdt h.1)
            rw [HI.out, HF.out] at h
            exact h
          clear HE HI HF
          go_wp2
          go_loop [14, 15, 16] (fun v p i => ∃ (k : Nat) (vv pw : Int), k ≤ u.size ∧ i = .int .i64 ((k : Int) - 1) ∧ v = .int .u64 vv ∧ p = .int .u64 pw ∧ Hid (vl ((bs u).take k).reverse vv pw = vl (bs u).reverse 0 1)) (fun _ _ i => (intOf i + 1).toNat)
          case atStart => exact ⟨u.size, 0, 1, Nat.le_refl _, rfl, rfl, rfl, by unfold Hid; rw [bs_all]⟩
          case round =>
            obtain ⟨k, vv, pw, hk, rfl, rfl, rfl, HV⟩ := hrel
            rcases k with _ | m
            · have HF : Hid (vl (bs u).reverse 0 1 = vv) := by
                have h := HV.out
                rw [List.take_zero, List.reverse_nil, vl] at h
                exact h.symm
              clear HV
              go_wp2
              exact bodyPost_ret (v := .tuple #[.bool true, .int .u64 vv, .int .i32 (0), .bool (decide (((u.size : Int)) + (0) ≤ 19)), .bool true]) (by simp [results, Try.results8, go_sem]) rfl ⟨by rw [HZ.out, HF.out], rfl⟩
            · have hm : m < u.size := by omega
              have hkm : ((m + 1 : Nat) : Int) - 1 = (m : Int) := by omega
              rcases hall.out m hm with h46 | ⟨hd1, hd2⟩
              · have h46b : (((u[m]'hm).toNat : Int) == 46) = true := by rw [beq_iff_eq]; omega
                have HS : Hid (vl ((bs u).take m).reverse vv pw = vl (bs u).reverse 0 1) := by
                  have h := HV.out
                  rw [bs_take u m hm, h46, vl_pt] at h
                  exact h
                clear HV h46
                rw [hkm]
                clear hkm
                go_wp2
                go_round
                case rel => exact ⟨m, vv, pw, by omega, rfl, rfl, rfl, HS⟩
                case measure => simp [intOf]
              · have h46b : (((u[m]'hm).toNat : Int) == 46) = false := by rw [beq_eq_false_iff_ne]; omega
                have HS : Hid (vl ((bs u).take m).reverse (W (vv + W ((((u[m]'hm).toNat : Int) - 48) * pw))) (W (pw * 10)) = vl (bs u).reverse 0 1) := by
                  have h := HV.out
                  rw [bs_take u m hm, vl_dig (by omega)] at h
                  exact h
                clear HV
                rw [hkm]
                clear hkm
                go_wp2
                go_round
                case rel => exact ⟨m, _, _, by omega, rfl, rfl, rfl, by rw [wrap_W, wrap_W, wrap_W]; exact HS⟩
                case measure => simp [intOf]


end Go.Proofs.Qxb6601792a.Pd
