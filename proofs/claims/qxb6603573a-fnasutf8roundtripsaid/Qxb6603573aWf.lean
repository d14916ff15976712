import Derived.Test.Qxb6603573aAs
namespace Go.Proofs.Qxb6603573a.U
open Go.RowKit

set_option maxHeartbeats 1000000 in
/-- 'zzWellFormedUTF16'. -/
theorem wf_any (lt : Bool) (b n c : Nat) (f : Nat → Int) (w : World) (hn9 : n ≤ 1048576) (hs : Cs .u8 w b 0 n f) (hf : Bd f) :
    Calls Try.prog 15 #[.slice (some ⟨b, 0, none⟩) n c, .bool lt] w fun e w' => e = .returned (.bool (wfU (uL (un lt f) (n / 2)))) ∧ w' = w := by
  have HS := show Hid (Cs .u8 w b 0 n f) from hs
  have HF := show Hid (Bd f) from hf
  clear hs hf
  go_enter Try.func15, Try.ntmps15
  go_wp2
  go_loop [6] (fun i => ∃ k : Nat, k ≤ n / 2 ∧ i = .int .i64 k ∧ Hid (wfU ((uL (un lt f) (n / 2)).drop k) = wfU (uL (un lt f) (n / 2)))) (fun i => n / 2 - (intOf i).toNat)
  case atStart => exact ⟨0, Nat.zero_le _, rfl, by simp [Hid]⟩
  case round =>
    obtain ⟨k, hk, rfl, HR⟩ := hrel
    by_cases hlt : k < n / 2
    · have hlt' : (k : Int) < (n : Int) / 2 := by omega
      have hu := un_bd HF.out lt k
      have hDk := HR.out
      rw [uL_drop (un lt f) (n / 2) k hlt] at hDk
      have HK := show Hid _ from hDk
      have C0 : Hid (Calls Try.prog 19 #[.slice (some ⟨b, 0, none⟩) n c, .int .i64 (k : Int), .bool lt] w fun e w' => e = .returned (.int .u32 (un lt f k)) ∧ w' = w) := unit_any lt b 0 n c k (k : Int) f w rfl (by omega) HS.out HF.out (by omega)
      clear HR hDk
      generalize hUk : un lt f k = u at *
      have HU := show Hid _ from hUk
      clear hUk
      by_cases a1 : u < 55296
      · have HN : Hid (wfU ((uL (un lt f) (n / 2)).drop (k + 1)) = wfU (uL (un lt f) (n / 2))) := by have h := HK.out; rw [wf_plain (by omega)] at h; exact h
        clear HK
        go_wp2_with (go_at_call 19; refine (C0.out).mono ?_; rintro e w' ⟨rfl, rfl⟩)
        go_round
        case rel => exact ⟨k + 1, by omega, by go_num, HN⟩
        case measure => simp [intOf]; omega
      · by_cases a2 : 57344 ≤ u
        · have HN : Hid (wfU ((uL (un lt f) (n / 2)).drop (k + 1)) = wfU (uL (un lt f) (n / 2))) := by have h := HK.out; rw [wf_plain (by omega)] at h; exact h
          clear HK
          go_wp2_with (go_at_call 19; refine (C0.out).mono ?_; rintro e w' ⟨rfl, rfl⟩)
          go_round
          case rel => exact ⟨k + 1, by omega, by go_num, HN⟩
          case measure => simp [intOf]; omega
        · by_cases a3 : 56320 ≤ u
          · have HN : Hid (wfU (uL (un lt f) (n / 2)) = false) := by rw [← HK.out, wf_low (by omega) (by omega)]; rfl
            clear HK
            go_wp2_with (go_at_call 19; refine (C0.out).mono ?_; rintro e w' ⟨rfl, rfl⟩)
            go_ret
            exact ⟨by rw [HN.out]; rfl, rfl⟩
          · by_cases a4 : k + 1 < n / 2
            · have hlt2 : (k : Int) + 1 < (n : Int) / 2 := by omega
              have hu1 := un_bd HF.out lt (k + 1)
              have hDk := HK.out
              rw [uL_drop (un lt f) (n / 2) (k + 1) a4] at hDk
              have HK2 := show Hid _ from hDk
              have C1 : Hid (Calls Try.prog 19 #[.slice (some ⟨b, 0, none⟩) n c, .int .i64 ((k : Int) + 1), .bool lt] w fun e w' => e = .returned (.int .u32 (un lt f (k + 1))) ∧ w' = w) := unit_any lt b 0 n c (k + 1) ((k : Int) + 1) f w (by omega) (by omega) HS.out HF.out (by omega)
              clear hDk HK
              generalize hUk : un lt f (k + 1) = u2 at *
              have HU2 := show Hid _ from hUk
              clear hUk
              by_cases a5 : 56320 ≤ u2 ∧ u2 < 57344
              · have HN : Hid (wfU ((uL (un lt f) (n / 2)).drop (k + 2)) = wfU (uL (un lt f) (n / 2))) := by have h := HK2.out; rw [wf_pair (by omega) ⟨by omega, a5.1, a5.2⟩] at h; exact h
                obtain ⟨a5, a6⟩ := a5
                clear HK2
                go_wp2_with fail
                refine (C0.out).mono ?_
                rintro e w' ⟨rfl, rfl⟩
                go_wp2_with fail
                refine (C1.out).mono ?_
                rintro e w' ⟨rfl, rfl⟩
                go_wp2_with fail
                go_round
                case rel => exact ⟨k + 2, by omega, by go_num, HN⟩
                case measure => simp [intOf]; omega
              · have HN : Hid (wfU (uL (un lt f) (n / 2)) = false) := by rw [← HK2.out, wf_lone (by omega) (by omega)]; rfl
                clear HK2
                by_cases a6 : u2 < 56320
                · go_wp2_with fail
                  refine (C0.out).mono ?_
                  rintro e w' ⟨rfl, rfl⟩
                  go_wp2_with fail
                  refine (C1.out).mono ?_
                  rintro e w' ⟨rfl, rfl⟩
                  go_wp2_with fail
                  go_ret
                  exact ⟨by rw [HN.out]; rfl, rfl⟩
                · have a7 : 57344 ≤ u2 := by omega
                  go_wp2_with fail
                  refine (C0.out).mono ?_
                  rintro e w' ⟨rfl, rfl⟩
                  go_wp2_with fail
                  refine (C1.out).mono ?_
                  rintro e w' ⟨rfl, rfl⟩
                  go_wp2_with fail
                  go_ret
                  exact ⟨by rw [HN.out]; rfl, rfl⟩
            · have HN : Hid (wfU (uL (un lt f) (n / 2)) = false) := by rw [← HK.out, uL_end _ _ (k + 1) (by omega), wf_last (by omega)]; rfl
              clear HK
              go_wp2_with (go_at_call 19; refine (C0.out).mono ?_; rintro e w' ⟨rfl, rfl⟩)
              go_ret
              exact ⟨by rw [HN.out]; rfl, rfl⟩
    · have HN : Hid (wfU (uL (un lt f) (n / 2)) = true) := by rw [← HR.out, uL_end _ _ k (by omega), wfU]; rfl
      clear HR
      go_wp2
      go_ret
      exact ⟨by rw [HN.out]; rfl, rfl⟩
end Go.Proofs.Qxb6603573a.U
