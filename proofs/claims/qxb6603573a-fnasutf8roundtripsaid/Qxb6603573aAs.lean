import Derived.Test.Qxb6603573aDecode
import Derived.Deep.RegionWith
namespace Go.Proofs.Qxb6603573a.U
open Go.RowKit

theorem info43 : (Try.prog.info? 43).map (fun i => (i.zero, i.size, i.bytes)) = some (some (.int .u16 0), 1, 2) := by kernel_rfl

theorem Cs.at0 {K : IntKind} {w : World} {b n : Nat} {f : Nat → Int} (h : Cs K w b 0 n f) {i : Nat} (hi : i < n) : w.cell? ⟨b, i, none⟩ = some (.int K (f i)) := by
  have := h.2 i hi
  rwa [Nat.zero_add] at this

/-- What is known of the units' row, carried over a call that makes memory alone. -/
theorem over_call {wr w2 w : World} {B n k : Nat} {F : Nat → Value} (hk : k < n) (hb2 : Below wr.drew.heap.size wr.drew w2) (HB : Below w.heap.size w wr) (HR : wr.rowIs B 43 n F) :
    (∃ v, w2.cell? ⟨B, k, none⟩ = some v) ∧ w2.frozen? ⟨B, k, none⟩ = false ∧ Hid (Below w.heap.size w w2) ∧ Hid (w2.rowIs B 43 n F) := by
  have h2 : w2.rowIs B 43 n F := HR.of_block (hb2.block B HR.lt)
  exact ⟨⟨_, h2.cell hk⟩, h2.frozen k, HB.trans (Below.mono ⟨hb2.os, hb2.tape, hb2.output, hb2.size, hb2.block⟩ HB.size), h2⟩

theorem nil50 (w : World) : (nilAhead 177 50 (.agg #[]) "Uint16").run Try.prog w = .ok (some false) w := by kernel_rfl
theorem nil51 (w : World) : (nilAhead 177 51 (.agg #[]) "Uint16").run Try.prog w = .ok (some false) w := by kernel_rfl
theorem meth50 (w : World) : (method 177 50 (.agg #[]) "Uint16").run Try.prog w = .ok (50, .agg #[]) w := by kernel_rfl
theorem meth51 (w : World) : (method 177 51 (.agg #[]) "Uint16").run Try.prog w = .ok (58, .agg #[]) w := by kernel_rfl

/-- 'utf16.Decode'. -/
theorem Decode_any (b o m c : Nat) (U : Nat → Int) (w : World) (hm : m ≤ 1048576) (hU : Hid (∀ i, 0 ≤ U i ∧ U i ≤ 65535)) (hs : Cs .u16 w b o m U) :
    Calls Try.prog 23 #[.slice (some ⟨b, o, none⟩) m c] w fun e w' => ∃ v, e = .returned v ∧ Own w' w.heap.size 21 .i32 v (dec (uL U m)) ∧ Below w.heap.size w w' := by
  obtain ⟨i, hi, hz0, hz1, hz2⟩ := info_parts info21
  have HS := show Hid (Cs .u16 w b o m U) from hs
  have hb := hs.1
  clear hs
  go_enter Try.func23, Try.ntmps23
  go_wp2_with (at_make; refine wpList_make_own _ rfl _ _ 45 rfl w.heap.size 21 i (.int .i32 0) 1 Try.underlying45 hi hz0 hz1 _ _ _ 64 rfl rfl (by omega) (by rw [hz2]; omega) (by unfold maxLen; omega) (Nat.le_refl _) ?_)
  intro w1 hown hgrow
  have hb1 := Below.grown (Below.refl w.heap.size w) hgrow (Nat.le_refl _) (by simp)
  have HO := show Hid (Own w1 w.heap.size 21 .i32 _ []) from hown
  have HB := show Hid _ from hb1
  clear hown hgrow hb1
  go_wp2_with (go_at_call 26; refine (decode_any b o m c w.heap.size U _ _ hm hU (HS.out.below HB.out) hb HB.out.size HO.out).mono ?_; rintro e w2 ⟨v, rfl, ho2, hb2⟩)
  go_ret
  exact ⟨_, rfl, ho2, HB.out.trans hb2⟩

/-- A row that is not empty: where it lies. -/
theorem Own.form {w : World} {base : Nat} {e : TypeId} {K : IntKind} {v : Value} {rs : List Int} (h : Own w base e K v rs) (hne : 0 < rs.length) :
    ∃ g cap, v = .slice (some ⟨g, 0, none⟩) rs.length cap ∧ rs.length ≤ cap ∧ base ≤ g ∧ Cs K w g 0 rs.length (fun i => rs.getD i 0) := by
  have h' := h
  rcases h.2 with ⟨_, h0⟩ | ⟨g, cap, cur, rfl, hg, hh, hle, _⟩
  · omega
  · refine ⟨g, cap, rfl, hle, hg, ?_, fun i hi => ?_⟩
    · rcases Nat.lt_or_ge g w.heap.size with h | h
      · exact h
      · rw [Array.getElem?_eq_none h] at hh; cases hh
    · rw [Nat.zero_add, World.ownsRow.cellAt h' i (by omega)]
      simp [List.getElem?_eq_getElem hi]

theorem dec_pos {l : List Int} (h : 0 < l.length) : 0 < (dec l).length := by
  match l, h with
  | [u], _ => rw [dec]; split <;> simp
  | u :: v :: t, _ =>
    by_cases p1 : u < 55296 ∨ 57344 ≤ u
    · rw [dec_plain p1]; simp
    · by_cases p2 : u < 56320 ∧ 56320 ≤ v ∧ v < 57344
      · rw [dec_pair p1 p2]; simp
      · rw [dec_lone p1 p2]; simp

/-- 'utf16.Decode' of one unit or more: the slice written out. -/
theorem Decode_form (b o m c : Nat) (U : Nat → Int) (w : World) (h0 : 0 < m) (hm : m ≤ 1048576) (hU : Hid (∀ i, 0 ≤ U i ∧ U i ≤ 65535)) (hs : Cs .u16 w b o m U) :
    Calls Try.prog 23 #[.slice (some ⟨b, o, none⟩) m c] w fun e w' => ∃ g cap, e = .returned (.slice (some ⟨g, 0, none⟩) (dec (uL U m)).length cap) ∧
      Cs .i32 w' g 0 (dec (uL U m)).length (fun i => (dec (uL U m)).getD i 0) ∧ Below w.heap.size w w' := by
  refine (Decode_any b o m c U w hm hU hs).mono fun e w' ⟨v, he, ho, hb⟩ => ?_
  obtain ⟨g, cap, hv, _, _, hcs⟩ := Own.form ho (dec_pos (by rw [uL_len]; exact h0))
  exact ⟨g, cap, by rw [he, hv], hcs, hb⟩

/-- What '[]byte(s)' lays, at a place of the string. -/
theorem bytesRow_at (s : ByteArray) (cap j : Nat) (hj : j < s.size) : (bytesRow s cap)[j]? = some (.int .u8 ((nums s).getD j 0)) := by
  have h1 : j < s.data.size := hj
  unfold bytesRow nums
  rw [Array.getElem?_append_left (by simpa using h1)]
  simp [Array.getElem?_eq_getElem h1]

theorem bytes_laid (w : World) (s : ByteArray) (cap : Nat) (L : List Int) (hL : nums s = L) (mk : Nat × Nat) :
    Cs .u8 (w.alloc (.cells (bytesRow s cap) 5 mk)) w.heap.size 0 L.length (fun i => L.getD i 0) := by
  refine ⟨by simp, fun i hi => ?_⟩
  rw [Nat.zero_add, World.cell?_alloc_mark, bytesRow_at s cap i (by rw [← nums_len, hL]; exact hi), hL]

theorem units_bd {f : Nat → Int} (h : Bd f) (lt : Bool) (m : Nat) : ∀ u ∈ uL (un lt f) m, 0 ≤ u ∧ u ≤ 65535 := by
  intro u hu
  obtain ⟨i, _, rfl⟩ := List.mem_map.1 hu
  exact un_bd h lt i

set_option maxHeartbeats 1000000 in
theorem as_little (b n c : Nat) (f : Nat → Int) (w : World) (hn : 2 ≤ n) (hn9 : n ≤ 1048576) (hc : n ≤ c) (hs : Cs .u8 w b 0 n f) (hf : Hid (Bd f)) (f0 : f 0 = 255) (f1 : f 1 = 254) :
    Calls Try.prog 18 #[.slice (some ⟨b, 0, none⟩) n c] w fun e w' => ∃ g cap, e = .returned (.slice (some ⟨g, 0, none⟩) ((dec (uL (un true f) (n / 2))).flatMap enc1).length cap) ∧
      ((dec (uL (un true f) (n / 2))).flatMap enc1).length ≤ cap ∧ Cs .u8 w' g 0 ((dec (uL (un true f) (n / 2))).flatMap enc1).length (fun i => ((dec (uL (un true f) (n / 2))).flatMap enc1).getD i 0) ∧ Below w.heap.size w w' := by
  have HS := show Hid (Cs .u8 w b 0 n f) from hs
  have hb := hs.1
  have HQ0 : Hid (w.cell? ⟨b, 0, none⟩ = some (.int .u8 255)) := by rw [← f0]; exact hs.2 0 (by omega)
  have HQ1 : Hid (w.cell? ⟨b, 0 + 1, none⟩ = some (.int .u8 254)) := by rw [← f1]; exact hs.2 1 (by omega)
  clear hs f0 f1
  have hmk := run_make_row' (P := Try.prog) 42 43 (.int .u16 0) 2 Try.underlying42 info43 rfl .i64 .i64 (n / 2) (by omega) (by omega)
  have en : ((n / 2 : Nat) : Int) = (n : Int) / 2 := by omega
  rw [en] at hmk
  clear en
  go_enter Try.func18, Try.ntmps18
  go_wp2_with (go_at_call 22; refine (order_little b 0 n c _ hn (by omega) hc hb HQ0.out HQ1.out).mono ?_; rintro e w1 ⟨rfl, hb1⟩)
  have hw1 := hb1.size
  have HB1 := show Hid _ from hb1
  clear hb1
  go_loopw [17] (fun i wr => ∃ k : Nat, k ≤ n / 2 ∧ i = .int .i64 k ∧ Hid (Below w.heap.size w wr) ∧ Hid (wr.rowIs w1.heap.size 43 (n / 2) (half .u16 k (un true f)))) (fun i _ => n / 2 - (intOf i).toNat)
  case atStart => exact ⟨0, Nat.zero_le _, rfl, HB1.out.alloc hw1 _, by unfold Hid; rw [half_zero]; exact World.rowIs_made _ _ _ _⟩
  case round =>
    obtain ⟨k, hk, rfl, HB, HR⟩ := hrel
    by_cases hlt : k < n / 2
    · have hlt' : (k : Int) < (n : Int) / 2 := by omega
      have hlt3 : 2 * (k : Int) < (n : Int) := by omega
      have hlt4 : (n : Int) ≤ (c : Int) := by omega
      go_wp2
      have hwr : IntKind.i64.wrap (2 * (k : Int)) = 2 * (k : Int) := IntWalk.i64_in _ (by omega)
      have hne : ¬ c = 2 * k := by omega
      have n50 := nil50
      have m50 := meth50
      have Q0 : Hid (wr.cell? ⟨b, 2 * k, none⟩ = _) := (HB.out.cell (p := ⟨b, 2 * k, none⟩) hb).trans (HS.out.at0 (by omega))
      have Q1 : Hid (wr.cell? ⟨b, 2 * k + 1, none⟩ = _) := (HB.out.cell (p := ⟨b, 2 * k + 1, none⟩) hb).trans (HS.out.at0 (by omega))
      have hbr : b < wr.heap.size := Nat.lt_of_lt_of_le hb HB.out.size
      go_region_with (go_at_call 50; refine (uint16_little b (2 * k) _ _ (f (2 * k)) (f (2 * k + 1)) _ (by omega) (by exact hbr) (hf.out _) (hf.out _) (by exact Q0.out) (by exact Q1.out)).mono ?_; rintro e w2 ⟨rfl, hb2⟩; obtain ⟨⟨v2, c2⟩, z2, HB2, HR2⟩ := over_call hlt hb2 HB.out HR.out; clear hb2)
      all_goals
        have HB3 := show Hid _ from HB2.out.setCell (p := ⟨w1.heap.size, k, none⟩) hw1 (.int .u16 (un true f k))
        have HR3 := show Hid _ from (HR2.out.set k (.int .u16 (un true f k))).congr (fun i _ => half_step .u16 k (un true f) i)
        simp only [un, cond_true] at HB3 HR3
        clear HB2 HR2 HB HR n50 m50 Q0 Q1
        go_wp2
        go_roundw
        case rel => exact ⟨k + 1, by omega, by go_num, HB3, HR3⟩
        case measure => simp [intOf]; omega
    · have e : k = n / 2 := by omega
      subst e
      have HC := show Hid _ from rowIs_Cs HR.out
      have hU : Hid (∀ i, 0 ≤ un true f i ∧ un true f i ≤ 65535) := un_bd hf.out true
      have HOK : Hid (∀ r ∈ (dec (uL (un true f) (n / 2))), okR r) := dec_ok _ (units_bd hf.out true _)
      clear HR
      go_wp2_with fail
      refine (Decode_form w1.heap.size 0 (n / 2) (n / 2) (un true f) _ (by omega) (by omega) hU (by exact HC.out)).mono ?_
      rintro e w3 ⟨g, cap, rfl, hcs, hb3⟩
      have k1 := run_convert_runes (P := Try.prog) w3 45 9 21 ⟨g, 0, none⟩ (dec (uL (un true f) (n / 2))).length cap (dec (uL (un true f) (n / 2))) (Nat.le_refl _) Try.underlying45 Try.underlying21 Try.underlying9 (fun j hj => by rw [WideShapes.add_plain]; exact hcs.2 j hj)
      rw [List.take_length] at k1
      have HN := show Hid _ from runes_nums _ HOK.out
      generalize runesBytes (dec (uL (un true f) (n / 2))) = s at *
      have k2 := run_bytes_of_string (P := Try.prog) w3 9 22 5 s Try.underlying9 Try.underlying22 Try.underlying5
      have HB3 := show Hid _ from HB.out.trans (Below.mono hb3 HB.out.size)
      clear hcs hb3 HB HC HOK hU
      go_wp2
      go_ret
      exact ⟨w3.heap.size, grownCap w3 s.size 0 5, by rw [← HN.out, nums_len]; rfl, by rw [← HN.out, nums_len]; exact grownCap_ge _ _ _ _, bytes_laid w3 s _ _ HN.out _, (HB3.out.alloc HB3.out.size _).drew⟩

set_option maxHeartbeats 1000000 in
theorem as_big (b n c : Nat) (f : Nat → Int) (w : World) (hn : 2 ≤ n) (hn9 : n ≤ 1048576) (hc : n ≤ c) (hs : Cs .u8 w b 0 n f) (hf : Hid (Bd f)) (f0 : f 0 = 254) (f1 : f 1 = 255) :
    Calls Try.prog 18 #[.slice (some ⟨b, 0, none⟩) n c] w fun e w' => ∃ g cap, e = .returned (.slice (some ⟨g, 0, none⟩) ((dec (uL (un false f) (n / 2))).flatMap enc1).length cap) ∧
      ((dec (uL (un false f) (n / 2))).flatMap enc1).length ≤ cap ∧ Cs .u8 w' g 0 ((dec (uL (un false f) (n / 2))).flatMap enc1).length (fun i => ((dec (uL (un false f) (n / 2))).flatMap enc1).getD i 0) ∧ Below w.heap.size w w' := by
  have HS := show Hid (Cs .u8 w b 0 n f) from hs
  have hb := hs.1
  have HQ0 : Hid (w.cell? ⟨b, 0, none⟩ = some (.int .u8 254)) := by rw [← f0]; exact hs.2 0 (by omega)
  have HQ1 : Hid (w.cell? ⟨b, 0 + 1, none⟩ = some (.int .u8 255)) := by rw [← f1]; exact hs.2 1 (by omega)
  clear hs f0 f1
  have hmk := run_make_row' (P := Try.prog) 42 43 (.int .u16 0) 2 Try.underlying42 info43 rfl .i64 .i64 (n / 2) (by omega) (by omega)
  have en : ((n / 2 : Nat) : Int) = (n : Int) / 2 := by omega
  rw [en] at hmk
  clear en
  go_enter Try.func18, Try.ntmps18
  go_wp2_with (go_at_call 22; refine (order_big b 0 n c _ hn (by omega) hc hb HQ0.out HQ1.out).mono ?_; rintro e w1 ⟨rfl, hb1⟩)
  have hw1 := hb1.size
  have HB1 := show Hid _ from hb1
  clear hb1
  go_loopw [17] (fun i wr => ∃ k : Nat, k ≤ n / 2 ∧ i = .int .i64 k ∧ Hid (Below w.heap.size w wr) ∧ Hid (wr.rowIs w1.heap.size 43 (n / 2) (half .u16 k (un false f)))) (fun i _ => n / 2 - (intOf i).toNat)
  case atStart => exact ⟨0, Nat.zero_le _, rfl, HB1.out.alloc hw1 _, by unfold Hid; rw [half_zero]; exact World.rowIs_made _ _ _ _⟩
  case round =>
    obtain ⟨k, hk, rfl, HB, HR⟩ := hrel
    by_cases hlt : k < n / 2
    · have hlt' : (k : Int) < (n : Int) / 2 := by omega
      have hlt3 : 2 * (k : Int) < (n : Int) := by omega
      have hlt4 : (n : Int) ≤ (c : Int) := by omega
      go_wp2
      have hwr : IntKind.i64.wrap (2 * (k : Int)) = 2 * (k : Int) := IntWalk.i64_in _ (by omega)
      have hne : ¬ c = 2 * k := by omega
      have n50 := nil51
      have m50 := meth51
      have Q0 : Hid (wr.cell? ⟨b, 2 * k, none⟩ = _) := (HB.out.cell (p := ⟨b, 2 * k, none⟩) hb).trans (HS.out.at0 (by omega))
      have Q1 : Hid (wr.cell? ⟨b, 2 * k + 1, none⟩ = _) := (HB.out.cell (p := ⟨b, 2 * k + 1, none⟩) hb).trans (HS.out.at0 (by omega))
      have hbr : b < wr.heap.size := Nat.lt_of_lt_of_le hb HB.out.size
      go_region_with (go_at_call 58; refine (uint16_big b (2 * k) _ _ (f (2 * k)) (f (2 * k + 1)) _ (by omega) (by exact hbr) (hf.out _) (hf.out _) (by exact Q0.out) (by exact Q1.out)).mono ?_; rintro e w2 ⟨rfl, hb2⟩; obtain ⟨⟨v2, c2⟩, z2, HB2, HR2⟩ := over_call hlt hb2 HB.out HR.out; clear hb2)
      all_goals
        have HB3 := show Hid _ from HB2.out.setCell (p := ⟨w1.heap.size, k, none⟩) hw1 (.int .u16 (un false f k))
        have HR3 := show Hid _ from (HR2.out.set k (.int .u16 (un false f k))).congr (fun i _ => half_step .u16 k (un false f) i)
        simp only [un, cond_false] at HB3 HR3
        clear HB2 HR2 HB HR n50 m50 Q0 Q1
        go_wp2
        go_roundw
        case rel => exact ⟨k + 1, by omega, by go_num, HB3, HR3⟩
        case measure => simp [intOf]; omega
    · have e : k = n / 2 := by omega
      subst e
      have HC := show Hid _ from rowIs_Cs HR.out
      have hU : Hid (∀ i, 0 ≤ un false f i ∧ un false f i ≤ 65535) := un_bd hf.out false
      have HOK : Hid (∀ r ∈ (dec (uL (un false f) (n / 2))), okR r) := dec_ok _ (units_bd hf.out false _)
      clear HR
      go_wp2_with fail
      refine (Decode_form w1.heap.size 0 (n / 2) (n / 2) (un false f) _ (by omega) (by omega) hU (by exact HC.out)).mono ?_
      rintro e w3 ⟨g, cap, rfl, hcs, hb3⟩
      have k1 := run_convert_runes (P := Try.prog) w3 45 9 21 ⟨g, 0, none⟩ (dec (uL (un false f) (n / 2))).length cap (dec (uL (un false f) (n / 2))) (Nat.le_refl _) Try.underlying45 Try.underlying21 Try.underlying9 (fun j hj => by rw [WideShapes.add_plain]; exact hcs.2 j hj)
      rw [List.take_length] at k1
      have HN := show Hid _ from runes_nums _ HOK.out
      generalize runesBytes (dec (uL (un false f) (n / 2))) = s at *
      have k2 := run_bytes_of_string (P := Try.prog) w3 9 22 5 s Try.underlying9 Try.underlying22 Try.underlying5
      have HB3 := show Hid _ from HB.out.trans (Below.mono hb3 HB.out.size)
      clear hcs hb3 HB HC HOK hU
      go_wp2
      go_ret
      exact ⟨w3.heap.size, grownCap w3 s.size 0 5, by rw [← HN.out, nums_len]; rfl, by rw [← HN.out, nums_len]; exact grownCap_ge _ _ _ _, bytes_laid w3 s _ _ HN.out _, (HB3.out.alloc HB3.out.size _).drew⟩

end Go.Proofs.Qxb6603573a.U
