import Derived.Test.Qxb6603573aDec8
namespace Go.Proofs.Qxb6603573a.U
open Go.RowKit

/-- 'asUTF8' of what bears no mark. -/
theorem as_short (a : Option Addr) (n c : Nat) (w : World) (hn : n < 2) :
    Calls Try.prog 18 #[.slice a n c] w fun e w' => e = .returned (.slice a n c) ∧ Below w.heap.size w w' := by
  go_enter Try.func18, Try.ntmps18
  go_wp2_with (go_at_call 22; refine (order_short _ _ _ _ hn).mono ?_; rintro e w1 ⟨rfl, hb1⟩)
  go_ret
  exact ⟨rfl, hb1⟩

theorem as_none (b o n c : Nat) (x0 x1 : Int) (w : World) (hn : 2 ≤ n) (hn9 : n ≤ 4194304) (hc : n ≤ c) (hb : b < w.heap.size)
    (hx0 : 0 ≤ x0 ∧ x0 ≤ 255) (hx1 : 0 ≤ x1 ∧ x1 ≤ 255)
    (h0 : w.cell? ⟨b, o, none⟩ = some (.int .u8 x0)) (h1 : w.cell? ⟨b, o + 1, none⟩ = some (.int .u8 x1))
    (nl : ¬ (x0 = 255 ∧ x1 = 254)) (nb : ¬ (x0 = 254 ∧ x1 = 255)) :
    Calls Try.prog 18 #[.slice (some ⟨b, o, none⟩) n c] w fun e w' => e = .returned (.slice (some ⟨b, o, none⟩) n c) ∧ Below w.heap.size w w' := by
  have C : Hid (Calls Try.prog 22 #[.slice (some ⟨b, o, none⟩) n c] w fun e w' => e = .returned .nilIface ∧ Below w.heap.size w w') := order_none b o n c x0 x1 w hn hn9 hc hb hx0 hx1 h0 h1 nl nb
  clear hx0 hx1 h0 h1 nl nb
  go_enter Try.func18, Try.ntmps18
  go_wp2_with (go_at_call 22; refine C.out.mono ?_; rintro e w1 ⟨rfl, hb1⟩)
  go_ret
  exact ⟨rfl, hb1⟩

/-- 'ZZasUTF8' hands on what 'asUTF8' hands back. -/
theorem zz_same (v r : Value) (w : World) (Q : World → Prop) (h : Hid (Calls Try.prog 18 #[v] w fun e w' => e = .returned r ∧ Q w')) :
    Calls Try.prog 11 #[v] w fun e w' => e = .returned r ∧ Q w' := by
  go_enter Try.func11, Try.ntmps11
  go_wp2_with (go_at_call 18; refine h.out.mono ?_; rintro e w1 ⟨rfl, hb1⟩)
  go_ret
  exact ⟨rfl, hb1⟩

theorem zz_some (v : Value) (w : World) (L : Nat) (F : Nat → Int) (h : Hid (Calls Try.prog 18 #[v] w fun e w' => ∃ g cap, e = .returned (.slice (some ⟨g, 0, none⟩) L cap) ∧ L ≤ cap ∧ Cs .u8 w' g 0 L F ∧ Below w.heap.size w w')) :
    Calls Try.prog 11 #[v] w fun e w' => ∃ g cap, e = .returned (.slice (some ⟨g, 0, none⟩) L cap) ∧ L ≤ cap ∧ Cs .u8 w' g 0 L F ∧ Below w.heap.size w w' := by
  go_enter Try.func11, Try.ntmps11
  go_wp2_with (go_at_call 18; refine h.out.mono ?_; rintro e w1 ⟨g, cap, rfl, hb1⟩)
  go_ret
  exact ⟨g, cap, rfl, hb1⟩

theorem Cs.congr {K : IntKind} {w : World} {b o n : Nat} {f g : Nat → Int} (h : Cs K w b o n f) (e : ∀ i, i < n → f i = g i) : Cs K w b o n g :=
  ⟨h.1, fun i hi => by rw [← e i hi]; exact h.2 i hi⟩

/-- 'zzDecodeUTF8': the slice written out. -/
theorem dec8_form (b n c : Nat) (rs : List Int) (w : World) (hn : (rs.flatMap enc1).length = n) (hn9 : n ≤ 4194304) (h0 : 0 < rs.length) (hq : rs.length ≤ 524288) (hok : Hid (∀ r ∈ rs, okR r)) (hs : Cs .u8 w b 0 n (fun i => (rs.flatMap enc1).getD i 0)) :
    Calls Try.prog 14 #[.slice (some ⟨b, 0, none⟩) n c] w fun e w' => ∃ g cap, e = .returned (.tuple #[.slice (some ⟨g, 0, none⟩) rs.length cap, .bool true]) ∧ Cs .u32 w' g 0 rs.length (fun i => rs.getD i 0) ∧ Below w.heap.size w w' := by
  refine (dec8_any b n c rs w hn hn9 hq hok hs).mono fun e w' ⟨v, he, ho, hb⟩ => ?_
  obtain ⟨g, cap, hv, _, _, hcs⟩ := Own.form ho h0
  exact ⟨g, cap, by rw [he, hv], hcs, hb⟩

theorem uL_getD (rs : List Int) : uL (fun i => rs.getD i 0) rs.length = rs := by
  apply List.ext_getElem
  · simp [uL]
  · intro i h1 h2
    simp [uL, List.getElem?_eq_getElem h2]

theorem ut_un {f : Nat → Int} (h : Bd f) (lt : Bool) (i : Nat) : ut lt (un lt f i) = [f (2 * i), f (2 * i + 1)] := by
  have h0 := h (2 * i)
  have h1 := h (2 * i + 1)
  cases lt
  · simp only [ut, un, cond_false]
    rw [show (f (2 * i) * 256 + f (2 * i + 1)) / 256 = f (2 * i) by omega, show (f (2 * i) * 256 + f (2 * i + 1)) % 256 = f (2 * i + 1) by omega]
  · simp only [ut, un, cond_true]
    rw [show (f (2 * i) + f (2 * i + 1) * 256) % 256 = f (2 * i) by omega, show (f (2 * i) + f (2 * i + 1) * 256) / 256 = f (2 * i + 1) by omega]

theorem uL_succ (U : Nat → Int) (m : Nat) : uL U (m + 1) = uL U m ++ [U m] := by simp [uL, List.range_succ]

theorem bytes_back {f : Nat → Int} (h : Bd f) (lt : Bool) (m : Nat) : (uL (un lt f) m).flatMap (ut lt) = uL f (m * 2) := by
  induction m with
  | zero => rfl
  | succ m ih =>
    rw [uL_succ, List.flatMap_append, ih, List.flatMap_singleton, ut_un h lt m, show (m + 1) * 2 = m * 2 + 1 + 1 by omega, uL_succ, uL_succ, List.append_assoc]
    rw [show m * 2 = 2 * m by omega]
    rfl

/-- Written back, the bytes are those that were read. -/
theorem eb_back {f : Nat → Int} (h : Bd f) (lt : Bool) (m : Nat) (hw : wfU (uL (un lt f) m) = true) : eb lt (dec (uL (un lt f) m)) = uL f (m * 2) := by
  unfold eb
  rw [e16_dec _ (units_bd h lt m) hw, bytes_back h lt m]

theorem uL_at (f : Nat → Int) (n i : Nat) (h : i < n) : (uL f n).getD i 0 = f i := by simp [uL, h]

/-- 'zzEncodeUTF16' of what was decoded: the bytes that were there. -/
theorem encode_back (lt : Bool) (b n c : Nat) (f : Nat → Int) (w : World) (hn : 2 ≤ n) (hn9 : n ≤ 1048576) (hf : Bd f) (hw : wfU (uL (un lt f) (n / 2)) = true)
    (hs : Cs .u32 w b 0 (dec (uL (un lt f) (n / 2))).length (fun i => (dec (uL (un lt f) (n / 2))).getD i 0)) :
    Calls Try.prog 16 #[.slice (some ⟨b, 0, none⟩) (dec (uL (un lt f) (n / 2))).length c, .bool lt] w fun e w' => ∃ g cap, e = .returned (.slice (some ⟨g, 0, none⟩) (n / 2 * 2) cap) ∧ Cs .u8 w' g 0 (n / 2 * 2) f ∧ Below w.heap.size w w' := by
  have hq : (dec (uL (un lt f) (n / 2))).length ≤ 524288 := Nat.le_trans (dec_len _) (by rw [uL_len]; omega)
  have hok := dec_ok _ (units_bd hf lt (n / 2))
  refine (encode_any lt b _ c _ w hq hs (fun i hi => ?_)).mono fun e w' ⟨v, he, ho, hb⟩ => ?_
  · have := hok _ (List.getElem_mem hi)
    simp only [List.getD_eq_getElem?_getD, List.getElem?_eq_getElem hi, Option.getD_some]
    unfold okR at this
    omega
  · rw [uL_getD, eb_back hf lt _ hw] at ho
    have hl : (uL f (n / 2 * 2)).length = n / 2 * 2 := uL_len _ _
    obtain ⟨g, cap, hv, _, _, hcs⟩ := Own.form ho (by rw [hl]; omega)
    rw [hl] at hv hcs
    exact ⟨g, cap, by rw [he, hv], hcs.congr (fun i hi => uL_at f _ i hi), hb⟩

/-- What the mark is, in UTF-8. -/
theorem mark_enc (t : List Int) : ∃ l, (65279 :: t).flatMap enc1 = 239 :: 187 :: 191 :: l := ⟨t.flatMap enc1, by
  rw [List.flatMap_cons]; rfl⟩

theorem dec_mark (U : Nat → Int) (m : Nat) (h : 0 < m) (hU : U 0 = 65279) : ∃ t, dec (uL U m) = 65279 :: t := by
  have e : uL U m = 65279 :: (uL U m).drop 1 := by
    have := uL_drop U m 0 h
    rw [List.drop_zero, hU] at this
    exact this
  exact ⟨dec ((uL U m).drop 1), by rw [e, dec_plain (by omega)]; rfl⟩
end Go.Proofs.Qxb6603573a.U
