/-
  PLAIN: UTF-16 decoded, checked, written; UTF-8 written. Lists of numbers; no Go in sight.
-/
import Derived.Laws.Cover4
namespace Go.Proofs.Qxb6603573a.U

/-- 'utf16.Decode'. -/
def dec : List Int → List Int
  | [] => []
  | [u] => if u < 55296 ∨ 57344 ≤ u then [u] else [65533]
  | u :: v :: t =>
    if u < 55296 ∨ 57344 ≤ u then u :: dec (v :: t)
    else if u < 56320 ∧ 56320 ≤ v ∧ v < 57344 then ((u - 55296) * 1024 + (v - 56320) + 65536) :: dec t
    else 65533 :: dec (v :: t)

theorem dec_plain {u : Int} {t : List Int} (h : u < 55296 ∨ 57344 ≤ u) : dec (u :: t) = u :: dec t := by
  cases t with
  | nil => simp [dec, h]
  | cons v t => rw [dec, if_pos h]
theorem dec_pair {u v : Int} {t : List Int} (h : ¬ (u < 55296 ∨ 57344 ≤ u)) (h2 : u < 56320 ∧ 56320 ≤ v ∧ v < 57344) :
    dec (u :: v :: t) = ((u - 55296) * 1024 + (v - 56320) + 65536) :: dec t := by rw [dec, if_neg h, if_pos h2]
theorem dec_last {u : Int} (h : ¬ (u < 55296 ∨ 57344 ≤ u)) : dec [u] = [65533] := by rw [dec, if_neg h]
theorem dec_lone {u v : Int} {t : List Int} (h : ¬ (u < 55296 ∨ 57344 ≤ u)) (h2 : ¬ (u < 56320 ∧ 56320 ≤ v ∧ v < 57344)) :
    dec (u :: v :: t) = 65533 :: dec (v :: t) := by rw [dec, if_neg h, if_neg h2]
theorem dec_low {u : Int} {t : List Int} (h : ¬ (u < 55296 ∨ 57344 ≤ u)) (h2 : 56320 ≤ u) : dec (u :: t) = 65533 :: dec t := by
  cases t with
  | nil => rw [dec_last h, dec]
  | cons v t => rw [dec_lone h (by omega)]

/-- A code point that is none of the surrogates'. -/
def okR (r : Int) : Prop := (0 ≤ r ∧ r < 55296) ∨ (57344 ≤ r ∧ r ≤ 1114111)

/-- All about 'dec', two units at a time. -/
theorem dec_ind {P : List Int → Prop} (h0 : P []) (h1 : ∀ u, P [u]) (h2 : ∀ u v t, P t → P (v :: t) → P (u :: v :: t)) : ∀ l, P l := by
  have key : ∀ n l, l.length ≤ n → P l := by
    intro n
    induction n with
    | zero => intro l hl; cases l with
      | nil => exact h0
      | cons u t => simp at hl
    | succ n ih =>
      intro l hl
      match l, hl with
      | [], _ => exact h0
      | [u], _ => exact h1 u
      | u :: v :: t, hl => exact h2 u v t (ih t (by simp at hl; omega)) (ih (v :: t) (by simp at hl ⊢; omega))
  exact fun l => key l.length l (Nat.le_refl _)

theorem dec_ok (l : List Int) : (∀ u ∈ l, 0 ≤ u ∧ u ≤ 65535) → ∀ r ∈ dec l, okR r := by
  refine dec_ind (P := fun l => (∀ u ∈ l, 0 ≤ u ∧ u ≤ 65535) → ∀ r ∈ dec l, okR r) ?_ ?_ ?_ l
  · intro _ r hr; simp [dec] at hr
  · intro u hu r hr
    have := hu u (by simp)
    rw [dec] at hr
    split at hr <;> (simp at hr; subst hr; unfold okR; omega)
  · intro u v t ht hvt hu r hr
    have b1 := hu u (by simp)
    have b2 := hu v (by simp)
    have c1 : ∀ x ∈ t, 0 ≤ x ∧ x ≤ 65535 := fun x hx => hu x (by simp [hx])
    have c2 : ∀ x ∈ v :: t, 0 ≤ x ∧ x ≤ 65535 := fun x hx => hu x (List.mem_cons_of_mem _ hx)
    by_cases p1 : u < 55296 ∨ 57344 ≤ u
    · rw [dec_plain p1] at hr
      rcases List.mem_cons.1 hr with rfl | hr
      · unfold okR; omega
      · exact hvt c2 r hr
    · by_cases p2 : u < 56320 ∧ 56320 ≤ v ∧ v < 57344
      · rw [dec_pair p1 p2] at hr
        rcases List.mem_cons.1 hr with rfl | hr
        · unfold okR; omega
        · exact ht c1 r hr
      · rw [dec_lone p1 p2] at hr
        rcases List.mem_cons.1 hr with rfl | hr
        · unfold okR; omega
        · exact hvt c2 r hr

theorem dec_len (l : List Int) : (dec l).length ≤ l.length := by
  refine dec_ind (P := fun l => (dec l).length ≤ l.length) ?_ ?_ ?_ l
  · simp [dec]
  · intro u; rw [dec]; split <;> simp
  · intro u v t ht hvt
    by_cases p1 : u < 55296 ∨ 57344 ≤ u
    · rw [dec_plain p1]; simp at hvt ⊢; exact hvt
    · by_cases p2 : u < 56320 ∧ 56320 ≤ v ∧ v < 57344
      · rw [dec_pair p1 p2]; simp; omega
      · rw [dec_lone p1 p2]; simp at hvt ⊢; exact hvt

/-- 'zzWellFormedUTF16'. -/
def wfU : List Int → Bool
  | [] => true
  | [u] => decide (u < 55296 ∨ 57344 ≤ u)
  | u :: v :: t =>
    if u < 55296 ∨ 57344 ≤ u then wfU (v :: t)
    else if u < 56320 ∧ 56320 ≤ v ∧ v < 57344 then wfU t
    else false

theorem wf_plain {u : Int} {t : List Int} (h : u < 55296 ∨ 57344 ≤ u) : wfU (u :: t) = wfU t := by
  cases t with
  | nil => simp [wfU, h]
  | cons v t => rw [wfU, if_pos h]
theorem wf_pair {u v : Int} {t : List Int} (h : ¬ (u < 55296 ∨ 57344 ≤ u)) (h2 : u < 56320 ∧ 56320 ≤ v ∧ v < 57344) : wfU (u :: v :: t) = wfU t := by rw [wfU, if_neg h, if_pos h2]
theorem wf_last {u : Int} (h : ¬ (u < 55296 ∨ 57344 ≤ u)) : wfU [u] = false := by rw [wfU]; exact decide_eq_false h
theorem wf_lone {u v : Int} {t : List Int} (h : ¬ (u < 55296 ∨ 57344 ≤ u)) (h2 : ¬ (u < 56320 ∧ 56320 ≤ v ∧ v < 57344)) : wfU (u :: v :: t) = false := by rw [wfU, if_neg h, if_neg h2]
theorem wf_low {u : Int} {t : List Int} (h : ¬ (u < 55296 ∨ 57344 ≤ u)) (h2 : 56320 ≤ u) : wfU (u :: t) = false := by
  cases t with
  | nil => exact wf_last h
  | cons v t => exact wf_lone h (by omega)

/-- One code point, as units. -/
def e1 (r : Int) : List Int := if 65536 ≤ r then [55296 + (r - 65536) / 1024, 56320 + (r - 65536) % 1024] else [r]

/-- Written back, the units are those that were read. -/
theorem e16_dec (l : List Int) : (∀ u ∈ l, 0 ≤ u ∧ u ≤ 65535) → wfU l = true → (dec l).flatMap e1 = l := by
  refine dec_ind (P := fun l => (∀ u ∈ l, 0 ≤ u ∧ u ≤ 65535) → wfU l = true → (dec l).flatMap e1 = l) ?_ ?_ ?_ l
  · intro _ _; simp [dec]
  · intro u hu hw
    have b1 := hu u (by simp)
    by_cases p1 : u < 55296 ∨ 57344 ≤ u
    · rw [dec_plain p1, dec]; simp [e1]; omega
    · rw [wf_last p1] at hw; cases hw
  · intro u v t ht hvt hu hw
    have b1 := hu u (by simp)
    have b2 := hu v (by simp)
    have c1 : ∀ x ∈ t, 0 ≤ x ∧ x ≤ 65535 := fun x hx => hu x (by simp [hx])
    have c2 : ∀ x ∈ v :: t, 0 ≤ x ∧ x ≤ 65535 := fun x hx => hu x (List.mem_cons_of_mem _ hx)
    by_cases p1 : u < 55296 ∨ 57344 ≤ u
    · rw [wf_plain p1] at hw
      rw [dec_plain p1, List.flatMap_cons, hvt c2 hw, e1, if_neg (by omega)]; rfl
    · by_cases p2 : u < 56320 ∧ 56320 ≤ v ∧ v < 57344
      · rw [wf_pair p1 p2] at hw
        rw [dec_pair p1 p2, List.flatMap_cons, ht c1 hw, e1, if_pos (by omega)]
        have q1 : 55296 + ((u - 55296) * 1024 + (v - 56320) + 65536 - 65536) / 1024 = u := by omega
        have q2 : 56320 + ((u - 55296) * 1024 + (v - 56320) + 65536 - 65536) % 1024 = v := by omega
        rw [q1, q2]; rfl
      · rw [wf_lone p1 p2] at hw; cases hw

/-- One unit, as bytes of either order. -/
def ut (lt : Bool) (u : Int) : List Int := bif lt then [u % 256, u / 256] else [u / 256, u % 256]

/-- One code point, as bytes of UTF-8. -/
def enc1 (r : Int) : List Int :=
  if r < 128 then [r]
  else if r < 2048 then [192 + r / 64, 128 + r % 64]
  else if r < 65536 then [224 + r / 4096, 128 + r / 64 % 64, 128 + r % 64]
  else [240 + r / 262144, 128 + r / 4096 % 64, 128 + r / 64 % 64, 128 + r % 64]

/-- The numbers of a string's bytes. -/
def nums (s : ByteArray) : List Int := s.data.toList.map fun b => (b.toNat : Int)

theorem nums_len (s : ByteArray) : (nums s).length = s.size := by simp [nums]
theorem nums_append (a b : ByteArray) : nums (a ++ b) = nums a ++ nums b := by
  simp [nums, ByteArray.data_append]

theorem enc1_is (r : Int) (h : okR r) : nums (Utf8.encode r) = enc1 r := by
  have hv : Utf8.valid r = true := by
    unfold okR at h
    simp [Utf8.valid]; omega
  obtain ⟨n, rfl⟩ := Int.eq_ofNat_of_zero_le (show 0 ≤ r by unfold okR at h; omega)
  have hn : n ≤ 1114111 := by unfold okR at h; omega
  unfold Utf8.encode enc1 nums
  simp only [hv, if_true, Int.toNat_natCast]
  by_cases h1 : n < 128
  · rw [if_pos h1, if_pos (show ((n : Int) < 128) by omega)]
    simp; omega
  · rw [if_neg h1, if_neg (show ¬ ((n : Int) < 128) by omega)]
    by_cases h2 : n < 2048
    · rw [if_pos h2, if_pos (show ((n : Int) < 2048) by omega)]
      simp; omega
    · rw [if_neg h2, if_neg (show ¬ ((n : Int) < 2048) by omega)]
      by_cases h3 : n < 65536
      · rw [if_pos h3, if_pos (show ((n : Int) < 65536) by omega)]
        simp; omega
      · rw [if_neg h3, if_neg (show ¬ ((n : Int) < 65536) by omega)]
        simp; omega

theorem foldl_nums (rs : List Int) : ∀ s : ByteArray, (∀ r ∈ rs, okR r) → nums (rs.foldl (fun r n => r ++ Utf8.encode n) s) = nums s ++ rs.flatMap enc1 := by
  induction rs with
  | nil => intro s _; simp
  | cons r t ih =>
    intro s h
    rw [List.foldl_cons, ih _ (fun x hx => h x (List.mem_cons_of_mem _ hx)), nums_append, enc1_is r (h r (by simp)), List.flatMap_cons, List.append_assoc]

/-- 'string(rs)': the bytes. -/
theorem runes_nums (rs : List Int) (h : ∀ r ∈ rs, okR r) : nums (runesBytes rs) = rs.flatMap enc1 := by
  unfold runesBytes
  rw [foldl_nums rs _ h]
  simp [nums]

/-- Of every code point: its bytes are bytes. -/
theorem enc1_bd (r : Int) (h : okR r) : ∀ x ∈ enc1 r, 0 ≤ x ∧ x ≤ 255 := by
  unfold okR at h
  intro x hx
  unfold enc1 at hx
  split at hx
  · simp at hx; omega
  · split at hx
    · simp at hx; omega
    · split at hx
      · simp at hx; omega
      · simp at hx; omega

theorem enc1_pos (r : Int) : 0 < (enc1 r).length ∧ (enc1 r).length ≤ 4 := by
  unfold enc1; repeat' split
  all_goals simp

/-- The byte j of the code point that stands behind 'a'. -/
theorem enc_at (a : List Int) (r : Int) (t : List Int) (j : Nat) (hj : j < (enc1 r).length) :
    ((a ++ r :: t).flatMap enc1).getD ((a.flatMap enc1).length + j) 0 = (enc1 r).getD j 0 := by
  simp only [List.flatMap_append, List.flatMap_cons, List.getD_eq_getElem?_getD]
  rw [List.getElem?_append_right (by omega), show (a.flatMap enc1).length + j - (a.flatMap enc1).length = j by omega, List.getElem?_append_left hj]

theorem enc_len_le (rs : List Int) : (rs.flatMap enc1).length ≤ 4 * rs.length := by
  induction rs with
  | nil => simp
  | cons r t ih =>
    have := (enc1_pos r).2
    simp only [List.flatMap_cons, List.length_append, List.length_cons]; omega

theorem enc_bd (rs : List Int) (h : ∀ r ∈ rs, okR r) : ∀ i, 0 ≤ (rs.flatMap enc1).getD i 0 ∧ (rs.flatMap enc1).getD i 0 ≤ 255 := by
  intro i
  rw [List.getD_eq_getElem?_getD]
  rcases Nat.lt_or_ge i (rs.flatMap enc1).length with hi | hi
  · rw [List.getElem?_eq_getElem hi, Option.getD_some]
    have hm := List.getElem_mem hi
    obtain ⟨r, hr, hx⟩ := List.mem_flatMap.1 hm
    exact enc1_bd r (h r hr) _ hx
  · rw [List.getElem?_eq_none hi]; simp
end Go.Proofs.Qxb6603573a.U
