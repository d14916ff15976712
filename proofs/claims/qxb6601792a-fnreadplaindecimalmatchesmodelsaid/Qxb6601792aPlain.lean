/-
  PLAIN: what readPlainDecimal and plainDecimalModel compute, as functions on lists of numbers (bytes), and that they agree. No Go in sight.
-/
import Derived.KernelRfl
namespace Go.Proofs.Qxb6601792a.Pd

def M64 : Int := 18446744073709551616
theorem M64_val : M64 = 18446744073709551616 := rfl
/-- uint64's wrap. -/
def W (x : Int) : Int := x % M64

def dig (c : Nat) : Prop := 48 ≤ c ∧ c ≤ 57
theorem dig_def (c : Nat) : dig c = (48 ≤ c ∧ c ≤ 57) := rfl
def digB (c : Nat) : Bool := decide (48 ≤ c) && decide (c ≤ 57)

/-- The reader's loop: 'n' the length, the rest of the bytes, the index, the digits so far, the units so far, the point so far. -/
def rd (n : Nat) : List Nat → Nat → Nat → Int → Int → Option (Nat × Int × Int)
  | [], _, dg, un, pt => some (dg, un, pt)
  | c :: t, i, dg, un, pt =>
    if digB c = true then rd n t (i + 1) (dg + 1) (W (W (un * 10) + ((c : Int) - 48))) pt
    else if c = 46 ∧ pt < 0 ∧ 0 < i ∧ i + 1 < n then rd n t (i + 1) dg un (i : Int)
    else none

/-- The model's scan. -/
def sc : List Nat → Nat → Int → Option Int
  | [], _, dot => some dot
  | c :: t, i, dot =>
    if digB c = true then sc t (i + 1) dot
    else if c = 46 ∧ dot < 0 then sc t (i + 1) (i : Int)
    else none

/-- The model's value, over the bytes from the right. -/
def vl : List Nat → Int → Int → Int
  | [], v, _ => v
  | c :: t, v, pw => if c = 46 then vl t v pw else vl t (W (v + W (((c : Int) - 48) * pw))) (W (pw * 10))

/-- The exact number of the digits. -/
def hx : List Nat → Int → Int
  | [], a => a
  | c :: t, a => if digB c = true then hx t (a * 10 + ((c : Int) - 48)) else hx t a

def cnt : List Nat → Nat
  | [] => 0
  | c :: t => (if digB c = true then 1 else 0) + cnt t

/-- What either function hands back: negative, units, places, fits, ok. -/
structure Ans where
  neg : Bool
  un : Int
  pl : Int
  fits : Bool
  ok : Bool

def zero : Ans := ⟨false, 0, 0, false, false⟩

def rdAns (neg : Bool) (l : List Nat) : Ans :=
  match rd l.length l 0 0 0 (-1) with
  | none => zero
  | some (dg, un, pt) => if dg = 0 then zero else ⟨neg, un, if 0 ≤ pt then (l.length : Int) - pt - 1 else 0, decide ((dg : Int) ≤ 19), true⟩

def nInt (l : List Nat) (dot : Int) : Int := if 0 ≤ dot then dot else l.length
def nFrac (l : List Nat) (dot : Int) : Int := if 0 ≤ dot then (l.length : Int) - dot - 1 else 0

def mdAns (neg : Bool) (l : List Nat) : Ans :=
  match sc l 0 (-1) with
  | none => zero
  | some dot =>
    if nInt l dot = 0 then zero
    else if 0 ≤ dot ∧ nFrac l dot = 0 then zero
    else ⟨neg, vl l.reverse 0 1, nFrac l dot, decide (nInt l dot + nFrac l dot ≤ 19), true⟩

theorem rd_dig {n : Nat} {c : Nat} {t : List Nat} {i dg : Nat} {un pt : Int} (h : digB c = true) : rd n (c :: t) i dg un pt = rd n t (i + 1) (dg + 1) (W (W (un * 10) + ((c : Int) - 48))) pt := by
  rw [rd, if_pos h]
theorem rd_pt {n : Nat} {c : Nat} {t : List Nat} {i dg : Nat} {un pt : Int} (h : digB c = false) (h2 : c = 46 ∧ pt < 0 ∧ 0 < i ∧ i + 1 < n) : rd n (c :: t) i dg un pt = rd n t (i + 1) dg un (i : Int) := by
  rw [rd, if_neg (by rw [h]; decide), if_pos h2]
theorem rd_no {n : Nat} {c : Nat} {t : List Nat} {i dg : Nat} {un pt : Int} (h : digB c = false) (h2 : ¬ (c = 46 ∧ pt < 0 ∧ 0 < i ∧ i + 1 < n)) : rd n (c :: t) i dg un pt = none := by
  rw [rd, if_neg (by rw [h]; decide), if_neg h2]
theorem sc_dig {c : Nat} {t : List Nat} {i : Nat} {dot : Int} (h : digB c = true) : sc (c :: t) i dot = sc t (i + 1) dot := by
  rw [sc, if_pos h]
theorem sc_pt {c : Nat} {t : List Nat} {i : Nat} {dot : Int} (h : digB c = false) (h2 : c = 46 ∧ dot < 0) : sc (c :: t) i dot = sc t (i + 1) (i : Int) := by
  rw [sc, if_neg (by rw [h]; decide), if_pos h2]
theorem sc_no {c : Nat} {t : List Nat} {i : Nat} {dot : Int} (h : digB c = false) (h2 : ¬ (c = 46 ∧ dot < 0)) : sc (c :: t) i dot = none := by
  rw [sc, if_neg (by rw [h]; decide), if_neg h2]
theorem vl_pt {t : List Nat} {v pw : Int} : vl (46 :: t) v pw = vl t v pw := by rw [vl, if_pos rfl]
theorem vl_dig {c : Nat} {t : List Nat} {v pw : Int} (h : c ≠ 46) : vl (c :: t) v pw = vl t (W (v + W (((c : Int) - 48) * pw))) (W (pw * 10)) := by rw [vl, if_neg h]

theorem W_add_mul (a b h : Int) : W (W a + W b * h) = W (a + b * h) := by
  unfold W
  rw [Int.add_emod, Int.mul_emod, Int.emod_emod, Int.emod_emod, ← Int.mul_emod, ← Int.add_emod]

theorem W_W (a : Int) : W (W a) = W a := by unfold W; rw [Int.emod_emod]

theorem W_add (a b : Int) : W (W a + b) = W (a + b) := by
  unfold W; rw [Int.add_emod, Int.emod_emod, ← Int.add_emod]

theorem W_add' (a b : Int) : W (a + W b) = W (a + b) := by
  unfold W; rw [Int.add_emod, Int.emod_emod, ← Int.add_emod]

theorem W_mul (a b : Int) : W (W a * b) = W (a * b) := by
  unfold W; rw [Int.mul_emod, Int.emod_emod, ← Int.mul_emod]

/-- The reader's units, all the bytes through. -/
def hr : List Nat → Int → Int
  | [], a => a
  | c :: t, a => if digB c = true then hr t (W (W (a * 10) + ((c : Int) - 48))) else hr t a

theorem hr_hx (l : List Nat) : ∀ a b : Int, a = W b → hr l a = W (hx l b) := by
  induction l with
  | nil => intro a b h; simpa [hr, hx] using h
  | cons c t ih =>
    intro a b h
    by_cases hd : digB c = true
    · simp only [hr, hx, hd, if_true]
      refine ih _ _ ?_
      rw [h, W_mul, W_add]
    · simp only [hr, hx, hd]
      exact ih _ _ h

theorem hx_snoc (l : List Nat) (c : Nat) : ∀ a : Int, hx (l ++ [c]) a = if digB c = true then hx l a * 10 + ((c : Int) - 48) else hx l a := by
  induction l with
  | nil => intro a; simp [hx]
  | cons d t ih =>
    intro a
    simp only [List.cons_append, hx]
    by_cases hd : digB d = true
    · simp only [hd, if_true]; exact ih _
    · simp only [hd]; exact ih _

theorem not_dig_46 : digB 46 = false := by decide
theorem hx_rev_nil : hx [] 0 = 0 := rfl

/-- The model's value is the exact number, wrapped. -/
theorem vl_hx (r : List Nat) : (∀ c ∈ r, digB c = true ∨ c = 46) → ∀ v pw : Int, W v = v → vl r v pw = W (v + pw * hx r.reverse 0) := by
  induction r with
  | nil => intro _ v pw hv; simp [vl, hx, hv]
  | cons c t ih =>
    intro hall v pw hv
    have ht : ∀ c ∈ t, digB c = true ∨ c = 46 := fun x hx => hall x (List.mem_cons_of_mem _ hx)
    rw [List.reverse_cons, hx_snoc]
    by_cases h46 : c = 46
    · subst h46
      simp only [vl, not_dig_46, if_true]
      exact ih ht v pw hv
    · have hd : digB c = true := by
        rcases hall c (List.mem_cons_self ..) with h | h
        · exact h
        · exact absurd h h46
      simp only [vl, h46, hd, if_true, if_false]
      rw [ih ht _ _ (W_W _), W_add_mul]
      rw [show v + W (((c : Int) - 48) * pw) + pw * 10 * hx t.reverse 0 = (v + pw * 10 * hx t.reverse 0) + W (((c : Int) - 48) * pw) by omega, W_add']
      congr 1
      rw [Int.mul_add, Int.mul_comm ((c : Int) - 48) pw, Int.mul_comm (hx t.reverse 0) 10, ← Int.mul_assoc]
      omega

/-- What a scan that went through says of the bytes. -/
theorem sc_all (t : List Nat) : ∀ i dot d, sc t i dot = some d → ∀ c ∈ t, digB c = true ∨ c = 46 := by
  induction t with
  | nil => intro _ _ _ _ c hc; cases hc
  | cons x t ih =>
    intro i dot d h c hc
    simp only [sc] at h
    by_cases hd : digB x = true
    · simp only [hd, if_true] at h
      rcases List.mem_cons.1 hc with rfl | hc
      · exact .inl hd
      · exact ih _ _ _ h c hc
    · simp only [hd] at h
      by_cases h46 : x = 46 ∧ dot < 0
      · rw [if_neg (by simp), if_pos h46] at h
        rcases List.mem_cons.1 hc with rfl | hc
        · exact .inr h46.1
        · exact ih _ _ _ h c hc
      · rw [if_neg (by simp), if_neg h46] at h
        cases h

/-- Once the point is met no other comes. -/
theorem sc_met (t : List Nat) : ∀ i dot d, 0 ≤ dot → sc t i dot = some d → d = dot ∧ cnt t = t.length := by
  induction t with
  | nil => intro i dot d _ h; simp [sc] at h; simp [h, cnt]
  | cons x t ih =>
    intro i dot d h0 h
    simp only [sc] at h
    by_cases hd : digB x = true
    · simp only [hd, if_true] at h
      obtain ⟨e1, e2⟩ := ih _ _ _ h0 h
      exact ⟨e1, by simp only [cnt, hd, if_true, List.length_cons, e2]; omega⟩
    · simp only [hd] at h
      rw [if_neg (by simp), if_neg (by omega)] at h
      cases h

/-- What a scan from 'no point' says. -/
theorem sc_from (t : List Nat) : ∀ i d, sc t i (-1) = some d → (d = -1 ∧ cnt t = t.length) ∨ ((i : Int) ≤ d ∧ d < (i : Int) + t.length ∧ cnt t + 1 = t.length) := by
  induction t with
  | nil => intro i d h; simp [sc] at h; subst h; exact .inl ⟨rfl, rfl⟩
  | cons x t ih =>
    intro i d h
    simp only [sc] at h
    by_cases hd : digB x = true
    · simp only [hd, if_true] at h
      rcases ih _ _ h with ⟨e1, e2⟩ | ⟨e1, e2, e3⟩
      · exact .inl ⟨e1, by simp only [cnt, hd, if_true, List.length_cons, e2]; omega⟩
      · exact .inr ⟨by omega, by simp only [List.length_cons]; omega, by simp only [cnt, hd, if_true, List.length_cons]; omega⟩
    · simp only [hd] at h
      by_cases h46 : x = 46 ∧ (-1 : Int) < 0
      · rw [if_neg (by simp), if_pos h46] at h
        obtain ⟨e1, e2⟩ := sc_met t _ _ _ (by omega) h
        refine .inr ⟨by omega, by simp only [List.length_cons]; omega, ?_⟩
        simp only [cnt, hd, List.length_cons, e2]
        simp
      · rw [if_neg (by simp), if_neg h46] at h
        cases h

/-- The reader against the scan, behind the point. -/
theorem rd_met (n : Nat) (t : List Nat) : ∀ i dg un pt, 0 ≤ pt → rd n t i dg un pt = (sc t i pt).map fun d => (dg + cnt t, hr t un, d) := by
  induction t with
  | nil => intro i dg un pt _; simp [rd, sc, cnt, hr]
  | cons x t ih =>
    intro i dg un pt h0
    by_cases hd : digB x = true
    · simp only [rd, sc, cnt, hr, hd, if_true]
      rw [ih _ _ _ _ h0, show dg + 1 + cnt t = dg + (1 + cnt t) by omega]
    · have n1 : ¬ (x = 46 ∧ pt < 0 ∧ 0 < i ∧ i + 1 < n) := by omega
      have n2 : ¬ (x = 46 ∧ pt < 0) := by omega
      simp only [rd, sc, hd]
      rw [if_neg (by simp), if_neg n1, if_neg (by simp), if_neg n2]
      rfl

/-- The reader against the scan, ahead of the point. -/
theorem rd_from (n : Nat) (t : List Nat) : ∀ i dg un, i + t.length = n →
    rd n t i dg un (-1) = (sc t i (-1)).bind fun d => if d = -1 ∨ (0 < d ∧ d + 1 < n) then some (dg + cnt t, hr t un, d) else none := by
  induction t with
  | nil => intro i dg un _; simp [rd, sc, cnt, hr]
  | cons x t ih =>
    intro i dg un hn
    simp only [List.length_cons] at hn
    by_cases hd : digB x = true
    · rw [rd_dig hd, sc_dig hd, ih _ _ _ (by omega)]
      simp only [cnt, hr, hd, if_true]
      rw [show dg + 1 + cnt t = dg + (1 + cnt t) by omega]
    · have hf : digB x = false := by simpa using hd
      have ec : cnt (x :: t) = cnt t := by simp [cnt, hf]
      have eh : hr (x :: t) un = hr t un := by simp [hr, hf]
      rw [ec, eh]
      clear ec eh
      by_cases h46 : x = 46
      · rw [sc_pt hf ⟨h46, by omega⟩]
        by_cases hin : 0 < i ∧ i + 1 < n
        · rw [rd_pt hf ⟨h46, by omega, hin.1, hin.2⟩, rd_met _ _ _ _ _ _ (by omega)]
          cases hs : sc t (i + 1) (i : Int) with
          | none => rfl
          | some d =>
            obtain ⟨rfl, -⟩ := sc_met t _ _ _ (by omega) hs
            have c1 : ((i : Int) = -1 ∨ 0 < (i : Int) ∧ (i : Int) + 1 < n) := by omega
            simp only [Option.map_some, Option.bind_some]
            rw [if_pos c1]
        · rw [rd_no hf (fun h => hin h.2.2)]
          cases hs : sc t (i + 1) (i : Int) with
          | none => rfl
          | some d =>
            obtain ⟨rfl, -⟩ := sc_met t _ _ _ (by omega) hs
            have c1 : ¬ ((i : Int) = -1 ∨ 0 < (i : Int) ∧ (i : Int) + 1 < n) := by omega
            simp only [Option.bind_some]
            rw [if_neg c1]
      · rw [rd_no hf (fun h => h46 h.1), sc_no hf (fun h => h46 h.1)]
        rfl

/-- ████ THE PLAIN LAW ████ -/
theorem agree (neg : Bool) (l : List Nat) : rdAns neg l = mdAns neg l := by
  unfold rdAns mdAns
  rw [rd_from l.length l 0 0 0 (by simp)]
  cases hs : sc l 0 (-1) with
  | none => rfl
  | some d =>
    have hall := sc_all l _ _ _ hs
    have hval : hr l 0 = vl l.reverse 0 1 := by
      rw [hr_hx l 0 0 (by simp [W]), vl_hx l.reverse (fun c hc => hall c (by simpa using hc)) 0 1 (by simp [W]), List.reverse_reverse]
      congr 1; omega
    simp only [Option.bind_some]
    rcases sc_from l _ _ hs with ⟨rfl, e2⟩ | ⟨e1, e2, e3⟩
    · rw [if_pos (.inl rfl)]
      have a1 : nInt l (-1) = l.length := by simp [nInt]
      have a2 : nFrac l (-1) = 0 := by simp [nFrac]
      simp only [a1, a2, e2, hval, Nat.zero_add]
      by_cases h0 : l.length = 0
      · rw [if_pos h0, if_pos (by omega)]
      · rw [if_neg h0, if_neg (by omega), if_neg (by omega), if_neg (by omega)]
        simp
    · have a1 : nInt l d = d := by unfold nInt; rw [if_pos (by omega)]
      have a2 : nFrac l d = (l.length : Int) - d - 1 := by unfold nFrac; rw [if_pos (by omega)]
      simp only [a1, a2]
      by_cases hin : 0 < d ∧ d + 1 < (l.length : Int)
      · rw [if_pos (.inr hin)]
        simp only [Nat.zero_add]
        have q1 : ¬ cnt l = 0 := by omega
        have q2 : ¬ d = 0 := by omega
        have q3 : ¬ (0 ≤ d ∧ (l.length : Int) - d - 1 = 0) := by omega
        have q4 : 0 ≤ d := by omega
        have q5 : decide ((cnt l : Int) ≤ 19) = decide (d + ((l.length : Int) - d - 1) ≤ 19) := by rw [decide_eq_decide]; omega
        rw [if_neg q1, if_neg q2, if_neg q3, if_pos q4, hval, q5]
      · rw [if_neg (by omega)]
        by_cases h0 : d = 0
        · rw [if_pos h0]
        · rw [if_neg h0, if_pos (by omega)]

end Go.Proofs.Qxb6601792a.Pd
