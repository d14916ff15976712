import Derived.Test.Qxb6603573aClone
namespace Go.Proofs.Qxb6603573a.U
open Go.RowKit

/-- The row of integers rs is v's, in blocks from base on. -/
def Own (w : World) (base : Nat) (e : TypeId) (K : IntKind) (v : Value) (rs : List Int) : Prop := w.ownsRow base e 1 v rs.length (rs.map (Value.int K))

theorem Own.block {w : World} {base : Nat} {e : TypeId} {K : IntKind} {v : Value} {rs : List Int} (h : Own w base e K v rs) : ∀ k, v.ownBlock = some k → base ≤ k := by
  intro k hk
  rcases h.2 with ⟨rfl, _⟩ | ⟨g, cap, cur, rfl, hg, _⟩
  · simp [Value.ownBlock] at hk
  · simp [Value.ownBlock] at hk; omega

/-- 'out = append(out, r)': one number more. -/
theorem wpList_push {P : Program} {ops : Array Oper} {rest : List Oper} {o : Oper} {a : Act} {Q : Exit → Act → World → Prop} (w : World) (hgd : o.guard = none) (s x : Operand) (t : TypeId)
    (ho : o.op = .call { callee := .builtin .append, args := #[s, x], argTypes := #[t, t] })
    (base : Nat) (e : TypeId) (K : IntKind) (bytes : Nat) (ht : P.underlying t = some (.slice e)) (hinfo : (P.info? e).map (fun i => (i.zero, i.size, i.bytes)) = some (some (.int K 0), 1, bytes)) (hby : bytes ≤ 8)
    (v : Value) (rs : List Int) (hs : a.eval s = v) (hown : Own w base e K v rs) (r : Int) (hx : a.eval x = .slice (some ⟨w.heap.size, 0, none⟩) 1 1)
    (hl : rs.length ≤ 4194304) (hbase : base ≤ w.heap.size)
    (h : ∀ v' w', Own w' base e K v' (rs ++ [r]) → Below base w w' → wpList P ops Q rest (a.put o.dst v') w') :
    wpList P ops Q (o :: rest) a (w.alloc (.cells #[.int K r] e)) := by
  obtain ⟨i, hi, hz0, hz1, hz2⟩ := info_parts hinfo
  refine wpList_append_own _ hgd s x t ho base e i (.int K 0) 1 bytes ht hi hz0 hz1 hz2 rfl (by decide) v rs.length (rs.map (Value.int K)) hs (World.ownsRow.alloc hown _) ⟨w.heap.size, 0, none⟩ 1 1 [.int K r] hx rfl (cell_one_new _ _ _) (by simp [Value.oneCell']) ?_ ?_ ?_ ?_
  · unfold maxLen; omega
  · have : (rs.length + 1) * bytes ≤ (rs.length + 1) * 8 := Nat.mul_le_mul_left _ hby
    omega
  · simp; omega
  · intro v' w' hown' hgrow _
    refine h v' w' ?_ ?_
    · unfold Own
      simpa using hown'
    · exact Below.grown ((Below.refl _ _).alloc hbase _) hgrow (by simp; omega) (Own.block hown)
end Go.Proofs.Qxb6603573a.U
