import Derived.Test.Qxb6604389aBuild
namespace Go.Proofs.Qxb6604389a.N
open Go.RowKit

theorem size36 : (Try.prog.info? 36).map (·.size) = some 12 := by kernel_rfl
theorem eql_same (w : World) (a : Addr) : (binOp .eql 27 (.pointer (some a)) (.pointer (some a))).run Try.prog w = .ok (.bool true) w := by
  obtain ⟨j, hj, _⟩ := Option.map_eq_some_iff.1 size36
  exact run_eql_ptr_same w a Try.underlying27 hj

theorem stp {w1 w2 w3 : World} (h : Below w1.heap.size w1 w2) (k : Below w2.heap.size w2 w3) : Below w1.heap.size w1 w3 := h.trans (Below.mono k h.size)

/-- What 'zzB1NotifBuild' hands back: a content of its own that has none, or none. -/
def Built (ck : Int) (cn : ByteArray) (w1 w2 : World) (e : Ending) : Prop :=
  ∃ pc g m p, e = .returned (.tuple #[.pointer pc, .slice g m p]) ∧ Below w1.heap.size w1 w2 ∧ (pc = none ∨ ∃ d, pc = some ⟨d, 0, none⟩ ∧ IsTc w2 d ck cn none)

set_option maxHeartbeats 1000000 in
theorem top (k : Int) (name : ByteArray) (hc : Bool) (ck : Int) (cn : ByteArray) (a : Option Addr) (n c : Nat) (D : Value) (w : World)
    (h4 : Hid (Calls Try.prog 4 #[.int .u32 k, .string name, .bool hc, .int .u32 ck, .string cn, .slice a n c] w fun e w' => AnyB e ∧ w' = w))
    (h5 : Hid (Calls Try.prog 5 #[.string name, .string cn, .slice a n c] w fun e w' => BigB (name.size ≤ 65536 ∧ cn.size ≤ 65536 ∧ n ≤ 65536) e ∧ w' = w))
    (h6 : Hid (n ≤ 65536 → Calls Try.prog 6 #[.slice a n c] w fun e w1 => e = .returned D ∧ Below w.heap.size w w1 ∧
      Calls Try.prog 7 #[.bool hc, .int .u32 ck, .string cn, D] w1 fun e w2 => Built ck cn w1 w2 e)) :
    Calls Try.prog 3 #[.int .u32 k, .string name, .bool hc, .int .u32 ck, .string cn, .slice a n c] w fun e w' => e = .returned (.bool true) ∧ Below w.heap.size w w' := by
  have hes := eql_same
  go_enter Try.func3, Try.ntmps3
  go_wp2_with fail
  refine h4.out.mono ?_
  rintro e w1 ⟨⟨r, rfl⟩, hw⟩
  subst hw
  cases r
  · go_wp2_with fail
    go_ret
    exact ⟨rfl, Below.refl _ _⟩
  go_wp2_with fail
  refine h5.out.mono ?_
  rintro e w1 ⟨⟨r, rfl, hr⟩, hw⟩
  subst hw
  cases r
  · obtain ⟨s1, s2, s3⟩ := hr rfl
    clear hr
    go_wp2_with fail
    refine (h6.out s3).mono ?_
    rintro e w2 ⟨rfl, hb2, h7⟩
    have HB2 := show Hid (Below _ _ w2) from hb2
    clear hb2
    go_wp2_with fail
    refine h7.mono ?_
    rintro e w3 ⟨pc, g, m, p, rfl, hb3, hpc⟩
    have HB3 := show Hid (Below w2.heap.size w2 w3) from hb3
    have HPC := show Hid (pc = none ∨ ∃ d, pc = some ⟨d, 0, none⟩ ∧ IsTc w3 d ck cn none) from hpc
    clear hb3 hpc h7
    go_wp2_with fail
    refine (zz_any name k pc g m p _ (by omega)).mono ?_
    rintro e w4 ⟨rfl, htc, hb4⟩
    have HTC := show Hid (IsTc w4 w3.heap.size k name pc) from htc
    have HB4 := show Hid (Below w3.heap.size w3 w4) from hb4
    have c0 := htc.2.1
    have c2 := htc.2.2.1
    clear htc hb4
    go_wp2_with fail
    cases hk : (k == 21)
    · refine (Resolve_of _ (.pointer (some ⟨w3.heap.size, 0, none⟩)) _ (by exact resolve_other _ k _ hk c0)).mono ?_
      rintro e w5 ⟨rfl, hw⟩
      subst hw
      go_wp2_with fail
      go_ret
      exact ⟨rfl, stp HB2.out (stp HB3.out HB4.out)⟩
    · have C0 : Hid (w4.cell? ⟨w3.heap.size, 0, none⟩ = some (.int .u32 21)) := by
        have h := c0
        rw [show k = 21 from by simpa using hk] at h
        exact h
      have C4 : Hid (w4.cell? ⟨w3.heap.size, 4, none⟩ = some (.pointer pc)) := HTC.out.2.2.2.1
      rcases HPC.out with hp | ⟨d, hp, htd⟩
      · subst hp
        refine (Resolve_of _ (.pointer (some ⟨w3.heap.size, 0, none⟩)) _ (by exact resolve_bare _ _ C0.out C4.out)).mono ?_
        rintro e w5 ⟨rfl, hw⟩
        subst hw
        go_wp2_with fail
        go_ret
        exact ⟨rfl, stp HB2.out (stp HB3.out HB4.out)⟩
      · subst hp
        have htd4 := htd.below HB4.out
        have D0 := show Hid _ from htd4.2.1
        have D4 := show Hid _ from htd4.2.2.2.1
        clear htd htd4
        refine (Resolve_of _ (.pointer (some ⟨d, 0, none⟩)) _ (by exact resolve_alias _ d ck _ C0.out C4.out D0.out D4.out)).mono ?_
        rintro e w5 ⟨rfl, hw⟩
        subst hw
        go_wp2_with fail
        go_ret
        exact ⟨rfl, stp HB2.out (stp HB3.out HB4.out)⟩
  · go_wp2_with fail
    go_ret
    exact ⟨rfl, Below.refl _ _⟩
end Go.Proofs.Qxb6604389a.N
