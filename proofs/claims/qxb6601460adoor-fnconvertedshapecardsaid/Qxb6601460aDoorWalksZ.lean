/-
  THE WALK of zzBytes_FnConvertedShape (6) where the lengths are over the bound.
-/
import Derived.Test.Qxb6601460aDoorWalksA
namespace Go.Proofs.Qxb6601460aDoor
open Go Go.RowKit

/-- Every string of a column is no longer than a string can be. -/
def Col.small (c : Col) : Prop := c.nm.size ≤ maxLen ∧ c.dt.size ≤ maxLen ∧ c.ty.size ≤ maxLen ∧ c.cs.size ≤ maxLen ∧ c.co.size ≤ maxLen

set_option maxRecDepth 10000 in
set_option maxHeartbeats 4000000 in
theorem zz6_out (v : ByteArray) (c d : Col) (w : World) (hv : v.size ≤ maxLen) (hc : c.small) (hd : d.small) (h : ¬ v.size + c.bytes + d.bytes ≤ 1048576) :
    Calls Tryd.prog 6 #[.string v, .agg c.cells, .agg d.cells] w fun e w' => e = .returned (.bool false) ∧ w' = (w.alloc (.cells c.cells 23)).alloc (.cells d.cells 23) := by
  obtain ⟨a, b, t, g, r, i, u, s, o, n⟩ := c
  obtain ⟨a', b', t', g', r', i', u', s', o', n'⟩ := d
  simp only [Col.bytes, Col.small, maxLen] at h hv hc hd
  obtain ⟨c1, c2, c3, c4, c5⟩ := hc
  obtain ⟨d1, d2, d3, d4, d5⟩ := hd
  simp only [Col.cells]
  go_enter Tryd.func6, Tryd.ntmps6
  go_wp2
  all_goals go_ret
  all_goals first | exact ⟨rfl, rfl⟩ | (exfalso; omega)
end Go.Proofs.Qxb6601460aDoor
