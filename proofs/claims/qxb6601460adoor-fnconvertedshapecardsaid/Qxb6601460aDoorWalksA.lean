/-
  THE WALKS of seat b6601460aD: cmpB1Over (7), cmpB1Bytes (8), cmpB1CastTarget (10), integer (16).
-/
import Derived.Test.Qxb6601460aDoorShelf
import Derived.WalkKit
import Derived.WalkSmall
import Derived.WalkSpells
import Derived.Laws.IdiomStrings
namespace Go.Proofs.Qxb6601460aDoor
open Go Go.RowKit

/-- A column. -/
structure Col where
  nm : ByteArray
  dt : ByteArray
  ty : ByteArray
  gen : Bool
  req : Bool
  ai : Bool
  uns : Bool
  cs : ByteArray
  co : ByteArray
  len : Int
/-- A column's cells. -/
abbrev Col.cells (c : Col) : Array Value := #[.string c.nm, .string c.dt, .string c.ty, .bool c.gen, .bool c.req, .bool c.ai, .bool c.uns, .string c.cs, .string c.co, .int .i64 c.len]
def Col.bytes (c : Col) : Nat := c.nm.size + c.dt.size + c.ty.size + c.cs.size + c.co.size

set_option maxRecDepth 10000 in
set_option maxHeartbeats 800000 in
theorem bytes8 (c : Col) (w : World) (h : c.bytes ≤ 1048576) :
    Calls Tryd.prog 8 #[.agg c.cells] w fun e w' => e = .returned (.int .i64 (c.bytes : Nat)) ∧ w' = w.alloc (.cells c.cells 23) := by
  obtain ⟨a, b, t, g, r, i, u, s, o, n⟩ := c
  simp only [Col.bytes] at h
  simp only [Col.cells, Col.bytes]
  go_enter Tryd.func8, Tryd.ntmps8
  go_wp2
  go_ret
  exact ⟨by simp, rfl⟩

set_option maxRecDepth 10000 in
set_option maxHeartbeats 800000 in
theorem over7 (c : Col) (w : World) (h : c.bytes ≤ 1048576) :
    Calls Tryd.prog 7 #[.agg c.cells] w fun e w' => e = .returned (.bool false) ∧ w' = w.alloc (.cells c.cells 23) := by
  obtain ⟨a, b, t, g, r, i, u, s, o, n⟩ := c
  simp only [Col.bytes] at h
  simp only [Col.cells]
  go_enter Tryd.func7, Tryd.ntmps7
  go_wp2
  go_ret
  exact ⟨by simp; omega, rfl⟩

theorem neL {b : ByteArray} {k : List UInt8} (h : ¬ b = ⟨k.toArray⟩) : (b.toList == k) = false := by
  rw [beq_eq_false_iff_ne]
  intro e
  refine h ?_
  rw [← e, Lib.toList_data]
theorem eqL (k : List UInt8) : ((⟨k.toArray⟩ : ByteArray).toList == k) = true := by simp [Lib.toList_data]
def intNames : List ByteArray := [⟨#[116, 105, 110, 121, 105, 110, 116]⟩, ⟨#[115, 109, 97, 108, 108, 105, 110, 116]⟩, ⟨#[109, 101, 100, 105, 117, 109, 105, 110, 116]⟩, ⟨#[105, 110, 116]⟩, ⟨#[98, 105, 103, 105, 110, 116]⟩]
def castNames : List ByteArray := intNames ++ [⟨#[100, 101, 99, 105, 109, 97, 108]⟩, ⟨#[102, 108, 111, 97, 116]⟩, ⟨#[100, 111, 117, 98, 108, 101]⟩, ⟨#[100, 97, 116, 101]⟩, ⟨#[100, 97, 116, 101, 116, 105, 109, 101]⟩, ⟨#[116, 105, 109, 101, 115, 116, 97, 109, 112]⟩, ⟨#[116, 105, 109, 101]⟩, ⟨#[98, 105, 110, 97, 114, 121]⟩]

set_option maxRecDepth 10000 in
set_option maxHeartbeats 800000 in
theorem int16_in (c : Col) (w : World) (h : c.dt ∈ intNames) :
    Calls Tryd.prog 16 #[.agg c.cells] w fun e w' => e = .returned (.bool true) ∧ w' = w.alloc (.cells c.cells 27) := by
  obtain ⟨a, b, t, g, r, i, u, s, o, n⟩ := c
  simp only [Col.cells]
  simp only [intNames, List.mem_cons, List.mem_nil_iff, or_false] at h
  rcases h with rfl | rfl | rfl | rfl | rfl
  all_goals
    go_enter Tryd.func16, Tryd.ntmps16
    go_wp2
    go_ret
    exact ⟨rfl, rfl⟩
set_option maxRecDepth 10000 in
set_option maxHeartbeats 800000 in
theorem int16_out (c : Col) (w : World) (h : c.dt ∉ intNames) :
    Calls Tryd.prog 16 #[.agg c.cells] w fun e w' => e = .returned (.bool false) ∧ w' = w.alloc (.cells c.cells 27) := by
  obtain ⟨a, b, t, g, r, i, u, s, o, n⟩ := c
  simp only [Col.cells]
  simp only [intNames, List.mem_cons, List.mem_nil_iff, or_false, not_or] at h
  obtain ⟨h1, h2, h3, h4, h5⟩ := h
  replace h1 := neL h1
  replace h2 := neL h2
  replace h3 := neL h3
  replace h4 := neL h4
  replace h5 := neL h5
  go_enter Tryd.func16, Tryd.ntmps16
  go_wp2
  go_ret
  exact ⟨rfl, rfl⟩

set_option maxRecDepth 10000 in
set_option maxHeartbeats 800000 in
theorem cast10_in (b : ByteArray) (w : World) (h : b ∈ castNames) :
    Calls Tryd.prog 10 #[.string b] w fun e w' => e = .returned (.bool true) ∧ w' = w := by
  simp only [castNames, intNames, List.cons_append, List.nil_append, List.mem_cons, List.mem_nil_iff, or_false] at h
  rcases h with rfl | rfl | rfl | rfl | rfl | rfl | rfl | rfl | rfl | rfl | rfl | rfl | rfl
  all_goals
    go_enter Tryd.func10, Tryd.ntmps10
    go_wp2
    go_ret
    exact ⟨rfl, rfl⟩
set_option maxRecDepth 10000 in
set_option maxHeartbeats 800000 in
theorem cast10_out (b : ByteArray) (w : World) (h : b ∉ castNames) :
    Calls Tryd.prog 10 #[.string b] w fun e w' => e = .returned (.bool false) ∧ w' = w := by
  simp only [castNames, intNames, List.cons_append, List.nil_append, List.mem_cons, List.mem_nil_iff, or_false, not_or] at h
  obtain ⟨h1, h2, h3, h4, h5, h6, h7, h8, h9, h10, h11, h12, h13⟩ := h
  replace h1 := neL h1
  replace h2 := neL h2
  replace h3 := neL h3
  replace h4 := neL h4
  replace h5 := neL h5
  replace h6 := neL h6
  replace h7 := neL h7
  replace h8 := neL h8
  replace h9 := neL h9
  replace h10 := neL h10
  replace h11 := neL h11
  replace h12 := neL h12
  replace h13 := neL h13
  go_enter Tryd.func10, Tryd.ntmps10
  go_wp2
  go_ret
  exact ⟨rfl, rfl⟩

set_option maxRecDepth 10000 in
set_option maxHeartbeats 2000000 in
theorem zz6_in (v : ByteArray) (c d : Col) (w : World) (h : v.size + c.bytes + d.bytes ≤ 1048576) :
    Calls Tryd.prog 6 #[.string v, .agg c.cells, .agg d.cells] w fun e w' => e = .returned (.bool true) ∧ w' = (w.alloc (.cells c.cells 23)).alloc (.cells d.cells 23) := by
  obtain ⟨a, b, t, g, r, i, u, s, o, n⟩ := c
  obtain ⟨a', b', t', g', r', i', u', s', o', n'⟩ := d
  simp only [Col.bytes] at h
  simp only [Col.cells]
  go_enter Tryd.func6, Tryd.ntmps6
  go_wp2
  go_ret
  exact ⟨rfl, rfl⟩
end Go.Proofs.Qxb6601460aDoor
