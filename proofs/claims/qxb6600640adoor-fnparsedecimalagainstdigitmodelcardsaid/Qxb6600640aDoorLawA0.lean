/-
  THE EARLY RETURNS OF FnParseDecimalAgainstDigitModel (function 3).
-/
import Derived.Test.Qxb6600640aDoorText
namespace Go.Proofs.Qxb6600640aDoor
open Go Go.RowKit

theorem mag10 (v : Int) (w : World) (hlo : -9223372036854775808 ≤ v) (hhi : v ≤ 9223372036854775807) :
    Calls Tryd.prog 10 #[.int .i64 v] w fun e w' => e = .returned (.int .u64 (v.natAbs : Int)) ∧ w' = w := by
  by_cases h : v < 0
  · exact mag10_neg v w h hlo
  · exact mag10_pos v w (by omega) hhi

set_option maxRecDepth 10000 in
theorem law3_big (b0 b2 b4 b5 b6 : Bool) (whole frac : ByteArray) (pad exp : Int) (w : World) (h1 : whole.size ≤ maxLen) (h2 : frac.size ≤ maxLen) (hbig : ¬ whole.size + frac.size ≤ 1048576) :
    Calls Tryd.prog 3 #[.bool b0, .string whole, .bool b2, .string frac, .bool b4, .bool b5, .bool b6, .int .u8 pad, .int .i64 exp] w fun e w' => e = .returned (.bool true) ∧ Below w.heap.size w w' := by
  go_enter Tryd.func3, Tryd.ntmps3
  go_wp2_with fail
  refine (bytes6 b0 b2 b4 b5 b6 whole frac pad exp _ h1 h2).mono ?_
  rintro e w1 ⟨⟨b, rfl, hb⟩, rfl⟩
  obtain rfl : b = false := by
    cases b with
    | false => rfl
    | true => exact absurd (hb.1 rfl) hbig
  clear hb
  go_wp2
  go_ret
  exact ⟨rfl, Below.refl _ _⟩

set_option maxRecDepth 10000 in
theorem law3_bad (b0 b2 b4 b5 b6 : Bool) (whole frac : ByteArray) (pad exp : Int) (w : World) (hsum : whole.size + frac.size ≤ 1048576) (hbad : Pl.allD whole.data.toList = false ∨ (Pl.allD whole.data.toList = true ∧ Pl.allD frac.data.toList = false)) :
    Calls Tryd.prog 3 #[.bool b0, .string whole, .bool b2, .string frac, .bool b4, .bool b5, .bool b6, .int .u8 pad, .int .i64 exp] w fun e w' => e = .returned (.bool true) ∧ Below w.heap.size w w' := by
  have h1 : whole.size ≤ 1048576 := by omega
  have h2 : frac.size ≤ 1048576 := by omega
  rcases hbad with hb1 | ⟨hb1, hb2⟩
  · go_enter Tryd.func3, Tryd.ntmps3
    go_wp2_with fail
    refine (bytes6 b0 b2 b4 b5 b6 whole frac pad exp _ (by unfold maxLen; omega) (by unfold maxLen; omega)).mono ?_
    rintro e w1 ⟨⟨b, rfl, hb⟩, rfl⟩
    obtain rfl : b = true := hb.2 hsum
    clear hb
    go_wp2_with fail
    refine (digits7 whole _ h1).mono ?_
    rintro e w1 ⟨rfl, rfl⟩
    go_wp2
    go_ret
    exact ⟨rfl, Below.refl _ _⟩
  · go_enter Tryd.func3, Tryd.ntmps3
    go_wp2_with fail
    refine (bytes6 b0 b2 b4 b5 b6 whole frac pad exp _ (by unfold maxLen; omega) (by unfold maxLen; omega)).mono ?_
    rintro e w1 ⟨⟨b, rfl, hb⟩, rfl⟩
    obtain rfl : b = true := hb.2 hsum
    clear hb
    go_wp2_with fail
    refine (digits7 whole _ h1).mono ?_
    rintro e w1 ⟨rfl, rfl⟩
    go_wp2_with fail
    refine (digits7 frac _ h2).mono ?_
    rintro e w1 ⟨rfl, rfl⟩
    go_wp2
    go_ret
    exact ⟨rfl, Below.refl _ _⟩

end Go.Proofs.Qxb6600640aDoor
