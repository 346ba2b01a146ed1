/-
  THE WALKS of seat b6600703aD: bearerToken by the library's contracts; the law.
-/
import Derived.Test.Qxb6600703aDoorShelf
import Derived.Test.Qxb6600703aDoorPlain
import Derived.WalkKit
import Derived.WalkSmall
import Derived.Laws.IdiomStrings
namespace Go.Proofs.Qxb6600703aDoor
open Go Go.RowKit

/-- A string, told by the list of its bytes. -/
def Str (t : ByteArray) (l : List UInt8) : Prop := t.data.toList = l
theorem Str.size {t : ByteArray} {l : List UInt8} (h : Str t l) : t.size = l.length := by
  rw [Lib.size_eq]; exact congrArg List.length h
theorem lt_of_cell {w : World} {b o : Nat} {v : Value} (h : w.cell? ⟨b, o, none⟩ = some v) : b < w.heap.size := by
  rcases Nat.lt_or_ge b w.heap.size with hl | hl
  · exact hl
  · simp [World.cell?, Array.getElem?_eq_none hl] at h

theorem cut18 (s : ByteArray) (l a f : List UInt8) (b : Bool) (m : Int) (w : World) (hs : Str s l) (hlen : l.length < 4294967281) (h : Lib.cut l [32] = (a, f, b)) (hm : w.cell? ⟨5, 0, none⟩ = some (.int .i64 m)) :
    Calls Tryd.prog 18 #[.string s, .string ⟨#[32]⟩] w fun e w' => ∃ x y, e = .returned (.tuple #[.string x, .string y, .bool b]) ∧ Str x a ∧ Str y f ∧ Below w.heap.size w w' := by
  obtain rfl := hs
  refine (Tryd.strings_Cut s ⟨#[32]⟩ m w (by rw [Lib.size_eq]; exact hlen) hm).mono ?_
  have h' : Lib.cut s.data.toList (⟨#[32]⟩ : ByteArray).data.toList = (a, f, b) := h
  rw [h']
  rintro e w' ⟨rfl, n, rfl⟩
  exact ⟨_, _, rfl, rfl, rfl, below_drewN (Below.refl _ _) n⟩
theorem fold19 (s : ByteArray) (l : List UInt8) (w : World) (hs : Str s l) (hP : Pl.Pre l 6) :
    Calls Tryd.prog 19 #[.string s, .string ⟨#[66, 101, 97, 114, 101, 114]⟩] w fun e w' => e = .returned (.bool true) ∧ w' = w := by
  obtain rfl := hs
  have hc := Tryd.strings_EqualFold s ⟨#[66, 101, 97, 114, 101, 114]⟩ w (by rw [Lib.size_eq, hP.1]; decide) (fun j b hb => (hP.mem (List.mem_of_getElem? hb)).2) (fun j b hb => by
    have hm : b ∈ ([66, 101, 97, 114, 101, 114] : List UInt8) := List.mem_of_getElem? hb
    simp only [List.mem_cons, List.mem_nil_iff, or_false] at hm
    rcases hm with rfl | rfl | rfl | rfl | rfl | rfl <;> decide)
  have e : Lib.equalFold s.data.toList (⟨#[66, 101, 97, 114, 101, 114]⟩ : ByteArray).data.toList = true := hP.fold
  rw [e] at hc
  exact hc
theorem trim20 (s : ByteArray) (l m : List UInt8) (w : World) (hs : Str s l) (h : Lib.trimLeftB l 32 = m) :
    Calls Tryd.prog 20 #[.string s, .string ⟨#[32]⟩] w fun e w' => ∃ n, e = .returned (.string n) ∧ Str n m ∧ w' = w := by
  obtain rfl := hs
  subst h
  refine (Tryd.strings_TrimLeft_one s 32 (by decide) w).mono ?_
  rintro e w' ⟨rfl, rfl⟩
  exact ⟨_, rfl, rfl, rfl⟩

/-- What bearerToken gives for a scheme in either case, blanks, a token. -/
theorem bearer16 (s : ByteArray) (l t : List UInt8) (n : Nat) (m : Int) (w : World) (hs : Str s (l ++ (Pl.sp (n + 1) ++ t))) (hP : Pl.Pre l 6) (hlen : n + t.length < 4000000) (ht : ∀ c, t.head? = some c → c ≠ 32) (hm : w.cell? ⟨5, 0, none⟩ = some (.int .i64 m)) :
    Calls Tryd.prog 16 #[.string s] w fun e w' => ∃ x, e = .returned (.tuple #[.string x, .bool true]) ∧ Str x t ∧ Below w.heap.size w w' := by
  have HS : Hid (Str s (l ++ (Pl.sp (n + 1) ++ t))) := hs
  have HP : Hid (Pl.Pre l 6) := hP
  have HT : Hid (∀ c, t.head? = some c → c ≠ 32) := ht
  clear hs hP ht
  go_enter Tryd.func16, Tryd.ntmps16
  go_wp2_with fail
  refine (cut18 s _ l (Pl.sp n ++ t) true m _ HS.out (by rw [List.length_append, List.length_append, Pl.sp_length, HP.out.1]; omega) (Pl.cut_sp HP.out n t) hm).mono ?_
  rintro e w1 ⟨x, y, rfl, hx, hy, hb⟩
  have HX : Hid (Str x l) := hx
  have HY : Hid (Str y (Pl.sp n ++ t)) := hy
  have HB : Hid (Below w.heap.size w w1) := hb
  clear hx hy hb
  go_wp2_with fail
  refine (fold19 x l _ HX.out HP.out).mono ?_
  rintro e w2 ⟨rfl, hw2⟩
  obtain rfl : w1 = w2 := hw2.symm
  clear hw2
  go_wp2_with fail
  refine (trim20 y _ t _ HY.out (Pl.trim_sp n t HT.out)).mono ?_
  rintro e w2 ⟨z, rfl, hz, hw2⟩
  obtain rfl : w1 = w2 := hw2.symm
  clear hw2
  have HZ : Hid (Str z t) := hz
  clear hz
  go_wp2
  go_ret2
  exact ⟨z, rfl, HZ.out, HB.out⟩

theorem zz8 (s : ByteArray) (l t : List UInt8) (n : Nat) (m : Int) (w : World) (hs : Str s (l ++ (Pl.sp (n + 1) ++ t))) (hP : Pl.Pre l 6) (hlen : n + t.length < 4000000) (ht : ∀ c, t.head? = some c → c ≠ 32) (hm : w.cell? ⟨5, 0, none⟩ = some (.int .i64 m)) :
    Calls Tryd.prog 8 #[.string s] w fun e w' => ∃ x, e = .returned (.tuple #[.string x, .bool true]) ∧ Str x t ∧ Below w.heap.size w w' := by
  have H16 : Hid (Calls Tryd.prog 16 #[.string s] w fun e w' => ∃ x, e = .returned (.tuple #[.string x, .bool true]) ∧ Str x t ∧ Below w.heap.size w w') := bearer16 s l t n m w hs hP hlen ht hm
  clear hs hP ht
  go_enter Tryd.func8, Tryd.ntmps8
  go_wp2_with fail
  refine H16.out.mono ?_
  rintro e w1 ⟨x, rfl, hx, hb⟩
  have HX : Hid (Str x t) := hx
  clear hx
  go_wp2
  go_ret2
  exact ⟨x, rfl, HX.out, hb⟩

set_option maxRecDepth 10000 in
theorem bytes7 (mask n : Int) (tok : ByteArray) (w : World) (h1 : tok.size ≤ maxLen) :
    Calls Tryd.prog 7 #[.int .u8 mask, .int .i64 n, .string tok] w fun e w' => (∃ b : Bool, e = .returned (.bool b) ∧ (b = true ↔ tok.size ≤ 1048576)) ∧ w' = w := by
  unfold maxLen at h1
  by_cases c1 : tok.size ≤ 1048576
  all_goals
    go_enter Tryd.func7, Tryd.ntmps7
    go_wp2
    go_ret
    exact ⟨⟨_, rfl, by simp; omega⟩, rfl⟩
end Go.Proofs.Qxb6600703aDoor
