/-
  THE WALKS of converted (14), ZZconverted (9).
-/
import Derived.Test.Qxb6601460aDoorWalksZ
import Derived.Deep.DeepCutAuto
import Derived.Lib.SmallJoins
namespace Go.Proofs.Qxb6601460aDoor
open Go Go.RowKit

def Str (t : ByteArray) (l : List UInt8) : Prop := t.data.toList = l
theorem Str.size {t : ByteArray} {l : List UInt8} (h : Str t l) : t.size = l.length := by
  rw [Lib.size_eq]; exact congrArg List.length h
theorem Str.app {s t : ByteArray} {l m : List UInt8} (h : Str s l) (k : Str t m) : Str (s ++ t) (l ++ m) := by
  unfold Str at *; simp [h, k]
theorem lt_of_cell {w : World} {b o : Nat} {v : Value} (h : w.cell? ⟨b, o, none⟩ = some v) : b < w.heap.size := by
  rcases Nat.lt_or_ge b w.heap.size with hl | hl
  · exact hl
  · simp [World.cell?, Array.getElem?_eq_none hl] at h

def cutL (s : ByteArray) (k : UInt8) : ByteArray := ⟨(Lib.cut s.data.toList [k]).1.toArray⟩
def cutR (s : ByteArray) (k : UInt8) : ByteArray := ⟨(Lib.cut s.data.toList [k]).2.1.toArray⟩
theorem cutL_le (s : ByteArray) (k : UInt8) : (cutL s k).size ≤ s.size := by
  rw [Lib.size_eq, Lib.size_eq]
  unfold cutL Lib.cut
  split <;> simp [Nat.min_le_right]
theorem cutR_le (s : ByteArray) (k : UInt8) : (cutR s k).size ≤ s.size := by
  rw [Lib.size_eq, Lib.size_eq]
  unfold cutR Lib.cut
  split <;> simp

theorem cut15 (s : ByteArray) (k : UInt8) (m : Int) (w : World) (hlen : s.size < 4294967281) (hm : w.cell? ⟨0, 0, none⟩ = some (.int .i64 m)) :
    Calls Tryd.prog 15 #[.string s, .string ⟨#[k]⟩] w fun e w' => ∃ b : Bool, e = .returned (.tuple #[.string (cutL s k), .string (cutR s k), .bool b]) ∧ ∃ n, w' = w.drewN n := by
  refine (Tryd.strings_Cut s ⟨#[k]⟩ m w hlen hm).mono ?_
  rintro e w' ⟨rfl, n, rfl⟩
  exact ⟨_, rfl, n, rfl⟩

set_option maxRecDepth 10000 in
set_option maxHeartbeats 800000 in
theorem conv14_same (v : ByteArray) (a b : Col) (w : World) (h1 : a.ty = b.ty) (h2 : a.co = b.co) :
    Calls Tryd.prog 14 #[.string v, .agg a.cells, .agg b.cells] w fun e w' => e = .returned (.tuple #[.string v, .string a.cs]) ∧ Below w.heap.size w w' := by
  simp only [Col.cells]
  go_enter Tryd.func14, Tryd.ntmps14
  go_wp2
  go_region
  all_goals
    go_wp2
    go_ret2
    exact ⟨rfl, (Joins.below_alloc2 w _ _).drew⟩

/-- What converted makes of the target's arguments. -/
def rawArgs (b : Col) : ByteArray := cutL (cutR b.ty 40) 41
theorem rawArgs_le (b : Col) : (rawArgs b).size ≤ b.ty.size := Nat.le_trans (cutL_le _ _) (cutR_le _ _)
def args (b : Col) : ByteArray := if (rawArgs b).data.toList = [] then ⟨#[48]⟩ else rawArgs b
theorem args_le (b : Col) : (args b).size ≤ b.ty.size + 1 := by
  unfold args
  split
  · show 1 ≤ _
    omega
  · have := rawArgs_le b
    omega
theorem args_pos {b : Col} (h : (cutL (cutR b.ty 40) 41).toList.isEmpty = true) : Value.string ⟨#[48]⟩ = .string (args b) := by
  rw [Lib.toList_data] at h
  have h' : (rawArgs b).data.toList = [] := List.isEmpty_iff.1 h
  rw [args, if_pos h']
theorem args_neg {b : Col} (h : (cutL (cutR b.ty 40) 41).toList.isEmpty = false) : Value.string (cutL (cutR b.ty 40) 41) = .string (args b) := by
  rw [Lib.toList_data] at h
  have h' : ¬ (rawArgs b).data.toList = [] := fun e => by
    have e' : (cutL (cutR b.ty 40) 41).data.toList = [] := e
    rw [e'] at h
    cases h
  rw [args, if_neg h']
  rfl
theorem cell_keep {w W : World} {v : Value} (hm : w.cell? ⟨0, 0, none⟩ = some v) (hb : Below w.heap.size w W) : W.cell? ⟨0, 0, none⟩ = some v := by
  rw [hb.cell (lt_of_cell hm)]; exact hm

abbrev W7 (w : World) (a b : Col) : World := (w.alloc (.cells a.cells 27)).alloc (.cells b.cells 27)
theorem below7 (w : World) (o1 o2 : Obj) (n : Nat) : Below w.heap.size w (((w.alloc o1).alloc o2).drewN n) := below_drewN (Joins.below_alloc2 w _ _) n
theorem below71 (w : World) (o1 o2 : Obj) (n : Nat) (o : Obj) : Below w.heap.size w ((((w.alloc o1).alloc o2).drewN n).alloc o) := (below7 w o1 o2 n).alloc (below7 w o1 o2 n).size o
theorem below72 (w : World) (o1 o2 : Obj) (n : Nat) (o o' : Obj) : Below w.heap.size w (((((w.alloc o1).alloc o2).drewN n).alloc o).alloc o') := (below71 w o1 o2 n o).alloc (below71 w o1 o2 n o).size o'
theorem co_ne {a b : Col} (h : ¬ (a.ty = b.ty ∧ a.co = b.co)) (e : a.ty.toList = b.ty.toList) : (a.co.toList == b.co.toList) = false := by
  rw [beq_eq_false_iff_ne]
  intro e2
  rw [Lib.toList_data, Lib.toList_data] at e e2
  exact h ⟨ByteArray.ext (Array.toList_inj.1 e), ByteArray.ext (Array.toList_inj.1 e2)⟩

/-- The name to which converted casts. -/
def nameOf (b : Col) : List UInt8 :=
  if b.dt.data.toList = [100, 101, 99, 105, 109, 97, 108] then [68, 69, 67, 73, 77, 65, 76, 40] ++ (args b).data.toList ++ [41]
  else if b.dt.data.toList = [102, 108, 111, 97, 116] then [70, 76, 79, 65, 84]
  else if b.dt.data.toList = [100, 111, 117, 98, 108, 101] then [68, 79, 85, 66, 76, 69]
  else if b.dt.data.toList = [100, 97, 116, 101] then [68, 65, 84, 69]
  else if b.dt.data.toList = [100, 97, 116, 101, 116, 105, 109, 101] then [68, 65, 84, 69, 84, 73, 77, 69, 40] ++ (args b).data.toList ++ [41]
  else if b.dt.data.toList = [116, 105, 109, 101, 115, 116, 97, 109, 112] then [68, 65, 84, 69, 84, 73, 77, 69, 40] ++ (args b).data.toList ++ [41]
  else if b.dt.data.toList = [116, 105, 109, 101] then [84, 73, 77, 69, 40] ++ (args b).data.toList ++ [41]
  else if b.dt.data.toList = [98, 105, 110, 97, 114, 121] then [66, 73, 78, 65, 82, 89, 40] ++ (args b).data.toList ++ [41]
  else if b.uns = true then [85, 78, 83, 73, 71, 78, 69, 68] else [83, 73, 71, 78, 69, 68]

/-- What converted answers where the types differ. -/
def Out (v : ByteArray) (a b : Col) (S C : ByteArray) : Prop :=
  (b.dt ∈ castNames ∧ Str S ([67, 65, 83, 84, 40] ++ v.data.toList ++ [32, 65, 83, 32] ++ nameOf b ++ [41]) ∧ C = ⟨#[]⟩) ∨ (b.dt = ⟨#[99, 104, 97, 114]⟩ ∧ Str S ([82, 84, 82, 73, 77, 40] ++ v.data.toList ++ [41]) ∧ C = a.cs) ∨ (b.dt ∉ castNames ∧ b.dt ≠ ⟨#[99, 104, 97, 114]⟩ ∧ S = v ∧ C = a.cs)
theorem out_cast {v : ByteArray} {a b : Col} {S : ByteArray} {N : List UInt8} (hc : b.dt ∈ castNames) (hN : nameOf b = N) (hS : S.data.toList = [67, 65, 83, 84, 40] ++ v.data.toList ++ [32, 65, 83, 32] ++ N ++ [41]) : Hid (Out v a b S ⟨#[]⟩) :=
  Or.inl ⟨hc, by rw [hN]; exact hS, rfl⟩
theorem mem_int {d : ByteArray} (h : d ∈ intNames) : d ∈ castNames := List.mem_append_left _ h
theorem name_uns {b : Col} (h : b.dt ∈ intNames) (hu : b.uns = true) : nameOf b = [85, 78, 83, 73, 71, 78, 69, 68] := by
  simp only [intNames, List.mem_cons, List.mem_nil_iff, or_false] at h
  rcases h with h | h | h | h | h <;> simp [nameOf, h, hu]
theorem name_sig {b : Col} (h : b.dt ∈ intNames) (hu : b.uns = false) : nameOf b = [83, 73, 71, 78, 69, 68] := by
  simp only [intNames, List.mem_cons, List.mem_nil_iff, or_false] at h
  rcases h with h | h | h | h | h <;> simp [nameOf, h, hu]
theorem name_decimal {b : Col} (h : b.dt = ⟨#[100, 101, 99, 105, 109, 97, 108]⟩) : nameOf b = [68, 69, 67, 73, 77, 65, 76, 40] ++ (args b).data.toList ++ [41] := by simp [nameOf, h]
theorem name_float {b : Col} (h : b.dt = ⟨#[102, 108, 111, 97, 116]⟩) : nameOf b = [70, 76, 79, 65, 84] := by simp [nameOf, h]
theorem name_double {b : Col} (h : b.dt = ⟨#[100, 111, 117, 98, 108, 101]⟩) : nameOf b = [68, 79, 85, 66, 76, 69] := by simp [nameOf, h]
theorem name_date {b : Col} (h : b.dt = ⟨#[100, 97, 116, 101]⟩) : nameOf b = [68, 65, 84, 69] := by simp [nameOf, h]
theorem name_datetime {b : Col} (h : b.dt = ⟨#[100, 97, 116, 101, 116, 105, 109, 101]⟩) : nameOf b = [68, 65, 84, 69, 84, 73, 77, 69, 40] ++ (args b).data.toList ++ [41] := by simp [nameOf, h]
theorem name_timestamp {b : Col} (h : b.dt = ⟨#[116, 105, 109, 101, 115, 116, 97, 109, 112]⟩) : nameOf b = [68, 65, 84, 69, 84, 73, 77, 69, 40] ++ (args b).data.toList ++ [41] := by simp [nameOf, h]
theorem name_time {b : Col} (h : b.dt = ⟨#[116, 105, 109, 101]⟩) : nameOf b = [84, 73, 77, 69, 40] ++ (args b).data.toList ++ [41] := by simp [nameOf, h]
theorem name_binary {b : Col} (h : b.dt = ⟨#[98, 105, 110, 97, 114, 121]⟩) : nameOf b = [66, 73, 78, 65, 82, 89, 40] ++ (args b).data.toList ++ [41] := by simp [nameOf, h]
theorem up_float (w : World) : Calls Tryd.prog 17 #[.string ⟨#[102, 108, 111, 97, 116]⟩] w fun e w' => e = .returned (.string ⟨#[70, 76, 79, 65, 84]⟩) ∧ Below w.heap.size w w' :=
  Tryd.strings_ToUpper_ascii ⟨#[102, 108, 111, 97, 116]⟩ w (by decide) (fun j b hb => by
    have hm : b ∈ ([102, 108, 111, 97, 116] : List UInt8) := List.mem_of_getElem? hb
    simp only [List.mem_cons, List.mem_nil_iff, or_false] at hm
    rcases hm with rfl | rfl | rfl | rfl | rfl <;> decide)
theorem up_double (w : World) : Calls Tryd.prog 17 #[.string ⟨#[100, 111, 117, 98, 108, 101]⟩] w fun e w' => e = .returned (.string ⟨#[68, 79, 85, 66, 76, 69]⟩) ∧ Below w.heap.size w w' :=
  Tryd.strings_ToUpper_ascii ⟨#[100, 111, 117, 98, 108, 101]⟩ w (by decide) (fun j b hb => by
    have hm : b ∈ ([100, 111, 117, 98, 108, 101] : List UInt8) := List.mem_of_getElem? hb
    simp only [List.mem_cons, List.mem_nil_iff, or_false] at hm
    rcases hm with rfl | rfl | rfl | rfl | rfl | rfl <;> decide)
theorem up_date (w : World) : Calls Tryd.prog 17 #[.string ⟨#[100, 97, 116, 101]⟩] w fun e w' => e = .returned (.string ⟨#[68, 65, 84, 69]⟩) ∧ Below w.heap.size w w' :=
  Tryd.strings_ToUpper_ascii ⟨#[100, 97, 116, 101]⟩ w (by decide) (fun j b hb => by
    have hm : b ∈ ([100, 97, 116, 101] : List UInt8) := List.mem_of_getElem? hb
    simp only [List.mem_cons, List.mem_nil_iff, or_false] at hm
    rcases hm with rfl | rfl | rfl | rfl <;> decide)

set_option maxRecDepth 10000 in
set_option maxHeartbeats 2000000 in
theorem conv14_diff (v : ByteArray) (a b : Col) (w : World) (m : Int) (hs : v.size + b.ty.size ≤ 1048576) (hm : w.cell? ⟨0, 0, none⟩ = some (.int .i64 m)) (h : ¬ (a.ty = b.ty ∧ a.co = b.co)) :
    Calls Tryd.prog 14 #[.string v, .agg a.cells, .agg b.cells] w fun e w' => ∃ S C, e = .returned (.tuple #[.string S, .string C]) ∧ Hid (Out v a b S C) ∧ Below w.heap.size w w' := by
  have HM : Hid (w.cell? ⟨0, 0, none⟩ = some (.int .i64 m)) := hm
  have HN : Hid (¬ (a.ty = b.ty ∧ a.co = b.co)) := h
  clear hm h
  simp only [Col.cells]
  go_enter Tryd.func14, Tryd.ntmps14
  go_upto_region 1 with fail
  go_cut [22] (fun s wx => s = .bool false ∧ wx = W7 w a b)
  case first =>
    go_wp2
    all_goals
      go_meet
      case rel => exact ⟨congrArg Value.bool (by first | rfl | exact co_ne HN.out (by assumption)), rfl⟩
  case rest =>
    obtain ⟨rfl, rfl⟩ := hcut
    simp only [W7, Col.cells]
    go_wp2_with fail
    refine (cut15 b.ty 40 m _ (by omega) (cell_keep HM.out (Joins.below_alloc2 w _ _))).mono ?_
    rintro e w1 ⟨b1, rfl, n1, rfl⟩
    go_wp2_with fail
    have hR := cutR_le b.ty 40
    refine (cut15 (cutR b.ty 40) 41 m _ (by omega) (cell_keep HM.out (below_drewN (Joins.below_alloc2 w _ _) _))).mono ?_
    clear hR
    rintro e w1 ⟨b2, rfl, n2, rfl⟩
    go_upto_if 40 with fail
    go_cut [9] (fun s wx => s = .string (args b) ∧ wx = (W7 w a b).drewN (n1 + n2))
    case first =>
      go_wp2
      all_goals
        go_meet
        case rel => exact ⟨by first | exact args_pos (by assumption) | exact args_neg (by assumption), rfl⟩
    case rest =>
      obtain ⟨rfl, rfl⟩ := hcut
      simp only [W7, Col.cells]
      have hA := args_le b
      generalize n1 + n2 = n
      by_cases hI : b.dt ∈ intNames
      · have HI : Hid (b.dt ∈ intNames) := hI
        clear hI
        by_cases hu : b.uns = true
        · have HU : Hid (b.uns = true) := hu
          clear hu
          go_wp2_with fail
          refine (int16_in b _ HI.out).mono ?_
          rintro e w1 ⟨rfl, rfl⟩
          have hu := HU.out
          simp only [Col.cells]
          go_wp2
          go_ret2
          exact ⟨_, _, rfl, out_cast (mem_int HI.out) (name_uns HI.out hu) (by simp), below71 w _ _ _ _⟩
        · have HU : Hid (b.uns = false) := (by simpa using hu : b.uns = false)
          clear hu
          go_wp2_with fail
          refine (int16_in b _ HI.out).mono ?_
          rintro e w1 ⟨rfl, rfl⟩
          simp only [Col.cells]
          have hu := HU.out
          go_wp2_with fail
          refine (int16_in { b with uns := false } _ HI.out).mono ?_
          rintro e w1 ⟨rfl, rfl⟩
          simp only [Col.cells]
          go_wp2
          go_ret2
          exact ⟨_, _, rfl, out_cast (mem_int HI.out) (name_sig HI.out HU.out) (by simp), below72 w _ _ _ _ _⟩
      · have HI : Hid (b.dt ∉ intNames) := hI
        clear hI
        go_wp2_with fail
        refine (int16_out b _ HI.out).mono ?_
        rintro e w1 ⟨rfl, rfl⟩
        simp only [Col.cells]
        go_wp2_with fail
        refine (int16_out b _ HI.out).mono ?_
        rintro e w1 ⟨rfl, rfl⟩
        simp only [Col.cells]
        by_cases h_decimal : b.dt = ⟨#[100, 101, 99, 105, 109, 97, 108]⟩
        · go_wp2
          go_ret2
          exact ⟨_, _, rfl, out_cast (by rw [h_decimal]; simp [castNames]) (name_decimal h_decimal) (by simp), below72 w _ _ _ _ _⟩
        by_cases h_float : b.dt = ⟨#[102, 108, 111, 97, 116]⟩
        · go_wp2_with fail
          refine (up_float _).mono ?_
          rintro e w1 ⟨rfl, hb⟩
          have HB : Hid (Below w.heap.size w w1) := (below72 w _ _ _ _ _).trans (hb.mono (below72 w _ _ _ _ _).size)
          clear hb
          go_wp2
          go_ret2
          exact ⟨_, _, rfl, out_cast (by rw [h_float]; simp [castNames]) (name_float h_float) (by simp), HB.out⟩
        by_cases h_double : b.dt = ⟨#[100, 111, 117, 98, 108, 101]⟩
        · go_wp2_with fail
          refine (up_double _).mono ?_
          rintro e w1 ⟨rfl, hb⟩
          have HB : Hid (Below w.heap.size w w1) := (below72 w _ _ _ _ _).trans (hb.mono (below72 w _ _ _ _ _).size)
          clear hb
          go_wp2
          go_ret2
          exact ⟨_, _, rfl, out_cast (by rw [h_double]; simp [castNames]) (name_double h_double) (by simp), HB.out⟩
        by_cases h_date : b.dt = ⟨#[100, 97, 116, 101]⟩
        · go_wp2_with fail
          refine (up_date _).mono ?_
          rintro e w1 ⟨rfl, hb⟩
          have HB : Hid (Below w.heap.size w w1) := (below72 w _ _ _ _ _).trans (hb.mono (below72 w _ _ _ _ _).size)
          clear hb
          go_wp2
          go_ret2
          exact ⟨_, _, rfl, out_cast (by rw [h_date]; simp [castNames]) (name_date h_date) (by simp), HB.out⟩
        by_cases h_datetime : b.dt = ⟨#[100, 97, 116, 101, 116, 105, 109, 101]⟩
        · go_wp2
          go_ret2
          exact ⟨_, _, rfl, out_cast (by rw [h_datetime]; simp [castNames]) (name_datetime h_datetime) (by simp), below72 w _ _ _ _ _⟩
        by_cases h_timestamp : b.dt = ⟨#[116, 105, 109, 101, 115, 116, 97, 109, 112]⟩
        · go_wp2
          go_ret2
          exact ⟨_, _, rfl, out_cast (by rw [h_timestamp]; simp [castNames]) (name_timestamp h_timestamp) (by simp), below72 w _ _ _ _ _⟩
        by_cases h_time : b.dt = ⟨#[116, 105, 109, 101]⟩
        · go_wp2
          go_ret2
          exact ⟨_, _, rfl, out_cast (by rw [h_time]; simp [castNames]) (name_time h_time) (by simp), below72 w _ _ _ _ _⟩
        by_cases h_binary : b.dt = ⟨#[98, 105, 110, 97, 114, 121]⟩
        · go_wp2
          go_ret2
          exact ⟨_, _, rfl, out_cast (by rw [h_binary]; simp [castNames]) (name_binary h_binary) (by simp), below72 w _ _ _ _ _⟩
        by_cases h_char : b.dt = ⟨#[99, 104, 97, 114]⟩
        · go_wp2
          go_region
          all_goals
            go_wp2
            go_ret2
            exact ⟨_, _, rfl, Or.inr (Or.inl ⟨h_char, (by simp [Str] : Str _ _), rfl⟩), (below72 w _ _ _ _ _).drew⟩
        · have HO : Hid (b.dt ∉ castNames ∧ b.dt ≠ ⟨#[99, 104, 97, 114]⟩) := ⟨by
            have hI := HI.out
            simp only [castNames, List.mem_append, not_or]
            exact ⟨hI, by simp [h_decimal, h_float, h_double, h_date, h_datetime, h_timestamp, h_time, h_binary]⟩, h_char⟩
          replace h_decimal := neL h_decimal
          replace h_float := neL h_float
          replace h_double := neL h_double
          replace h_date := neL h_date
          replace h_datetime := neL h_datetime
          replace h_timestamp := neL h_timestamp
          replace h_time := neL h_time
          replace h_binary := neL h_binary
          replace h_char := neL h_char
          go_wp2
          go_region
          all_goals
            go_wp2
            go_ret2
            exact ⟨_, _, rfl, Or.inr (Or.inr ⟨HO.out.1, HO.out.2, rfl, rfl⟩), (below72 w _ _ _ _ _).drew⟩
end Go.Proofs.Qxb6601460aDoor
