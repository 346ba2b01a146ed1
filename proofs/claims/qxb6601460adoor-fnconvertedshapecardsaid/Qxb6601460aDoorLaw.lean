/-
  THE WALKS of ZZconverted (9) and of the law FnConvertedShape (3).
-/
import Derived.Test.Qxb6601460aDoorWalksB
namespace Go.Proofs.Qxb6601460aDoor
open Go Go.RowKit

set_option maxRecDepth 10000 in
set_option maxHeartbeats 800000 in
theorem zz9_same (v : ByteArray) (a b : Col) (w : World) (h1 : a.ty = b.ty) (h2 : a.co = b.co) :
    Calls Tryd.prog 9 #[.string v, .agg a.cells, .agg b.cells] w fun e w' => e = .returned (.tuple #[.string v, .string a.cs]) ∧ Below w.heap.size w w' := by
  have H : Hid (a.ty = b.ty ∧ a.co = b.co) := ⟨h1, h2⟩
  clear h1 h2
  simp only [Col.cells]
  go_enter Tryd.func9, Tryd.ntmps9
  go_wp2_with fail
  refine (conv14_same v a b _ H.out.1 H.out.2).mono ?_
  rintro e w1 ⟨rfl, hb⟩
  have HB : Hid (Below w.heap.size w w1) := (Joins.below_alloc2 w _ _).trans (hb.mono (Joins.below_alloc2 w _ _).size)
  clear hb
  go_wp2
  go_ret2
  exact ⟨rfl, HB.out⟩

set_option maxRecDepth 10000 in
set_option maxHeartbeats 800000 in
theorem zz9_diff (v : ByteArray) (a b : Col) (w : World) (m : Int) (hs : v.size + b.ty.size ≤ 1048576) (hm : w.cell? ⟨0, 0, none⟩ = some (.int .i64 m)) (h : ¬ (a.ty = b.ty ∧ a.co = b.co)) :
    Calls Tryd.prog 9 #[.string v, .agg a.cells, .agg b.cells] w fun e w' => ∃ S C, e = .returned (.tuple #[.string S, .string C]) ∧ Hid (Out v a b S C) ∧ Below w.heap.size w w' := by
  have HM : Hid (w.cell? ⟨0, 0, none⟩ = some (.int .i64 m)) := hm
  have HN : Hid (¬ (a.ty = b.ty ∧ a.co = b.co)) := h
  clear hm h
  simp only [Col.cells]
  go_enter Tryd.func9, Tryd.ntmps9
  go_wp2_with fail
  refine (conv14_diff v a b _ m hs (cell_keep HM.out (Joins.below_alloc2 w _ _)) HN.out).mono ?_
  rintro e w1 ⟨S, C, rfl, HO, hb⟩
  have HB : Hid (Below w.heap.size w w1) := (Joins.below_alloc2 w _ _).trans (hb.mono (Joins.below_alloc2 w _ _).size)
  clear hb
  go_wp2
  go_ret2
  exact ⟨S, C, rfl, HO, HB.out⟩

set_option maxRecDepth 10000 in
set_option maxHeartbeats 800000 in
theorem law_early (v : ByteArray) (a b : Col) (w : World) (hv : v.size ≤ maxLen) (ha : a.small) (hb : b.small) (h : ¬ v.size + a.bytes + b.bytes ≤ 1048576) :
    Calls Tryd.prog 3 #[.string v, .agg a.cells, .agg b.cells] w fun e w' => e = .returned (.bool true) ∧ Below w.heap.size w w' := by
  have H : Hid (v.size ≤ maxLen ∧ a.small ∧ b.small ∧ ¬ v.size + a.bytes + b.bytes ≤ 1048576) := ⟨hv, ha, hb, h⟩
  clear hv ha hb h
  simp only [Col.cells]
  go_enter Tryd.func3, Tryd.ntmps3
  go_wp2_with fail
  refine (zz6_out v a b _ H.out.1 H.out.2.1 H.out.2.2.1 H.out.2.2.2).mono ?_
  rintro e w1 ⟨rfl, rfl⟩
  go_wp2
  go_ret
  exact ⟨rfl, (((Joins.below_alloc2 w _ _).alloc (by simp <;> omega) _).alloc (by simp <;> omega) _)⟩

theorem cell_old {w : World} {o : Obj} {p : Addr} (h : p.block < w.heap.size) : (w.alloc o).cell? p = w.cell? p := ((Below.refl w.heap.size w).alloc (Nat.le_refl _) o).cell h
theorem cell_new {w : World} {cs : Array Value} {T k : Nat} : (w.alloc (.cells cs T)).cell? ⟨w.heap.size, k, none⟩ = cs[k]? := by
  unfold World.cell? World.alloc
  simp
theorem cell_drew {w : World} {p : Addr} : w.drew.cell? p = w.cell? p := rfl
theorem not_char {d : ByteArray} (h : d ∈ castNames) : ¬ d = ⟨#[99, 104, 97, 114]⟩ := fun e => by
  subst e
  simp [castNames, intNames] at h
theorem cast_of {v : ByteArray} {a b : Col} {S C : ByteArray} (h : Hid (Out v a b S C)) (hd : b.dt ∈ castNames) : Hid (Str S ([67, 65, 83, 84, 40] ++ v.data.toList ++ [32, 65, 83, 32] ++ nameOf b ++ [41])) ∧ C = ⟨#[]⟩ := by
  rcases h.out with ⟨_, h1, h2⟩ | ⟨h1, _⟩ | ⟨h1, _⟩
  · exact ⟨h1, h2⟩
  · exact absurd h1 (not_char hd)
  · exact absurd hd h1
theorem name_len (b : Col) : 1 ≤ (nameOf b).length ∧ (nameOf b).length ≤ b.ty.size + 20 := by
  have h := args_le b
  unfold nameOf
  repeat' split
  all_goals simp
  all_goals omega
theorem E_size {E : ByteArray} {b : Col} (h : Str E ([67, 65, 83, 84, 40] ++ (⟨#[]⟩ : ByteArray).data.toList ++ [32, 65, 83, 32] ++ nameOf b ++ [41])) : 11 ≤ E.size ∧ E.size ≤ b.ty.size + 30 := by
  have := name_len b
  rw [h.size]
  simp
  omega
theorem E_head {E : ByteArray} {b : Col} (h : Str E ([67, 65, 83, 84, 40] ++ (⟨#[]⟩ : ByteArray).data.toList ++ [32, 65, 83, 32] ++ nameOf b ++ [41])) : (E.extract 0 9).toList = [67, 65, 83, 84, 40, 32, 65, 83, 32] := by
  rw [Lib.toList_data, Lib.extract_data]
  unfold Str at h
  rw [h]
  simp
theorem E_last {E : ByteArray} {b : Col} (h : Str E ([67, 65, 83, 84, 40] ++ (⟨#[]⟩ : ByteArray).data.toList ++ [32, 65, 83, 32] ++ nameOf b ++ [41])) (hl : E.size - 1 < E.size) : (E[E.size - 1]'hl) = 41 := by
  have hs := h.size
  have e : E.data.toList[E.size - 1]? = some (E[E.size - 1]'hl) := by
    rw [List.getElem?_eq_getElem (by rw [← Lib.size_eq]; exact hl)]
    rfl
  have e2 : E.data.toList[E.size - 1]? = some 41 := by
    unfold Str at h
    rw [hs, h, ← List.getLast?_eq_getElem?]
    exact List.getLast?_concat
  exact Option.some.inj (e.symm.trans e2)
theorem E_sql {S E v : ByteArray} {b : Col} (hS : Str S ([67, 65, 83, 84, 40] ++ v.data.toList ++ [32, 65, 83, 32] ++ nameOf b ++ [41])) (h : Str E ([67, 65, 83, 84, 40] ++ (⟨#[]⟩ : ByteArray).data.toList ++ [32, 65, 83, 32] ++ nameOf b ++ [41])) :
    S.toList = ((⟨#[67, 65, 83, 84, 40]⟩ : ByteArray) ++ v ++ E.extract 5 E.size).toList := by
  have hs := h.size
  have e : (E.extract 5 E.size).data.toList = [32, 65, 83, 32] ++ nameOf b ++ [41] := by
    rw [Lib.extract_data]
    unfold Str at h
    rw [h, hs]
    simp
    exact List.take_of_length_le (by simp)
  have e3 : Str ((⟨#[67, 65, 83, 84, 40]⟩ : ByteArray) ++ v ++ E.extract 5 E.size) ([67, 65, 83, 84, 40] ++ v.data.toList ++ ([32, 65, 83, 32] ++ nameOf b ++ [41])) := Str.app (Str.app rfl rfl) e
  unfold Str at hS e3
  rw [Lib.toList_data, Lib.toList_data, hS, e3]
  simp
theorem char_eq {S v : ByteArray} (h : Str S ([82, 84, 82, 73, 77, 40] ++ v.data.toList ++ [41])) : (⟨#[82, 84, 82, 73, 77, 40]⟩ : ByteArray) ++ v ++ ⟨#[41]⟩ = S := by
  have e : Str ((⟨#[82, 84, 82, 73, 77, 40]⟩ : ByteArray) ++ v ++ ⟨#[41]⟩) ([82, 84, 82, 73, 77, 40] ++ v.data.toList ++ [41]) := Str.app (Str.app rfl rfl) rfl
  exact ByteArray.ext (Array.toList_inj.1 (e.trans h.symm))
abbrev W8 (w : World) (a b : Col) : World := (((((((w.alloc (.cells a.cells 23)).alloc (.cells b.cells 23)).alloc (.cells a.cells 23)).alloc (.cells b.cells 23)).alloc (.cells a.cells 23)).alloc (.cells b.cells 23)).alloc (.cells a.cells 23)).alloc (.cells b.cells 23)
abbrev W5 (w : World) (a b : Col) : World := (W8 w a b).drew
/-- The world at the first call of ZZconverted. -/
abbrev W9 (w : World) (a b : Col) : World := (((W8 w a b).alloc (.cells a.cells 27)).alloc (.cells b.cells 27)).drew
theorem below9 (w : World) (a b : Col) : Below w.heap.size w (W9 w a b) :=
  ((((((((((((Below.refl w.heap.size w).alloc (by simp) _).alloc (by simp) _).alloc (by simp <;> omega) _).alloc (by simp <;> omega) _).alloc (by simp <;> omega) _).alloc (by simp <;> omega) _).alloc (by simp <;> omega) _).alloc (by simp <;> omega) _).alloc (by simp <;> omega) _).alloc (by simp <;> omega) _)).drew
theorem at4 {w W : World} {a b : Col} (hb : Below (W9 w a b).heap.size (W9 w a b) W) (k : Nat) : W.cell? ⟨w.heap.size, k, none⟩ = a.cells[k]? := by
  rw [hb.cell (by simp <;> omega), cell_drew, cell_old (by simp <;> omega), cell_old (by simp <;> omega), cell_old (by simp <;> omega), cell_old (by simp <;> omega), cell_old (by simp <;> omega), cell_old (by simp <;> omega), cell_old (by simp <;> omega), cell_old (by simp <;> omega), cell_old (by simp), cell_new]
theorem at5 {w W : World} {a b : Col} (hb : Below (W9 w a b).heap.size (W9 w a b) W) (k : Nat) : W.cell? ⟨w.heap.size + 1, k, none⟩ = b.cells[k]? := by
  have e : w.heap.size + 1 = (w.alloc (.cells a.cells 23)).heap.size := by simp
  rw [hb.cell (by simp <;> omega), cell_drew, cell_old (by simp <;> omega), cell_old (by simp <;> omega), cell_old (by simp <;> omega), cell_old (by simp <;> omega), cell_old (by simp <;> omega), cell_old (by simp <;> omega), cell_old (by simp <;> omega), cell_old (by simp), e, cell_new]
theorem at7 {w W : World} {a b : Col} (hb : Below (W9 w a b).heap.size (W9 w a b) W) (k : Nat) : W.cell? ⟨w.heap.size + 1 + 1 + 1 + 1 + 1 + 1 + 1 + 1, k, none⟩ = a.cells[k]? := by
  have e : w.heap.size + 1 + 1 + 1 + 1 + 1 + 1 + 1 + 1 = (W8 w a b).heap.size := by simp
  rw [hb.cell (by simp <;> omega), cell_drew, cell_old (by simp), e, cell_new]
theorem at8 {w W : World} {a b : Col} (hb : Below (W9 w a b).heap.size (W9 w a b) W) (k : Nat) : W.cell? ⟨w.heap.size + 1 + 1 + 1 + 1 + 1 + 1 + 1 + 1 + 1, k, none⟩ = b.cells[k]? := by
  have e : w.heap.size + 1 + 1 + 1 + 1 + 1 + 1 + 1 + 1 + 1 = ((W8 w a b).alloc (.cells a.cells 27)).heap.size := by simp
  rw [hb.cell (by simp <;> omega), cell_drew, e, cell_new]

set_option maxRecDepth 10000 in
set_option maxHeartbeats 2000000 in
theorem law_good (v : ByteArray) (a b : Col) (w : World) (m : Int) (h : v.size + a.bytes + b.bytes ≤ 1048576) (hm : w.cell? ⟨0, 0, none⟩ = some (.int .i64 m)) :
    Calls Tryd.prog 3 #[.string v, .agg a.cells, .agg b.cells] w fun e w' => e = .returned (.bool true) ∧ Below w.heap.size w w' := by
  have H : Hid (v.size + a.bytes + b.bytes ≤ 1048576) := h
  have HM : Hid (w.cell? ⟨0, 0, none⟩ = some (.int .i64 m)) := hm
  have hv : v.size ≤ 1048576 := by omega
  clear h hm
  simp only [Col.cells]
  go_enter Tryd.func3, Tryd.ntmps3
  go_wp2_with fail
  refine (zz6_in v a b _ H.out).mono ?_
  rintro e w1 ⟨rfl, rfl⟩
  simp only [Col.cells]
  go_wp2_with fail
  refine (over7 a _ (by have := H.out; omega)).mono ?_
  rintro e w1 ⟨rfl, rfl⟩
  simp only [Col.cells]
  go_wp2_with fail
  refine (over7 b _ (by have := H.out; omega)).mono ?_
  rintro e w1 ⟨rfl, rfl⟩
  simp only [Col.cells]
  go_upto_region 5 with fail
  go_cut [38] (fun s wx => s = .bool false ∧ wx = W5 w a b)
  case first =>
    have hab : a.bytes ≤ 1048576 ∧ b.bytes ≤ 1048576 ∧ v.size + a.bytes + b.bytes ≤ 1048576 := by
      have := H.out
      omega
    go_region_with (refine (bytes8 _ _ (by omega)).mono ?_; rintro e w1 ⟨rfl, rfl⟩; simp only [Col.cells])
    all_goals
      go_wp2_with fail
      go_meet
      case rel => exact ⟨by simp [IntKind.wrap_i64]; omega, rfl⟩
  case rest =>
    obtain ⟨rfl, rfl⟩ := hcut
    simp only [W5, W8, Col.cells]
    go_wp2_with fail
    by_cases hS : a.ty = b.ty ∧ a.co = b.co
    · have HS : Hid (a.ty = b.ty ∧ a.co = b.co) := hS
      clear hS
      refine (zz9_same v a b _ HS.out.1 HS.out.2).mono ?_
      rintro e W ⟨rfl, hb⟩
      have hW : Below (W9 w a b).heap.size (W9 w a b) W := hb
      have a2 : W.cell? ⟨w.heap.size, 2, none⟩ = some (.string a.ty) := at4 hW 2
      have a8 : W.cell? ⟨w.heap.size, 8, none⟩ = some (.string a.co) := at4 hW 8
      have a7 : W.cell? ⟨w.heap.size, 7, none⟩ = some (.string a.cs) := at4 hW 7
      have b2 : W.cell? ⟨w.heap.size + 1, 2, none⟩ = some (.string b.ty) := at5 hW 2
      have b8 : W.cell? ⟨w.heap.size + 1, 8, none⟩ = some (.string b.co) := at5 hW 8
      have b1 : W.cell? ⟨w.heap.size + 1, 1, none⟩ = some (.string b.dt) := at5 hW 1
      have HB : Hid (Below w.heap.size w W) := (below9 w a b).trans (hW.mono (below9 w a b).size)
      clear hb hW
      have e1 := HS.out.1
      have e2 := HS.out.2
      go_wp2
      go_ret
      exact ⟨rfl, HB.out⟩
    · have HN : Hid (¬ (a.ty = b.ty ∧ a.co = b.co)) := hS
      clear hS
      have hsz : v.size + b.ty.size ≤ 1048576 := by
        have := H.out
        simp only [Col.bytes] at this
        omega
      refine (zz9_diff v a b _ m hsz (cell_keep HM.out (below9 w a b)) HN.out).mono ?_
      rintro e W ⟨S, C, rfl, HO, hb⟩
      have hW : Below (W9 w a b).heap.size (W9 w a b) W := hb
      have a2 : W.cell? ⟨w.heap.size, 2, none⟩ = some (.string a.ty) := at4 hW 2
      have a8 : W.cell? ⟨w.heap.size, 8, none⟩ = some (.string a.co) := at4 hW 8
      have a7 : W.cell? ⟨w.heap.size, 7, none⟩ = some (.string a.cs) := at4 hW 7
      have b2 : W.cell? ⟨w.heap.size + 1, 2, none⟩ = some (.string b.ty) := at5 hW 2
      have b8 : W.cell? ⟨w.heap.size + 1, 8, none⟩ = some (.string b.co) := at5 hW 8
      have b1 : W.cell? ⟨w.heap.size + 1, 1, none⟩ = some (.string b.dt) := at5 hW 1
      have HC : Hid (∀ k, W.cell? ⟨w.heap.size + 1 + 1 + 1 + 1 + 1 + 1 + 1 + 1, k, none⟩ = a.cells[k]?) := at7 hW
      have HD8 : Hid (∀ k, W.cell? ⟨w.heap.size + 1 + 1 + 1 + 1 + 1 + 1 + 1 + 1 + 1, k, none⟩ = b.cells[k]?) := at8 hW
      have HB : Hid (Below w.heap.size w W) := (below9 w a b).trans (hW.mono (below9 w a b).size)
      clear hb hW
      go_upto_region 10 with fail
      go_cut [11] (fun s wx => s = .bool false ∧ wx = W)
      case first =>
        go_wp2
        all_goals
          go_meet
          case rel => exact ⟨congrArg Value.bool (by first | rfl | exact co_ne HN.out (by assumption)), rfl⟩
      case rest =>
        obtain ⟨rfl, hwx⟩ := hcut
        have hwx' := hwx.symm
        subst hwx'
        clear hwx
        rcases HO.out with ⟨hd, hSt, rfl⟩ | ⟨hd, hSt, rfl⟩ | ⟨hd1, hd2, hSv, rfl⟩
        · have HD : Hid (b.dt ∈ castNames) := hd
          have HST : Hid (Str S ([67, 65, 83, 84, 40] ++ v.data.toList ++ [32, 65, 83, 32] ++ nameOf b ++ [41])) := hSt
          clear hd hSt HO
          go_wp2_with fail
          refine (cast10_in b.dt _ HD.out).mono ?_
          rintro e w1 ⟨rfl, hw1⟩
          obtain rfl : W = w1 := hw1.symm
          clear hw1
          have hch : (b.dt.toList == [99, 104, 97, 114]) = false := neL (not_char HD.out)
          have c0 : W.cell? ⟨w.heap.size + 1 + 1 + 1 + 1 + 1 + 1 + 1 + 1, 0, none⟩ = some (.string a.nm) := HC.out 0
          have c1 : W.cell? ⟨w.heap.size + 1 + 1 + 1 + 1 + 1 + 1 + 1 + 1, 1, none⟩ = some (.string a.dt) := HC.out 1
          have c2 : W.cell? ⟨w.heap.size + 1 + 1 + 1 + 1 + 1 + 1 + 1 + 1, 2, none⟩ = some (.string a.ty) := HC.out 2
          have c3 : W.cell? ⟨w.heap.size + 1 + 1 + 1 + 1 + 1 + 1 + 1 + 1, 3, none⟩ = some (.bool a.gen) := HC.out 3
          have c4 : W.cell? ⟨w.heap.size + 1 + 1 + 1 + 1 + 1 + 1 + 1 + 1, 4, none⟩ = some (.bool a.req) := HC.out 4
          have c5 : W.cell? ⟨w.heap.size + 1 + 1 + 1 + 1 + 1 + 1 + 1 + 1, 5, none⟩ = some (.bool a.ai) := HC.out 5
          have c6 : W.cell? ⟨w.heap.size + 1 + 1 + 1 + 1 + 1 + 1 + 1 + 1, 6, none⟩ = some (.bool a.uns) := HC.out 6
          have c7 : W.cell? ⟨w.heap.size + 1 + 1 + 1 + 1 + 1 + 1 + 1 + 1, 7, none⟩ = some (.string a.cs) := HC.out 7
          have c8 : W.cell? ⟨w.heap.size + 1 + 1 + 1 + 1 + 1 + 1 + 1 + 1, 8, none⟩ = some (.string a.co) := HC.out 8
          have c9 : W.cell? ⟨w.heap.size + 1 + 1 + 1 + 1 + 1 + 1 + 1 + 1, 9, none⟩ = some (.int .i64 a.len) := HC.out 9
          have d0 : W.cell? ⟨w.heap.size + 1 + 1 + 1 + 1 + 1 + 1 + 1 + 1 + 1, 0, none⟩ = some (.string b.nm) := HD8.out 0
          have d1 : W.cell? ⟨w.heap.size + 1 + 1 + 1 + 1 + 1 + 1 + 1 + 1 + 1, 1, none⟩ = some (.string b.dt) := HD8.out 1
          have d2 : W.cell? ⟨w.heap.size + 1 + 1 + 1 + 1 + 1 + 1 + 1 + 1 + 1, 2, none⟩ = some (.string b.ty) := HD8.out 2
          have d3 : W.cell? ⟨w.heap.size + 1 + 1 + 1 + 1 + 1 + 1 + 1 + 1 + 1, 3, none⟩ = some (.bool b.gen) := HD8.out 3
          have d4 : W.cell? ⟨w.heap.size + 1 + 1 + 1 + 1 + 1 + 1 + 1 + 1 + 1, 4, none⟩ = some (.bool b.req) := HD8.out 4
          have d5 : W.cell? ⟨w.heap.size + 1 + 1 + 1 + 1 + 1 + 1 + 1 + 1 + 1, 5, none⟩ = some (.bool b.ai) := HD8.out 5
          have d6 : W.cell? ⟨w.heap.size + 1 + 1 + 1 + 1 + 1 + 1 + 1 + 1 + 1, 6, none⟩ = some (.bool b.uns) := HD8.out 6
          have d7 : W.cell? ⟨w.heap.size + 1 + 1 + 1 + 1 + 1 + 1 + 1 + 1 + 1, 7, none⟩ = some (.string b.cs) := HD8.out 7
          have d8 : W.cell? ⟨w.heap.size + 1 + 1 + 1 + 1 + 1 + 1 + 1 + 1 + 1, 8, none⟩ = some (.string b.co) := HD8.out 8
          have d9 : W.cell? ⟨w.heap.size + 1 + 1 + 1 + 1 + 1 + 1 + 1 + 1 + 1, 9, none⟩ = some (.int .i64 b.len) := HD8.out 9
          go_wp2_with fail
          refine (zz9_diff ⟨#[]⟩ a b W m (by have : (⟨#[]⟩ : ByteArray).size = 0 := rfl; omega) (cell_keep HM.out HB.out) HN.out).mono ?_
          rintro e W2 ⟨E, C2, rfl, HO2, hb2⟩
          have HB2 : Hid (Below w.heap.size w W2) := HB.out.trans (hb2.mono HB.out.size)
          obtain ⟨HE, rfl⟩ := cast_of HO2 HD.out
          clear c0 c1 c2 c3 c4 c5 c6 c7 c8 c9 d0 d1 d2 d3 d4 d5 d6 d7 d8 d9 a2 a8 a7 b2 b8 b1 HC HD8 hb2 HO2 HB hch
          have hE := E_size HE.out
          have hE2 : E.size ≤ 3000000 := by omega
          have hP := E_head HE.out
          have hL := E_last HE.out
          go_wp2
          go_ret
          exact ⟨congrArg (fun x => Ending.returned (Value.bool x)) (beq_iff_eq.2 (E_sql HST.out HE.out)), HB2.out⟩
        · have HD : Hid (b.dt ∉ castNames) := (by rw [hd]; simp [castNames, intNames] : b.dt ∉ castNames)
          obtain rfl := char_eq hSt
          clear hSt HO
          have HDC : Hid (b.dt = ⟨#[99, 104, 97, 114]⟩) := hd
          clear hd
          go_wp2_with fail
          refine (cast10_out b.dt _ HD.out).mono ?_
          rintro e w1 ⟨rfl, hw1⟩
          obtain rfl : W = w1 := hw1.symm
          clear hw1
          have hd := HDC.out
          go_wp2
          go_ret
          exact ⟨rfl, HB.out⟩
        · have HD : Hid (b.dt ∉ castNames) := hd1
          have hd3 := neL hd2
          obtain rfl := hSv.symm
          clear hd1 hd2 hSv HO
          go_wp2_with fail
          refine (cast10_out b.dt _ HD.out).mono ?_
          rintro e w1 ⟨rfl, hw1⟩
          obtain rfl : W = w1 := hw1.symm
          clear hw1
          go_wp2
          go_ret
          exact ⟨rfl, HB.out⟩
end Go.Proofs.Qxb6601460aDoor
