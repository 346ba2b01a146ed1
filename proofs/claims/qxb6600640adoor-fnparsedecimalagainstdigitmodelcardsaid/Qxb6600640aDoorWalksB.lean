/-
  THE WALK of parseDecimal (function 15) and ZZparseDecimal (11), over the library's contracts.
-/
import Derived.Test.Qxb6600640aDoorWalksA
import Derived.Test.Qxb6600640aDoorShelf
import Derived.WalkSmall
namespace Go.Proofs.Qxb6600640aDoor
open Go Go.RowKit

theorem cutPrefix16 (s : ByteArray) (l m : List UInt8) (b : Bool) (w : World) (hs : Str s l) (h : Lib.trimPrefix l [45] = m ∧ Lib.hasPrefix l [45] = b) :
    Calls Tryd.prog 16 #[.string s, .string ⟨#[45]⟩] w fun e w' => ∃ n, e = .returned (.tuple #[.string n, .bool b]) ∧ Str n m ∧ w' = w := by
  obtain rfl := hs
  obtain ⟨rfl, rfl⟩ := h
  refine (Tryd.strings_CutPrefix s ⟨#[45]⟩ w).mono ?_
  rintro e w' ⟨rfl, rfl⟩
  exact ⟨_, rfl, rfl, rfl⟩
theorem indexAny17 (s : ByteArray) (l : List UInt8) (i : Int) (w : World) (hs : Str s l) (hi : Lib.indexAny l [101, 69] = i) (hlen : l.length < 4294967281) (hascii : ∀ c ∈ l, c.toNat < 128) :
    Calls Tryd.prog 17 #[.string s, .string ⟨#[101, 69]⟩] w fun e w' => e = .returned (.int .i64 i) ∧ Below w.heap.size w w' := by
  obtain rfl := hs
  subst hi
  exact Tryd.strings_IndexAny_laid s ⟨#[101, 69]⟩ w (by rw [Lib.size_eq]; exact hlen) (by decide) (fun j b hb => hascii b (List.mem_of_getElem? hb)) (fun j b hb => by
    have hm : b ∈ ([101, 69] : List UInt8) := List.mem_of_getElem? hb
    revert b
    intro b _ hm
    simp at hm
    rcases hm with rfl | rfl <;> decide)
theorem parseInt18_ok (s : ByteArray) (l : List UInt8) (v : Int) (w : World) (hs : Str s l) (hlen : l.length < 4294967281) (h : Lib.parseIntB 32 l = .ok v) :
    Calls Tryd.prog 18 #[.string s, .int .i64 10, .int .i64 32] w fun e w' => e = .returned (.tuple #[.int .i64 v, .nilIface]) ∧ Below w.heap.size w w' := by
  obtain rfl := hs
  refine (Tryd.strconv_ParseInt_10_at32_ok s (by rw [Lib.size_eq]; omega) v h w).mono ?_
  rintro e w' ⟨rfl, rfl | ⟨t, rfl⟩⟩
  · exact ⟨rfl, Below.refl _ _⟩
  · exact ⟨rfl, Lib.bytesWorld_below _ _ _⟩
theorem parseInt18_range (s : ByteArray) (l : List UInt8) (ev : Value) (w : World) (hs : Str s l) (hlen : l.length < 4294967281) (h : Lib.parseIntB 32 l = .range) (hv : w.cell? ⟨2, 0, none⟩ = some ev) (hev : ev = .nilIface ∨ ∃ te pe, ev = .iface te pe) :
    Calls Tryd.prog 18 #[.string s, .int .i64 10, .int .i64 32] w fun e w' => (∃ (N : Nat) (x : Int), e = .returned (.tuple #[.int .i64 x, .iface 67 (.pointer (some ⟨N, 0, none⟩))])) ∧ Below w.heap.size w w' := by
  obtain rfl := hs
  refine (Tryd.strconv_ParseInt_10_at32_range s (by rw [Lib.size_eq]; omega) h ev w hv hev).mono ?_
  rintro e w' ⟨N, rfl, _, _, hb⟩
  exact ⟨⟨N, _, rfl⟩, hb⟩
theorem cut19 (s : ByteArray) (l a f : List UInt8) (b : Bool) (m : Int) (w : World) (hs : Str s l) (hlen : l.length < 4294967281) (h : Lib.cut l [46] = (a, f, b)) (hm : w.cell? ⟨0, 0, none⟩ = some (.int .i64 m)) :
    Calls Tryd.prog 19 #[.string s, .string ⟨#[46]⟩] w fun e w' => ∃ x y, e = .returned (.tuple #[.string x, .string y, .bool b]) ∧ Str x a ∧ Str y f ∧ Below w.heap.size w w' := by
  obtain rfl := hs
  refine (Tryd.strings_Cut s ⟨#[46]⟩ m w (by rw [Lib.size_eq]; exact hlen) hm).mono ?_
  have h' : Lib.cut s.data.toList (⟨#[46]⟩ : ByteArray).data.toList = (a, f, b) := h
  rw [h']
  rintro e w' ⟨rfl, n, rfl⟩
  exact ⟨_, _, rfl, rfl, rfl, below_drewN (Below.refl _ _) n⟩
theorem trimLeft20 (s : ByteArray) (l m : List UInt8) (w : World) (hs : Str s l) (h : Lib.trimLeftB l 48 = m) :
    Calls Tryd.prog 20 #[.string s, .string ⟨#[48]⟩] w fun e w' => ∃ n, e = .returned (.string n) ∧ Str n m ∧ w' = w := by
  obtain rfl := hs
  subst h
  refine (Tryd.strings_TrimLeft_one s 48 (by decide) w).mono ?_
  rintro e w' ⟨rfl, rfl⟩
  exact ⟨_, rfl, rfl, rfl⟩
theorem trimRight21 (s : ByteArray) (l m : List UInt8) (w : World) (hs : Str s l) (hlen : l.length < 4294967281) (h : Lib.trimRightB l 48 = m) :
    Calls Tryd.prog 21 #[.string s, .string ⟨#[48]⟩] w fun e w' => ∃ n, e = .returned (.string n) ∧ Str n m ∧ w' = w := by
  obtain rfl := hs
  subst h
  refine (Tryd.strings_TrimRight_one s 48 (by decide) w (by rw [Lib.size_eq]; omega)).mono ?_
  rintro e w' ⟨rfl, rfl⟩
  exact ⟨_, rfl, rfl, rfl⟩

theorem bcell {W w1 : World} (hb : Below W.heap.size W w1) : (∀ b o, b < W.heap.size → w1.cell? ⟨b, o, none⟩ = W.cell? ⟨b, o, none⟩) ∧ (∀ b o, b < W.heap.size → w1.frozen? ⟨b, o, none⟩ = W.frozen? ⟨b, o, none⟩) :=
  ⟨fun b o h => hb.cell (p := ⟨b, o, none⟩) h, fun b o h => hb.frozen (p := ⟨b, o, none⟩) h⟩

theorem lt_of_cell {w : World} {b o : Nat} {v : Value} (h : w.cell? ⟨b, o, none⟩ = some v) : b < w.heap.size := by
  rcases Nat.lt_or_ge b w.heap.size with hl | hl
  · exact hl
  · simp [World.cell?, Array.getElem?_eq_none hl] at h

/-- WHAT THE TEXT COMES APART INTO: what each call of the library's gives. -/
structure Parts (l n mant ex wh fr dg dr : List UInt8) (neg fnd : Bool) (i : Int) : Prop where
  h16 : Lib.trimPrefix l [45] = n ∧ Lib.hasPrefix l [45] = neg
  hn : n.length < 4000000
  ha : ∀ c ∈ n, c.toNat < 128
  h17 : Lib.indexAny n [101, 69] = i
  hex : ex.length < 4000000
  hma : mant.length < 4000000
  h19 : Lib.cut mant [46] = (wh, fr, fnd)
  hwf : wh.length + fr.length < 4000000
  h20 : Lib.trimLeftB (wh ++ fr) 48 = dg
  h21 : Lib.trimRightB dg 48 = dr
  hdg : dg.length < 4000000
  hdr : dr.length ≤ dg.length

/-- The world behind the two new structs of parseDecimal: the result's, d's. -/
abbrev W2 (w : World) (neg : Bool) : World := (w.alloc (.cells #[.bool false, .string ⟨#[]⟩, .int .i64 0] 35)).alloc (.cells #[.bool neg, .string ⟨#[]⟩, .int .i64 0] 35)
theorem w2_size (w : World) (neg : Bool) : (W2 w neg).heap.size = w.heap.size + 2 := by simp [W2]
theorem w2_old (w : World) (neg : Bool) {wk : World} (h : Below (w.heap.size + 2) (W2 w neg) wk) (b o : Nat) (hb : b < w.heap.size) : wk.cell? ⟨b, o, none⟩ = w.cell? ⟨b, o, none⟩ := by
  rw [h.cell (p := ⟨b, o, none⟩) (by show b < _; omega), World.cell?_alloc_past, World.cell?_alloc_past]
  · exact hb
  · simp; omega
theorem w2_below (w : World) (neg : Bool) {wk : World} (h : Below (w.heap.size + 2) (W2 w neg) wk) : Below w.heap.size w wk :=
  (((Below.refl _ _).alloc (Nat.le_refl _) _).alloc (by simp) _).trans (h.mono (by omega))
theorem w2_cells (w : World) (neg : Bool) {wk : World} (h : Below (w.heap.size + 2) (W2 w neg) wk) :
    (wk.cell? ⟨w.heap.size, 0, none⟩ = some (.bool false) ∧ wk.cell? ⟨w.heap.size, 1, none⟩ = some (.string ⟨#[]⟩) ∧ wk.cell? ⟨w.heap.size, 2, none⟩ = some (.int .i64 0)) ∧
    (wk.cell? ⟨w.heap.size + 1, 0, none⟩ = some (.bool neg) ∧ wk.cell? ⟨w.heap.size + 1, 1, none⟩ = some (.string ⟨#[]⟩) ∧ wk.cell? ⟨w.heap.size + 1, 2, none⟩ = some (.int .i64 0)) ∧
    (∀ o, wk.frozen? ⟨w.heap.size, o, none⟩ = false) ∧ (∀ o, wk.frozen? ⟨w.heap.size + 1, o, none⟩ = false) := by
  have c0 : ∀ o, wk.cell? ⟨w.heap.size, o, none⟩ = (W2 w neg).cell? ⟨w.heap.size, o, none⟩ := fun o => h.cell (p := ⟨w.heap.size, o, none⟩) (by show w.heap.size < _; omega)
  have c1 : ∀ o, wk.cell? ⟨w.heap.size + 1, o, none⟩ = (W2 w neg).cell? ⟨w.heap.size + 1, o, none⟩ := fun o => h.cell (p := ⟨w.heap.size + 1, o, none⟩) (by show w.heap.size + 1 < _; omega)
  have f0 : ∀ o, wk.frozen? ⟨w.heap.size, o, none⟩ = (W2 w neg).frozen? ⟨w.heap.size, o, none⟩ := fun o => h.frozen (p := ⟨w.heap.size, o, none⟩) (by show w.heap.size < _; omega)
  have f1 : ∀ o, wk.frozen? ⟨w.heap.size + 1, o, none⟩ = (W2 w neg).frozen? ⟨w.heap.size + 1, o, none⟩ := fun o => h.frozen (p := ⟨w.heap.size + 1, o, none⟩) (by show w.heap.size + 1 < _; omega)
  refine ⟨⟨?_, ?_, ?_⟩, ⟨?_, ?_, ?_⟩, fun o => ?_, fun o => ?_⟩
  · rw [c0]; simp [W2, go_sem]
  · rw [c0]; simp [W2, go_sem]
  · rw [c0]; simp [W2, go_sem]
  · rw [c1]; simp [W2, go_sem]
  · rw [c1]; simp [W2, go_sem]
  · rw [c1]; simp [W2, go_sem]
  · rw [f0]; simp [W2, go_sem]
  · rw [f1]; simp [W2, go_sem]

theorem Str.ext0 {t : ByteArray} {l : List UInt8} (h : Str t l) (k : Nat) : Str (t.extract 0 k) (l.take k) := by
  unfold Str at *
  rw [Lib.extract_data, h]; simp
theorem Str.extR {t : ByteArray} {l : List UInt8} (h : Str t l) (k : Nat) : Str (t.extract k t.size) (l.drop k) := by
  have hz := h.size
  unfold Str at *
  rw [Lib.extract_data, h, List.take_of_length_le (by simp; omega)]
theorem Str.empty {t : ByteArray} {l : List UInt8} (h : Str t l) : t.toList.isEmpty = l.isEmpty := by
  unfold Str at h
  rw [Lib.toList_data, h]

set_option maxRecDepth 10000 in
set_option maxHeartbeats 800000 in
theorem pd15_val (s : ByteArray) (l n mant ex wh fr dg dr : List UInt8) (neg fnd : Bool) (ev m : Int) (i : Int) (w : World)
    (hs : Str s l) (hP : Parts l n mant ex wh fr dg dr neg fnd i) (hi : (i = -1 ∧ mant = n ∧ ex = [48]) ∨ (∃ k : Nat, i = k ∧ k < n.length ∧ mant = n.take k ∧ ex = n.drop (k + 1)))
    (h18 : Lib.parseIntB 32 ex = .ok ev) (hev : -2147483648 ≤ ev ∧ ev ≤ 2147483647) (hdg : dg ≠ [])
    (hm : w.cell? ⟨0, 0, none⟩ = some (.int .i64 m)) :
    Calls Tryd.prog 15 #[.string s] w fun e w' => ∃ t, e = .returned (.tuple #[.agg #[.bool neg, .string t, .int .i64 (ev - fr.length + (dg.length - dr.length))], .bool true]) ∧ Str t dr ∧ Below w.heap.size w w' := by
  have hg5 : 0 < w.heap.size := lt_of_cell hm
  have HP : Hid _ := hP
  have HS : Hid _ := hs
  have H18 : Hid _ := h18
  have HE : Hid _ := hdg
  clear hP hs h18 hdg
  obtain ⟨he1, he2⟩ := hev
  rcases hi with ⟨rfl, hmant, hexp⟩ | ⟨k, rfl, hk, hmant, hexp⟩
  · have HM : Hid (mant = n ∧ ex = [48]) := ⟨hmant, hexp⟩
    clear hmant hexp
    go_enter Tryd.func15, Tryd.ntmps15
    go_wp2_with fail
    refine (cutPrefix16 s l n neg _ HS.out HP.out.h16).mono ?_
    rintro e w1 ⟨t1, rfl, ht1, rfl⟩
    have HT1 : Hid (Str t1 n) := ht1
    clear ht1
    go_wp2_with fail
    refine (indexAny17 t1 n _ _ HT1.out HP.out.h17 (by have := HP.out.hn; omega) HP.out.ha).mono ?_
    rintro e w1 ⟨rfl, hb1⟩
    have HB1 : Hid (Below (w.heap.size + 2) (W2 w neg) w1) := by rw [w2_size] at hb1; exact hb1
    clear hb1
    go_wp2_with fail
    refine (parseInt18_ok _ ex ev _ (by rw [HM.out.2]; rfl) (by have := HP.out.hex; omega) H18.out).mono ?_
    rintro e w2 ⟨rfl, hb2⟩
    have HB2 : Hid (Below (w.heap.size + 2) (W2 w neg) w2) := HB1.out.trans (hb2.mono (by have := HB1.out.size; rw [w2_size] at this; omega))
    clear hb2 HB1
    go_wp2_with fail
    refine (cut19 _ mant wh fr fnd m _ (by rw [HM.out.1]; exact HT1.out) (by have := HP.out.hma; omega) HP.out.h19 (by rw [w2_old w neg HB2.out 0 0 hg5]; exact hm)).mono ?_
    rintro e w3 ⟨x, y, rfl, hx, hy, hb3⟩
    have HB3 : Hid (Below (w.heap.size + 2) (W2 w neg) w3) := HB2.out.trans (hb3.mono (by have := HB2.out.size; rw [w2_size] at this; omega))
    have hxy : x.size + y.size < 4000000 := by have := HP.out.hwf; rw [hx.size, hy.size]; exact this
    have HXY : Hid (Str (x ++ y) (wh ++ fr)) := hx.app hy
    have HY : Hid (y.size = fr.length) := hy.size
    clear hb3 hx hy HB2
    go_wp2_with fail
    refine (trimLeft20 _ _ dg _ HXY.out HP.out.h20).mono ?_
    rintro e w4 ⟨t3, rfl, ht3, rfl⟩
    have hne : t3.toList.isEmpty = false := by rw [ht3.empty]; cases dg with | nil => exact absurd rfl HE.out | cons _ _ => rfl
    have ht3s : t3.size < 4000000 := by rw [ht3.size]; exact HP.out.hdg
    have HT3 : Hid (Str t3 dg) := ht3
    clear ht3
    go_wp2_with fail
    refine (trimRight21 _ _ dr _ HT3.out (by have := HP.out.hdg; omega) HP.out.h21).mono ?_
    rintro e w4 ⟨t4, rfl, ht4, rfl⟩
    have ht4s : t4.size ≤ t3.size := by rw [ht4.size, HT3.out.size]; exact HP.out.hdr
    have HT4 : Hid (Str t4 dr) := ht4
    clear ht4
    obtain ⟨⟨q0, q1, q2⟩, ⟨r0, r1, r2⟩, f0, f1⟩ := w2_cells w neg HB3.out
    go_wp2
    refine bodyPost_ret (v := .tuple #[.agg #[.bool neg, .string t4, .int .i64 (ev - y.size + (t3.size - t4.size))], .bool true]) (by simp [results, Tryd.results15, go_sem, q0, q1, q2]) rfl ⟨t4, ?_, HT4.out, ?_⟩
    · rw [HY.out, HT3.out.size, HT4.out.size]
    · exact (((((w2_below w neg HB3.out).setCell (by simp) _).setCell (by simp) _).setCell (by simp) _).setCell (by simp) _).setCell (by simp) _
  · have HM : Hid (mant = n.take k ∧ ex = n.drop (k + 1)) := ⟨hmant, hexp⟩
    clear hmant hexp
    go_enter Tryd.func15, Tryd.ntmps15
    go_wp2_with fail
    refine (cutPrefix16 s l n neg _ HS.out HP.out.h16).mono ?_
    rintro e w1 ⟨t1, rfl, ht1, rfl⟩
    have hk1 : k < t1.size := by rw [ht1.size]; exact hk
    have ht1s : t1.size < 4000000 := by rw [ht1.size]; exact HP.out.hn
    have HT1 : Hid (Str t1 n) := ht1
    clear ht1
    go_wp2_with fail
    refine (indexAny17 t1 n _ _ HT1.out HP.out.h17 (by have := HP.out.hn; omega) HP.out.ha).mono ?_
    rintro e w1 ⟨rfl, hb1⟩
    have HB1 : Hid (Below (w.heap.size + 2) (W2 w neg) w1) := by rw [w2_size] at hb1; exact hb1
    clear hb1
    go_wp2_with fail
    go_region
    have HBd : Hid (Below (w.heap.size + 2) (W2 w neg) w1.drew) := HB1.out.drew
    clear HB1
    generalize w1.drew = wd at HBd ⊢
    go_wp2_with fail
    refine (parseInt18_ok _ ex ev _ (by rw [HM.out.2]; exact HT1.out.extR (k + 1)) (by have := HP.out.hex; omega) H18.out).mono ?_
    rintro e w2 ⟨rfl, hb2⟩
    have HB2 : Hid (Below (w.heap.size + 2) (W2 w neg) w2) := HBd.out.trans (hb2.mono (by have := HBd.out.size; rw [w2_size] at this; omega))
    clear hb2 HBd
    go_wp2_with fail
    refine (cut19 _ mant wh fr fnd m _ (by rw [HM.out.1]; exact HT1.out.ext0 k) (by have := HP.out.hma; omega) HP.out.h19 (by rw [w2_old w neg HB2.out 0 0 hg5]; exact hm)).mono ?_
    rintro e w3 ⟨x, y, rfl, hx, hy, hb3⟩
    have HB3 : Hid (Below (w.heap.size + 2) (W2 w neg) w3) := HB2.out.trans (hb3.mono (by have := HB2.out.size; rw [w2_size] at this; omega))
    have hxy : x.size + y.size < 4000000 := by have := HP.out.hwf; rw [hx.size, hy.size]; exact this
    have HXY : Hid (Str (x ++ y) (wh ++ fr)) := hx.app hy
    have HY : Hid (y.size = fr.length) := hy.size
    clear hb3 hx hy HB2
    go_wp2_with fail
    refine (trimLeft20 _ _ dg _ HXY.out HP.out.h20).mono ?_
    rintro e w4 ⟨t3, rfl, ht3, rfl⟩
    have hne : t3.toList.isEmpty = false := by rw [ht3.empty]; cases dg with | nil => exact absurd rfl HE.out | cons _ _ => rfl
    have ht3s : t3.size < 4000000 := by rw [ht3.size]; exact HP.out.hdg
    have HT3 : Hid (Str t3 dg) := ht3
    clear ht3
    go_wp2_with fail
    refine (trimRight21 _ _ dr _ HT3.out (by have := HP.out.hdg; omega) HP.out.h21).mono ?_
    rintro e w4 ⟨t4, rfl, ht4, rfl⟩
    have ht4s : t4.size ≤ t3.size := by rw [ht4.size, HT3.out.size]; exact HP.out.hdr
    have HT4 : Hid (Str t4 dr) := ht4
    clear ht4
    obtain ⟨⟨q0, q1, q2⟩, ⟨r0, r1, r2⟩, f0, f1⟩ := w2_cells w neg HB3.out
    go_wp2
    refine bodyPost_ret (v := .tuple #[.agg #[.bool neg, .string t4, .int .i64 (ev - y.size + (t3.size - t4.size))], .bool true]) (by simp [results, Tryd.results15, go_sem, q0, q1, q2]) rfl ⟨t4, ?_, HT4.out, ?_⟩
    · rw [HY.out, HT3.out.size, HT4.out.size]
    · exact (((((w2_below w neg HB3.out).setCell (by simp) _).setCell (by simp) _).setCell (by simp) _).setCell (by simp) _).setCell (by simp) _
set_option maxRecDepth 10000 in
set_option maxHeartbeats 800000 in
theorem pd15_zero (s : ByteArray) (l n mant ex wh fr dg dr : List UInt8) (neg fnd : Bool) (ev m : Int) (i : Int) (w : World)
    (hs : Str s l) (hP : Parts l n mant ex wh fr dg dr neg fnd i) (hi : (i = -1 ∧ mant = n ∧ ex = [48]) ∨ (∃ k : Nat, i = k ∧ k < n.length ∧ mant = n.take k ∧ ex = n.drop (k + 1)))
    (h18 : Lib.parseIntB 32 ex = .ok ev) (hev : -2147483648 ≤ ev ∧ ev ≤ 2147483647) (hdg : dg = [])
    (hm : w.cell? ⟨0, 0, none⟩ = some (.int .i64 m)) :
    Calls Tryd.prog 15 #[.string s] w fun e w' => ∃ t, e = .returned (.tuple #[.agg #[.bool false, .string t, .int .i64 0], .bool true]) ∧ Str t [] ∧ Below w.heap.size w w' := by
  have hg5 : 0 < w.heap.size := lt_of_cell hm
  have HP : Hid _ := hP
  have HS : Hid _ := hs
  have H18 : Hid _ := h18
  have HE : Hid _ := hdg
  clear hP hs h18 hdg
  obtain ⟨he1, he2⟩ := hev
  rcases hi with ⟨rfl, hmant, hexp⟩ | ⟨k, rfl, hk, hmant, hexp⟩
  · have HM : Hid (mant = n ∧ ex = [48]) := ⟨hmant, hexp⟩
    clear hmant hexp
    go_enter Tryd.func15, Tryd.ntmps15
    go_wp2_with fail
    refine (cutPrefix16 s l n neg _ HS.out HP.out.h16).mono ?_
    rintro e w1 ⟨t1, rfl, ht1, rfl⟩
    have HT1 : Hid (Str t1 n) := ht1
    clear ht1
    go_wp2_with fail
    refine (indexAny17 t1 n _ _ HT1.out HP.out.h17 (by have := HP.out.hn; omega) HP.out.ha).mono ?_
    rintro e w1 ⟨rfl, hb1⟩
    have HB1 : Hid (Below (w.heap.size + 2) (W2 w neg) w1) := by rw [w2_size] at hb1; exact hb1
    clear hb1
    go_wp2_with fail
    refine (parseInt18_ok _ ex ev _ (by rw [HM.out.2]; rfl) (by have := HP.out.hex; omega) H18.out).mono ?_
    rintro e w2 ⟨rfl, hb2⟩
    have HB2 : Hid (Below (w.heap.size + 2) (W2 w neg) w2) := HB1.out.trans (hb2.mono (by have := HB1.out.size; rw [w2_size] at this; omega))
    clear hb2 HB1
    go_wp2_with fail
    refine (cut19 _ mant wh fr fnd m _ (by rw [HM.out.1]; exact HT1.out) (by have := HP.out.hma; omega) HP.out.h19 (by rw [w2_old w neg HB2.out 0 0 hg5]; exact hm)).mono ?_
    rintro e w3 ⟨x, y, rfl, hx, hy, hb3⟩
    have HB3 : Hid (Below (w.heap.size + 2) (W2 w neg) w3) := HB2.out.trans (hb3.mono (by have := HB2.out.size; rw [w2_size] at this; omega))
    have hxy : x.size + y.size < 4000000 := by have := HP.out.hwf; rw [hx.size, hy.size]; exact this
    have HXY : Hid (Str (x ++ y) (wh ++ fr)) := hx.app hy
    have HY : Hid (y.size = fr.length) := hy.size
    clear hb3 hx hy HB2
    go_wp2_with fail
    refine (trimLeft20 _ _ dg _ HXY.out HP.out.h20).mono ?_
    rintro e w4 ⟨t3, rfl, ht3, rfl⟩
    have hne : t3.toList.isEmpty = true := by rw [ht3.empty, HE.out]; rfl
    have ht3s : t3.size < 4000000 := by rw [ht3.size]; exact HP.out.hdg
    have HT3 : Hid (Str t3 dg) := ht3
    clear ht3
    obtain ⟨⟨q0, q1, q2⟩, ⟨r0, r1, r2⟩, f0, f1⟩ := w2_cells w neg HB3.out
    go_wp2
    refine bodyPost_ret (v := .tuple #[.agg #[.bool false, .string ⟨#[]⟩, .int .i64 0], .bool true]) (by simp [results, Tryd.results15, go_sem, q0, q1, q2]) rfl ⟨⟨#[]⟩, rfl, rfl, ?_⟩
    exact (((w2_below w neg HB3.out).setCell (by simp) _).setCell (by simp) _).setCell (by simp) _
  · have HM : Hid (mant = n.take k ∧ ex = n.drop (k + 1)) := ⟨hmant, hexp⟩
    clear hmant hexp
    go_enter Tryd.func15, Tryd.ntmps15
    go_wp2_with fail
    refine (cutPrefix16 s l n neg _ HS.out HP.out.h16).mono ?_
    rintro e w1 ⟨t1, rfl, ht1, rfl⟩
    have hk1 : k < t1.size := by rw [ht1.size]; exact hk
    have ht1s : t1.size < 4000000 := by rw [ht1.size]; exact HP.out.hn
    have HT1 : Hid (Str t1 n) := ht1
    clear ht1
    go_wp2_with fail
    refine (indexAny17 t1 n _ _ HT1.out HP.out.h17 (by have := HP.out.hn; omega) HP.out.ha).mono ?_
    rintro e w1 ⟨rfl, hb1⟩
    have HB1 : Hid (Below (w.heap.size + 2) (W2 w neg) w1) := by rw [w2_size] at hb1; exact hb1
    clear hb1
    go_wp2_with fail
    go_region
    have HBd : Hid (Below (w.heap.size + 2) (W2 w neg) w1.drew) := HB1.out.drew
    clear HB1
    generalize w1.drew = wd at HBd ⊢
    go_wp2_with fail
    refine (parseInt18_ok _ ex ev _ (by rw [HM.out.2]; exact HT1.out.extR (k + 1)) (by have := HP.out.hex; omega) H18.out).mono ?_
    rintro e w2 ⟨rfl, hb2⟩
    have HB2 : Hid (Below (w.heap.size + 2) (W2 w neg) w2) := HBd.out.trans (hb2.mono (by have := HBd.out.size; rw [w2_size] at this; omega))
    clear hb2 HBd
    go_wp2_with fail
    refine (cut19 _ mant wh fr fnd m _ (by rw [HM.out.1]; exact HT1.out.ext0 k) (by have := HP.out.hma; omega) HP.out.h19 (by rw [w2_old w neg HB2.out 0 0 hg5]; exact hm)).mono ?_
    rintro e w3 ⟨x, y, rfl, hx, hy, hb3⟩
    have HB3 : Hid (Below (w.heap.size + 2) (W2 w neg) w3) := HB2.out.trans (hb3.mono (by have := HB2.out.size; rw [w2_size] at this; omega))
    have hxy : x.size + y.size < 4000000 := by have := HP.out.hwf; rw [hx.size, hy.size]; exact this
    have HXY : Hid (Str (x ++ y) (wh ++ fr)) := hx.app hy
    have HY : Hid (y.size = fr.length) := hy.size
    clear hb3 hx hy HB2
    go_wp2_with fail
    refine (trimLeft20 _ _ dg _ HXY.out HP.out.h20).mono ?_
    rintro e w4 ⟨t3, rfl, ht3, rfl⟩
    have hne : t3.toList.isEmpty = true := by rw [ht3.empty, HE.out]; rfl
    have ht3s : t3.size < 4000000 := by rw [ht3.size]; exact HP.out.hdg
    have HT3 : Hid (Str t3 dg) := ht3
    clear ht3
    obtain ⟨⟨q0, q1, q2⟩, ⟨r0, r1, r2⟩, f0, f1⟩ := w2_cells w neg HB3.out
    go_wp2
    refine bodyPost_ret (v := .tuple #[.agg #[.bool false, .string ⟨#[]⟩, .int .i64 0], .bool true]) (by simp [results, Tryd.results15, go_sem, q0, q1, q2]) rfl ⟨⟨#[]⟩, rfl, rfl, ?_⟩
    exact (((w2_below w neg HB3.out).setCell (by simp) _).setCell (by simp) _).setCell (by simp) _

set_option maxRecDepth 10000 in
set_option maxHeartbeats 800000 in
theorem pd15_range (s : ByteArray) (l n mant ex wh fr dg dr : List UInt8) (neg fnd : Bool) (i : Int) (w : World)
    (hs : Str s l) (hP : Parts l n mant ex wh fr dg dr neg fnd i) (k : Nat) (hi : i = k ∧ k < n.length ∧ mant = n.take k ∧ ex = n.drop (k + 1))
    (h18 : Lib.parseIntB 32 ex = .range) (ve : Value) (hve : w.cell? ⟨2, 0, none⟩ = some ve) (hev : ve = .nilIface ∨ ∃ te pe, ve = .iface te pe) :
    Calls Tryd.prog 15 #[.string s] w fun e w' => ∃ t, e = .returned (.tuple #[.agg #[.bool false, .string t, .int .i64 0], .bool false]) ∧ Str t [] ∧ Below w.heap.size w w' := by
  have hg5 : 2 < w.heap.size := lt_of_cell hve
  have HP : Hid _ := hP
  have HS : Hid _ := hs
  have H18 : Hid _ := h18
  have HV : Hid _ := hev
  clear hP hs h18 hev
  obtain ⟨rfl, hk, hmant, hexp⟩ := hi
  have HM : Hid (mant = n.take k ∧ ex = n.drop (k + 1)) := ⟨hmant, hexp⟩
  clear hmant hexp
  go_enter Tryd.func15, Tryd.ntmps15
  go_wp2_with fail
  refine (cutPrefix16 s l n neg _ HS.out HP.out.h16).mono ?_
  rintro e w1 ⟨t1, rfl, ht1, rfl⟩
  have hk1 : k < t1.size := by rw [ht1.size]; exact hk
  have ht1s : t1.size < 4000000 := by rw [ht1.size]; exact HP.out.hn
  have HT1 : Hid (Str t1 n) := ht1
  clear ht1
  go_wp2_with fail
  refine (indexAny17 t1 n _ _ HT1.out HP.out.h17 (by have := HP.out.hn; omega) HP.out.ha).mono ?_
  rintro e w1 ⟨rfl, hb1⟩
  have HB1 : Hid (Below (w.heap.size + 2) (W2 w neg) w1) := by rw [w2_size] at hb1; exact hb1
  clear hb1
  go_wp2_with fail
  go_region
  have HBd : Hid (Below (w.heap.size + 2) (W2 w neg) w1.drew) := HB1.out.drew
  clear HB1
  generalize w1.drew = wd at HBd ⊢
  go_wp2_with fail
  refine (parseInt18_range _ ex ve _ (by rw [HM.out.2]; exact HT1.out.extR (k + 1)) (by have := HP.out.hex; omega) H18.out (by rw [w2_old w neg HBd.out 2 0 hg5]; exact hve) HV.out).mono ?_
  rintro e w2 ⟨⟨N, x, rfl⟩, hb2⟩
  have HB2 : Hid (Below (w.heap.size + 2) (W2 w neg) w2) := HBd.out.trans (hb2.mono (by have := HBd.out.size; rw [w2_size] at this; omega))
  clear hb2 HBd
  obtain ⟨⟨q0, q1, q2⟩, ⟨r0, r1, r2⟩, f0, f1⟩ := w2_cells w neg HB2.out
  go_wp2
  refine bodyPost_ret (v := .tuple #[.agg #[.bool false, .string ⟨#[]⟩, .int .i64 0], .bool false]) (by simp [results, Tryd.results15, go_sem, q0, q1, q2]) rfl ⟨⟨#[]⟩, rfl, rfl, ?_⟩
  exact (((w2_below w neg HB2.out).setCell (by simp) _).setCell (by simp) _).setCell (by simp) _

/-- What a parse gives: the four values. -/
def Gives4 (w : World) (nb ok : Bool) (x : Int) (dl : List UInt8) (e : Ending) (w' : World) : Prop :=
  ∃ t, e = .returned (.tuple #[.bool nb, .string t, .int .i64 x, .bool ok]) ∧ Str t dl ∧ Below w.heap.size w w'
def Gives15 (w : World) (nb ok : Bool) (x : Int) (dl : List UInt8) (e : Ending) (w' : World) : Prop :=
  ∃ t, e = .returned (.tuple #[.agg #[.bool nb, .string t, .int .i64 x], .bool ok]) ∧ Str t dl ∧ Below w.heap.size w w'

set_option maxRecDepth 10000 in
set_option maxHeartbeats 800000 in
theorem zz11 (s : ByteArray) (w : World) (nb ok : Bool) (x : Int) (dl : List UInt8)
    (h15 : Calls Tryd.prog 15 #[.string s] w (Gives15 w nb ok x dl)) :
    Calls Tryd.prog 11 #[.string s] w (Gives4 w nb ok x dl) := by
  have H15 : Hid (Calls Tryd.prog 15 #[.string s] w (Gives15 w nb ok x dl)) := h15
  clear h15
  go_enter Tryd.func11, Tryd.ntmps11
  go_wp2_with fail
  refine H15.out.mono ?_
  rintro e w1 ⟨t, rfl, ht, hb⟩
  have HT : Hid (Str t dl) := ht
  clear ht
  go_wp2_with fail
  go_region
  go_wp2
  refine bodyPost_ret (v := .tuple #[.bool nb, .string t, .int .i64 x, .bool ok]) (by simp [results, Tryd.results11, go_sem]) rfl ⟨t, rfl, HT.out, ?_⟩
  exact (hb.alloc hb.size _).drew

end Go.Proofs.Qxb6600640aDoor
