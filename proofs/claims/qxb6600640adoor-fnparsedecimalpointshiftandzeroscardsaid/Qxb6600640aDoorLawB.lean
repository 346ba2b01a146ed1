/-
  THE WALK OF FnParseDecimalPointShiftAndZeros (function 4).
-/
import Derived.Test.Qxb6600640aDoorText
namespace Go.Proofs.Qxb6600640aDoor.LB
open Go Go.RowKit Go.Proofs.Qxb6600640aDoor

theorem left_zeros (a : Nat) (l : List UInt8) : Lib.trimLeftB (Pl.zeros a ++ l) 48 = Lib.trimLeftB l 48 := by
  induction a with
  | zero => rfl
  | succ n ih =>
    have e : Pl.zeros (n + 1) = 48 :: Pl.zeros n := rfl
    rw [e, List.cons_append]
    unfold Lib.trimLeftB at *
    rw [List.dropWhile_cons_of_pos (by decide)]
    exact ih
theorem left_app_zero (l : List UInt8) (b : Nat) (h : Lib.trimLeftB l 48 = []) : Lib.trimLeftB (l ++ Pl.zeros b) 48 = [] := by
  have h0 : Lib.trimLeftB (Pl.zeros b) 48 = [] := by have := left_zeros b []; rw [List.append_nil] at this; exact this
  unfold Lib.trimLeftB at *
  rw [List.dropWhile_append, h, h0]
  rfl
theorem left_app_some (l : List UInt8) (b : Nat) (h : Lib.trimLeftB l 48 ≠ []) : Lib.trimLeftB (l ++ Pl.zeros b) 48 = Lib.trimLeftB l 48 ++ Pl.zeros b := by
  unfold Lib.trimLeftB at *
  rw [List.dropWhile_append, if_neg]
  intro e
  exact h (List.isEmpty_iff.1 e)
theorem right_zeros (l : List UInt8) (b : Nat) : Lib.trimRightB (l ++ Pl.zeros b) 48 = Lib.trimRightB l 48 := by
  unfold Lib.trimRightB
  have e : (l ++ Pl.zeros b).reverse = Pl.zeros b ++ l.reverse := by simp [Pl.zeros]
  rw [e]
  have := left_zeros b l.reverse
  unfold Lib.trimLeftB at this
  rw [this]

/-- What the parse gives where the exponent lies within int32. -/
def Res (M : List UInt8) (nf : Nat) (e : Int) (nb : Bool) (t : ByteArray) (x : Int) : Prop :=
  nb = false ∧ ((Lib.trimLeftB M 48 = [] ∧ Str t [] ∧ x = 0) ∨
  (Lib.trimLeftB M 48 ≠ [] ∧ Str t (Lib.trimRightB (Lib.trimLeftB M 48) 48) ∧ x = e - nf + ((Lib.trimLeftB M 48).length - (Lib.trimRightB (Lib.trimLeftB M 48) 48).length)))
theorem text_in (s : ByteArray) (pt : Bool) (wh fr : List UInt8) (e m : Int) (w : World)
    (hs : Str s (textB false pt true 101 false 0 wh fr e)) (hw : Pl.allD wh = true) (hf : Pl.allD fr = true) (hpt : pt = false → fr = []) (hlen : wh.length + fr.length ≤ 2000000)
    (he : -2147483648 ≤ e ∧ e ≤ 2147483647) (hm : w.cell? ⟨0, 0, none⟩ = some (.int .i64 m)) :
    Calls Tryd.prog 11 #[.string s] w fun e' w' => ∃ nb t x, e' = .returned (.tuple #[.bool nb, .string t, .int .i64 x, .bool true]) ∧ Hid (Res (wh ++ fr) fr.length e nb t x) ∧ Below w.heap.size w w' := by
  by_cases hz : Lib.trimLeftB (wh ++ fr) 48 = []
  · refine (text_zero s false pt true 101 false 0 wh fr e m w hs hw hf hpt (Or.inl rfl) (by omega) hlen (fun h => by cases h) he hz hm).mono ?_
    rintro e' w' ⟨t, rfl, ht, hb⟩
    exact ⟨_, _, _, rfl, (⟨rfl, Or.inl ⟨hz, ht, rfl⟩⟩ : Res _ _ _ _ _ _), hb⟩
  · refine (text_val s false pt true 101 false 0 wh fr e m w hs hw hf hpt (Or.inl rfl) (by omega) hlen (fun h => by cases h) he hz hm).mono ?_
    rintro e' w' ⟨t, rfl, ht, hb⟩
    exact ⟨_, _, _, rfl, (⟨rfl, Or.inr ⟨hz, ht, rfl⟩⟩ : Res _ _ _ _ _ _), hb⟩

/-- THE PLAIN LAW: both parses give one and the same. -/
theorem same (wh fr : List UInt8) (a b : Nat) (e : Int) {nb1 nb2 : Bool} {t1 t2 : ByteArray} {x1 x2 : Int}
    (h1 : Res ((Pl.zeros a ++ wh) ++ (fr ++ Pl.zeros b)) (fr ++ Pl.zeros b).length e nb1 t1 x1) (h2 : Res ((wh ++ fr) ++ []) ([] : List UInt8).length (e - fr.length) nb2 t2 x2) :
    nb1 = false ∧ nb2 = false ∧ t1.data.toList = t2.data.toList ∧ x1 = x2 := by
  have eM : (Pl.zeros a ++ wh) ++ (fr ++ Pl.zeros b) = Pl.zeros a ++ ((wh ++ fr) ++ Pl.zeros b) := by simp
  obtain ⟨e1, h1⟩ := h1
  obtain ⟨e2, h2⟩ := h2
  rw [eM, left_zeros] at h1
  rw [List.append_nil] at h2
  refine ⟨e1, e2, ?_⟩
  by_cases hz : Lib.trimLeftB (wh ++ fr) 48 = []
  · have hz1 := left_app_zero (wh ++ fr) b hz
    rcases h1 with ⟨_, ht1, hx1⟩ | ⟨hn, _⟩
    · rcases h2 with ⟨_, ht2, hx2⟩ | ⟨hn, _⟩
      · exact ⟨ht1.trans ht2.symm, hx1.trans hx2.symm⟩
      · exact absurd hz hn
    · exact absurd hz1 hn
  · have hz1 := left_app_some (wh ++ fr) b hz
    rw [hz1] at h1
    rcases h1 with ⟨hn, _⟩ | ⟨_, ht1, hx1⟩
    · exact absurd (List.append_eq_nil_iff.1 hn).1 hz
    · rcases h2 with ⟨hn, _⟩ | ⟨_, ht2, hx2⟩
      · exact absurd hn hz
      · rw [right_zeros] at ht1 hx1
        refine ⟨ht1.trans ht2.symm, ?_⟩
        rw [hx1, hx2, List.length_append, List.length_append, Pl.zeros_length, List.length_nil]
        omega

set_option maxRecDepth 10000 in
theorem law4_big (whole frac : ByteArray) (a b exp : Int) (w : World) (h1 : whole.size ≤ maxLen) (h2 : frac.size ≤ maxLen) (hbig : ¬ whole.size + frac.size ≤ 1048576) :
    Calls Tryd.prog 4 #[.string whole, .string frac, .int .u8 a, .int .u8 b, .int .i64 exp] w fun e w' => e = .returned (.bool true) ∧ Below w.heap.size w w' := by
  go_enter Tryd.func4, Tryd.ntmps4
  go_wp2_with fail
  refine (bytes12 whole frac a b exp _ h1 h2).mono ?_
  rintro e w1 ⟨⟨b, rfl, hb⟩, rfl⟩
  obtain rfl : b = false := by
    cases b with
    | false => rfl
    | true => exact absurd (hb.1 rfl) hbig
  clear hb
  go_wp2
  go_ret
  exact ⟨rfl, Below.refl _ _⟩

set_option maxRecDepth 10000 in
theorem law4_bad (whole frac : ByteArray) (a b exp : Int) (w : World) (hsum : whole.size + frac.size ≤ 1048576) (hbad : Pl.allD whole.data.toList = false ∨ (Pl.allD whole.data.toList = true ∧ Pl.allD frac.data.toList = false)) :
    Calls Tryd.prog 4 #[.string whole, .string frac, .int .u8 a, .int .u8 b, .int .i64 exp] w fun e w' => e = .returned (.bool true) ∧ Below w.heap.size w w' := by
  have h1 : whole.size ≤ 1048576 := by omega
  have h2 : frac.size ≤ 1048576 := by omega
  rcases hbad with hb1 | ⟨hb1, hb2⟩
  · go_enter Tryd.func4, Tryd.ntmps4
    go_wp2_with fail
    refine (bytes12 whole frac a b exp _ (by unfold maxLen; omega) (by unfold maxLen; omega)).mono ?_
    rintro e w1 ⟨⟨b, rfl, hb⟩, rfl⟩
    obtain rfl : b = true := hb.2 hsum
    clear hb
    go_wp2_with fail
    refine (digits7 whole _ h1).mono ?_
    rintro e w1 ⟨rfl, rfl⟩
    go_wp2
    go_ret
    exact ⟨rfl, Below.refl _ _⟩
  · go_enter Tryd.func4, Tryd.ntmps4
    go_wp2_with fail
    refine (bytes12 whole frac a b exp _ (by unfold maxLen; omega) (by unfold maxLen; omega)).mono ?_
    rintro e w1 ⟨⟨b, rfl, hb⟩, rfl⟩
    obtain rfl : b = true := hb.2 hsum
    clear hb
    go_wp2_with fail
    refine (digits7 whole _ h1).mono ?_
    rintro e w1 ⟨rfl, rfl⟩
    go_wp2_with fail
    refine (digits7 frac _ h2).mono ?_
    rintro e w1 ⟨rfl, rfl⟩
    go_wp2
    go_ret
    exact ⟨rfl, Below.refl _ _⟩

set_option maxRecDepth 10000 in
set_option maxHeartbeats 800000 in
theorem law4_far (whole frac : ByteArray) (a b exp : Int) (w : World) (hsum : whole.size + frac.size ≤ 1048576) (hd1 : Pl.allD whole.data.toList = true) (hd2 : Pl.allD frac.data.toList = true)
    (hout : 2147483647 < exp ∨ (exp ≤ 2147483647 ∧ exp < -2147483648 + frac.size)) :
    Calls Tryd.prog 4 #[.string whole, .string frac, .int .u8 a, .int .u8 b, .int .i64 exp] w fun e w' => e = .returned (.bool true) ∧ Below w.heap.size w w' := by
  have h1 : whole.size ≤ 1048576 := by omega
  have h2 : frac.size ≤ 1048576 := by omega
  rcases hout with hout | ⟨hout1, hout2⟩
  all_goals
    go_enter Tryd.func4, Tryd.ntmps4
    go_wp2_with fail
    refine (bytes12 whole frac a b exp _ (by unfold maxLen; omega) (by unfold maxLen; omega)).mono ?_
    rintro e w1 ⟨⟨b, rfl, hb⟩, rfl⟩
    obtain rfl : b = true := hb.2 hsum
    clear hb
    go_wp2_with fail
    refine (digits7 whole _ h1).mono ?_
    rintro e w1 ⟨rfl, rfl⟩
    go_wp2_with fail
    refine (digits7 frac _ h2).mono ?_
    rintro e w1 ⟨rfl, rfl⟩
    go_wp2
    go_ret
    exact ⟨rfl, Below.refl _ _⟩

/-- The two texts. -/
theorem text1 {Z1 Z2 E1 whole frac : ByteArray} {a b : Nat} {e : Int} (h1 : Str Z1 (Pl.zeros a)) (h2 : Str Z2 (Pl.zeros b)) (h3 : Str E1 (Pl.expB false 0 e)) :
    Str (Z1 ++ whole ++ ⟨#[46]⟩ ++ frac ++ Z2 ++ ⟨#[101]⟩ ++ E1) (textB false true true 101 false 0 (Pl.zeros a ++ whole.data.toList) (frac.data.toList ++ Pl.zeros b) e) := by
  have h := (((((h1.app (rfl : Str whole _)).app (Str.mk [46])).app (rfl : Str frac _)).app h2).app (Str.mk [101])).app h3
  simpa [textB, mantB, xpB, List.append_assoc] using h
theorem text2 {E2 whole frac : ByteArray} {e : Int} (h3 : Str E2 (Pl.expB false 0 e)) :
    Str (whole ++ frac ++ ⟨#[101]⟩ ++ E2) (textB false false true 101 false 0 (whole.data.toList ++ frac.data.toList) [] e) := by
  have h12 : Str (whole ++ frac) (whole.data.toList ++ frac.data.toList) := Str.app rfl rfl
  have h := (h12.app (Str.mk [101])).app h3
  simpa [textB, mantB, xpB, List.append_assoc] using h

set_option maxRecDepth 10000 in
set_option maxHeartbeats 2000000 in
theorem law4_good (whole frac : ByteArray) (a b : Nat) (exp : Int) (w : World) (m : Int) (hsum : whole.size + frac.size ≤ 1048576) (hd1 : Pl.allD whole.data.toList = true) (hd2 : Pl.allD frac.data.toList = true)
    (ha : a ≤ 255) (hb : b ≤ 255) (hin1 : exp ≤ 2147483647) (hin2 : -2147483648 + frac.size ≤ exp) (hm : w.cell? ⟨0, 0, none⟩ = some (.int .i64 m)) :
    Calls Tryd.prog 4 #[.string whole, .string frac, .int .u8 a, .int .u8 b, .int .i64 exp] w fun e w' => e = .returned (.bool true) ∧ Below w.heap.size w w' := by
  have h1 : whole.size ≤ 1048576 := by omega
  have h2 : frac.size ≤ 1048576 := by omega
  have hg : 0 < w.heap.size := lt_of_cell hm
  go_enter Tryd.func4, Tryd.ntmps4
  go_wp2_with fail
  refine (bytes12 whole frac a b exp _ (by unfold maxLen; omega) (by unfold maxLen; omega)).mono ?_
  rintro e w1 ⟨⟨bo, rfl, hbo⟩, hw1⟩
  obtain rfl : w = w1 := hw1.symm
  obtain rfl : bo = true := hbo.2 hsum
  clear hbo hw1
  go_wp2_with fail
  refine (digits7 whole _ h1).mono ?_
  rintro e w1 ⟨rfl, hw1⟩
  obtain rfl : w = w1 := hw1.symm
  clear hw1
  go_wp2_with fail
  refine (digits7 frac _ h2).mono ?_
  rintro e w1 ⟨rfl, hw1⟩
  obtain rfl : w = w1 := hw1.symm
  clear hw1
  go_wp2_with fail
  have HD1 : Hid (Pl.allD whole.data.toList = true) := hd1
  have HD2 : Hid (Pl.allD frac.data.toList = true) := hd2
  clear hd1 hd2
  refine (zeros8s a _ ha).mono ?_
  rintro e w1 ⟨Z1, rfl, hZ1, hZ1s, hb1⟩
  have HZ1 : Hid (Str Z1 (Pl.zeros a)) := hZ1
  have HB1 : Hid (Below w.heap.size w w1) := hb1
  clear hZ1 hb1
  go_wp2_with fail
  refine (zeros8s b _ hb).mono ?_
  rintro e w2 ⟨Z2, rfl, hZ2, hZ2s, hb2⟩
  have HZ2 : Hid (Str Z2 (Pl.zeros b)) := hZ2
  have HB2 : Hid (Below w.heap.size w w2) := HB1.out.trans (hb2.mono HB1.out.size)
  clear hZ2 hb2 HB1
  go_wp2_with fail
  refine (itoa13 exp _ (by omega) (by omega)).mono ?_
  rintro e w3 ⟨E1, rfl, hE1, hE1s, hb3⟩
  have HE1 : Hid (Str E1 (Pl.expB false 0 exp)) := hE1
  have HB3 : Hid (Below w.heap.size w w3) := HB2.out.trans (hb3.mono HB2.out.size)
  clear hE1 hb3 HB2
  go_wp2_with fail
  refine (itoa13 _ _ (by omega) (by omega)).mono ?_
  rintro e w4 ⟨E2, rfl, hE2, hE2s, hb4⟩
  have HE2 : Hid (Str E2 (Pl.expB false 0 (exp - frac.size))) := hE2
  have HB4 : Hid (Below w.heap.size w w4) := HB3.out.trans (hb4.mono HB3.out.size)
  clear hE2 hb4 HB3
  go_wp2_with fail
  refine (text_in _ true _ _ exp m _ (text1 HZ1.out HZ2.out HE1.out) (by rw [Pl.allD_append, Pl.allD_zeros, HD1.out]; rfl) (by rw [Pl.allD_append, Pl.allD_zeros, HD2.out]; rfl) (fun h => by cases h)
    (by rw [List.length_append, List.length_append, Pl.zeros_length, Pl.zeros_length, ← Lib.size_eq, ← Lib.size_eq]; omega) ⟨by omega, hin1⟩ (by rw [HB4.out.cell (p := ⟨0, 0, none⟩) hg]; exact hm)).mono ?_
  rintro e w5 ⟨nb1, t1, x1, rfl, HR1, hb5⟩
  have HB5 : Hid (Below w.heap.size w w5) := HB4.out.trans (hb5.mono HB4.out.size)
  clear hb5 HB4
  go_wp2_with fail
  refine (text_in _ false _ _ (exp - frac.size) m _ (text2 HE2.out) (by rw [Pl.allD_append, HD1.out, HD2.out]; rfl) rfl (fun _ => rfl)
    (by rw [List.length_append, List.length_nil, ← Lib.size_eq, ← Lib.size_eq]; omega) ⟨by omega, by omega⟩ (by rw [HB5.out.cell (p := ⟨0, 0, none⟩) hg]; exact hm)).mono ?_
  rintro e w6 ⟨nb2, t2, x2, rfl, HR2, hb6⟩
  have HB6 : Hid (Below w.heap.size w w6) := HB5.out.trans (hb6.mono HB5.out.size)
  clear hb6 HB5
  have HS := same whole.data.toList frac.data.toList a b exp HR1.out (by rw [← Lib.size_eq]; exact HR2.out)
  obtain ⟨rfl, rfl, ht, rfl⟩ := HS
  have hts : (t1.toList == t2.toList) = true := by rw [Lib.toList_data, Lib.toList_data, ht]; simp
  clear ht HR1 HR2
  go_wp2
  go_ret
  exact ⟨rfl, HB6.out⟩
end Go.Proofs.Qxb6600640aDoor.LB
