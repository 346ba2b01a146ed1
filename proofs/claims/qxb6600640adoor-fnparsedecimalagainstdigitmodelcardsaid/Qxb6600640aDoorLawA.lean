/-
  THE WALK OF FnParseDecimalAgainstDigitModel (function 3).
-/
import Derived.Test.Qxb6600640aDoorLawA0
import Derived.Deep.DeepCutAuto
namespace Go.Proofs.Qxb6600640aDoor
open Go Go.RowKit

theorem one_size (c : UInt8) : (⟨#[c]⟩ : ByteArray).size = 1 := rfl

theorem str_cat (a b : ByteArray) : Str (a ++ b) (a.data.toList ++ b.data.toList) := Str.app rfl rfl
theorem mant_true {t : ByteArray} (sg wh fr : List UInt8) (h : Str t (((sg ++ wh) ++ [46]) ++ fr)) : Hid (Str t (sg ++ mantB true wh fr)) := by
  show Str t _
  simpa [mantB, List.append_assoc] using h
theorem text_noexp {t : ByteArray} (b0 b2 : Bool) (c : UInt8) (b6 : Bool) (pad : Nat) (wh fr : List UInt8) (e : Int) (h : Str t ((if b0 then [45] else []) ++ mantB b2 wh fr)) : Hid (Str t (textB b0 b2 false c b6 pad wh fr e)) := by
  show Str t _
  simpa [textB, xpB] using h
theorem text_exp {t : ByteArray} (b0 b2 : Bool) (c : UInt8) (b6 : Bool) (pad : Nat) (wh fr : List UInt8) (e : Int) (h : Str t ((((((if b0 then [45] else []) ++ mantB b2 wh fr) ++ [c]) ++ Pl.signB b6 e) ++ Pl.zeros pad) ++ Pl.utoa e.natAbs)) : Hid (Str t (textB b0 b2 true c b6 pad wh fr e)) := by
  show Str t _
  simpa [textB, xpB, Pl.expB, List.append_assoc] using h

/-- What the parse gives where the exponent lies within int32. -/
def Res (neg : Bool) (M : List UInt8) (nf : Nat) (e : Int) (nb : Bool) (t : ByteArray) (x : Int) : Prop :=
  (Lib.trimLeftB M 48 = [] ∧ nb = false ∧ Str t [] ∧ x = 0) ∨
  (Lib.trimLeftB M 48 ≠ [] ∧ nb = neg ∧ Str t (Lib.trimRightB (Lib.trimLeftB M 48) 48) ∧ x = e - nf + ((Lib.trimLeftB M 48).length - (Lib.trimRightB (Lib.trimLeftB M 48) 48).length))
theorem text_in (s : ByteArray) (neg pt hx : Bool) (c : UInt8) (plus : Bool) (pad : Nat) (wh fr : List UInt8) (e m : Int) (w : World)
    (hs : Str s (textB neg pt hx c plus pad wh fr e)) (hw : Pl.allD wh = true) (hf : Pl.allD fr = true) (hpt : pt = false → fr = []) (hc : c = 101 ∨ c = 69) (hpad : pad ≤ 255) (hlen : wh.length + fr.length ≤ 2000000)
    (h0 : hx = false → e = 0) (he : -2147483648 ≤ e ∧ e ≤ 2147483647) (hm : w.cell? ⟨0, 0, none⟩ = some (.int .i64 m)) :
    Calls Tryd.prog 11 #[.string s] w fun e' w' => ∃ nb t x, e' = .returned (.tuple #[.bool nb, .string t, .int .i64 x, .bool true]) ∧ Hid (Res neg (wh ++ fr) fr.length e nb t x) ∧ Below w.heap.size w w' := by
  by_cases hz : Lib.trimLeftB (wh ++ fr) 48 = []
  · refine (text_zero s neg pt hx c plus pad wh fr e m w hs hw hf hpt hc hpad hlen h0 he hz hm).mono ?_
    rintro e' w' ⟨t, rfl, ht, hb⟩
    exact ⟨_, _, _, rfl, (Or.inl ⟨hz, rfl, ht, rfl⟩ : Res _ _ _ _ _ _ _), hb⟩
  · refine (text_val s neg pt hx c plus pad wh fr e m w hs hw hf hpt hc hpad hlen h0 he hz hm).mono ?_
    rintro e' w' ⟨t, rfl, ht, hb⟩
    exact ⟨_, _, _, rfl, (Or.inr ⟨hz, rfl, ht, rfl⟩ : Res _ _ _ _ _ _ _), hb⟩

set_option maxRecDepth 10000 in
set_option maxHeartbeats 2000000 in
theorem law3_good (b0 b2 b4 b5 b6 : Bool) (whole frac : ByteArray) (pad : Nat) (exp : Int) (w : World) (m : Int) (ve : Value) (hsum : whole.size + frac.size ≤ 1048576)
    (hw : Pl.allD whole.data.toList = true) (hf : Pl.allD frac.data.toList = true) (hpad : pad ≤ 255) (hlo : -9223372036854775808 ≤ exp) (hhi : exp ≤ 9223372036854775807)
    (hm : w.cell? ⟨0, 0, none⟩ = some (.int .i64 m)) (hve : w.cell? ⟨2, 0, none⟩ = some ve) (hev : ve = .nilIface ∨ ∃ te pe, ve = .iface te pe) :
    Calls Tryd.prog 3 #[.bool b0, .string whole, .bool b2, .string frac, .bool b4, .bool b5, .bool b6, .int .u8 pad, .int .i64 exp] w fun e w' => e = .returned (.bool true) ∧ Below w.heap.size w w' := by
  have h1 : whole.size ≤ 1048576 := by omega
  have h2 : frac.size ≤ 1048576 := by omega
  have HV : Hid _ := hev
  clear hev
  go_enter Tryd.func3, Tryd.ntmps3
  go_wp2_with fail
  refine (bytes6 b0 b2 b4 b5 b6 whole frac pad exp _ (by unfold maxLen; omega) (by unfold maxLen; omega)).mono ?_
  rintro e w1 ⟨⟨b, rfl, hb⟩, hw1⟩
  obtain rfl : w = w1 := hw1.symm
  obtain rfl : b = true := hb.2 hsum
  clear hb
  go_wp2_with fail
  refine (digits7 whole _ h1).mono ?_
  rintro e w1 ⟨rfl, hw1⟩
  obtain rfl : w = w1 := hw1.symm
  go_wp2_with fail
  refine (digits7 frac _ h2).mono ?_
  rintro e w1 ⟨rfl, hw1⟩
  obtain rfl : w = w1 := hw1.symm
  have HW : Hid _ := hw
  have HF : Hid _ := hf
  go_upto_if 65 with fail
  clear hw hf
  go_cut [3] (fun s3 wx => w = wx ∧ ∃ fr : ByteArray, s3 = .string fr ∧ fr = (if b2 then frac else ⟨#[]⟩))
  case first =>
    as_aux_lemma =>
      cases b2
      all_goals
        go_wp2
        go_meet
        case rel => exact ⟨rfl, _, rfl, rfl⟩
  case rest =>
    as_aux_lemma =>
      obtain ⟨rfl, fr, rfl, hfr⟩ := hcut
      have HFR : Hid (fr = (if b2 then frac else ⟨#[]⟩)) := hfr
      clear hfr
      go_upto_if 67 with fail
      go_cut [8] (fun s8 wx => w = wx ∧ ∃ ex : Int, s8 = .int .i64 ex ∧ ex = (if b4 then exp else 0))
      case first =>
        as_aux_lemma =>
          cases b4
          all_goals
            go_wp2
            go_meet
            case rel => exact ⟨rfl, _, rfl, rfl⟩
      case rest =>
        as_aux_lemma =>
          obtain ⟨rfl, ex, rfl, hex⟩ := hcut
          have hx1 : -9223372036854775808 ≤ ex := by rw [hex]; split <;> omega
          have hx2 : ex ≤ 9223372036854775807 := by rw [hex]; split <;> omega
          have HEX : Hid (ex = (if b4 then exp else 0)) := hex
          clear hex
          have hfs : fr.size ≤ 1048576 := by rw [HFR.out]; split; exact h2; exact Nat.zero_le _
          go_upto_if 68 with fail
          go_cut [19] (fun s19 wx => w = wx ∧ ∃ T : ByteArray, s19 = .string T ∧ T.size ≤ 1 ∧ Hid (Str T (if b0 then [45] else [])))
          case first =>
            as_aux_lemma =>
              cases b0
              all_goals
                go_wp2
                go_meet
                case rel => exact ⟨rfl, _, rfl, by decide, (rfl : Str _ _)⟩
          case rest =>
            as_aux_lemma =>
              obtain ⟨rfl, T, rfl, hT, HT⟩ := hcut
              go_upto_if 72 with fail
              go_cut [19] (fun s19 wx => w = wx ∧ ∃ T : ByteArray, s19 = .string T ∧ T.size ≤ 2097160 ∧ Hid (Str T ((if b0 then [45] else []) ++ mantB b2 whole.data.toList fr.data.toList)))
              case first =>
                as_aux_lemma =>
                  cases b2
                  · go_wp2
                    go_meet
                    case rel => exact ⟨rfl, _, rfl, by have := HT.out; simp; omega, HT.out.app (rfl : Str whole _)⟩
                  · go_wp2
                    go_meet
                    case rel => exact ⟨rfl, _, rfl, by simp [one_size]; omega, mant_true _ _ _ (((HT.out.app (rfl : Str whole _)).app (Str.mk [46])).app (rfl : Str fr _))⟩
              case rest =>
                as_aux_lemma =>
                  clear HT hT T
                  obtain ⟨rfl, T, rfl, hT, HT⟩ := hcut
                  go_upto_if 77 with fail
                  go_cut [19] (fun s19 wx => Below w.heap.size w wx ∧ ∃ T : ByteArray, s19 = .string T ∧ Hid (Str T (textB b0 b2 b4 (if b5 then 69 else 101) b6 pad whole.data.toList fr.data.toList ex)))
                  case first =>
                    as_aux_lemma =>
                      cases b4
                      · go_wp2
                        go_meet
                        case rel => exact ⟨Below.refl _ _, _, rfl, text_noexp _ _ _ _ _ _ _ _ HT.out⟩
                      · go_upto_if 78 with fail
                        go_cut [19] (fun s19 wx => w = wx ∧ ∃ T : ByteArray, s19 = .string T ∧ T.size ≤ 2097161 ∧ Hid (Str T (((if b0 then [45] else []) ++ mantB b2 whole.data.toList fr.data.toList) ++ [if b5 then 69 else 101])))
                        case first =>
                          as_aux_lemma =>
                            cases b5
                            all_goals
                              go_wp2
                              go_meet
                              case rel => exact ⟨rfl, _, rfl, by simp [one_size]; omega, HT.out.app (Str.mk [_])⟩
                        case rest =>
                          as_aux_lemma =>
                            clear HT hT T
                            obtain ⟨rfl, T, rfl, hT, HT⟩ := hcut
                            go_upto_if 84 with fail
                            go_cut [19] (fun s19 wx => w = wx ∧ ∃ T : ByteArray, s19 = .string T ∧ T.size ≤ 2097162 ∧ Hid (Str T ((((if b0 then [45] else []) ++ mantB b2 whole.data.toList fr.data.toList) ++ [if b5 then 69 else 101]) ++ Pl.signB b6 ex)))
                            case first =>
                              as_aux_lemma =>
                                by_cases hneg : ex < 0
                                · go_wp2
                                  go_meet
                                  case rel => exact ⟨rfl, _, rfl, by simp [one_size]; omega, by rw [show Pl.signB b6 ex = [45] by simp [Pl.signB, hneg]]; exact HT.out.app (Str.mk [45])⟩
                                · cases b6
                                  · go_wp2
                                    go_meet
                                    case rel => exact ⟨rfl, _, rfl, by omega, by rw [show Pl.signB false ex = [] by simp [Pl.signB]; omega, List.append_nil]; exact HT.out⟩
                                  · go_wp2
                                    go_meet
                                    case rel => exact ⟨rfl, _, rfl, by simp [one_size]; omega, by rw [show Pl.signB true ex = [43] by simp [Pl.signB]; omega]; exact HT.out.app (Str.mk [43])⟩
                            case rest =>
                              as_aux_lemma =>
                                clear HT hT T
                                obtain ⟨rfl, T, rfl, hT, HT⟩ := hcut
                                go_wp2_with fail
                                refine (zeros8s pad _ hpad).mono ?_
                                rintro e w1 ⟨Z, rfl, hZ, hZs, hb1⟩
                                have HZ : Hid (Str Z (Pl.zeros pad)) := hZ
                                have HB1 : Hid (Below w.heap.size w w1) := hb1
                                clear hZ hb1
                                go_wp2_with fail
                                refine (mag10 ex _ hx1 hx2).mono ?_
                                rintro e w2 ⟨rfl, hw2⟩
                                obtain rfl : w1 = w2 := hw2.symm
                                go_wp2_with fail
                                refine (utoa9s ex.natAbs _ (by omega)).mono ?_
                                rintro e w2 ⟨U, rfl, hU, hUs, hb2⟩
                                have HU : Hid (Str U (Pl.utoa ex.natAbs)) := hU
                                have HB2 : Hid (Below w.heap.size w w2) := HB1.out.trans (hb2.mono HB1.out.size)
                                clear hU hb2 HB1
                                go_wp2
                                go_meet
                                case rel => exact ⟨HB2.out, _, rfl, text_exp _ _ _ _ _ _ _ _ ((HT.out.app HZ.out).app HU.out)⟩
                  case rest =>
                    as_aux_lemma =>
                      clear HT hT T
                      obtain ⟨hbc, T, rfl, HT⟩ := hcut
                      have HBC : Hid (Below w.heap.size w wc) := hbc
                      clear hbc
                      have HX0 : Hid (b4 = false → ex = 0) := fun h => by rw [HEX.out, h]; rfl
                      have HP0 : Hid (b2 = false → fr.data.toList = []) := fun h => by rw [HFR.out, h]; rfl
                      have HFD : Hid (Pl.allD fr.data.toList = true) := by
                        show _ = _
                        rw [HFR.out]; split
                        · exact HF.out
                        · rfl
                      have HC : Hid ((if b5 then (69 : UInt8) else 101) = 101 ∨ (if b5 then (69 : UInt8) else 101) = 69) := by
                        show _ ∨ _
                        cases b5 <;> simp
                      have HL : Hid (whole.data.toList.length + fr.data.toList.length ≤ 2000000) := by
                        show _ ≤ _
                        rw [← Lib.size_eq, ← Lib.size_eq, HFR.out]; split
                        · omega
                        · have : (⟨#[]⟩ : ByteArray).size = 0 := rfl
                          omega
                      have hmc : wc.cell? ⟨0, 0, none⟩ = some (.int .i64 m) := by rw [HBC.out.cell (p := ⟨0, 0, none⟩) (lt_of_cell hm)]; exact hm
                      have hvc : wc.cell? ⟨2, 0, none⟩ = some ve := by rw [HBC.out.cell (p := ⟨2, 0, none⟩) (lt_of_cell hve)]; exact hve
                      by_cases hin : -2147483648 ≤ ex ∧ ex ≤ 2147483647
                      · obtain ⟨hin1, hin2⟩ := hin
                        go_wp2_with fail
                        refine (text_in T b0 b2 b4 _ b6 pad whole.data.toList fr.data.toList ex m wc HT.out HW.out HFD.out HP0.out HC.out hpad HL.out HX0.out ⟨hin1, hin2⟩ hmc).mono ?_
                        rintro e w2 ⟨nb, t, x, rfl, HR, hb2⟩
                        have HB2 : Hid (Below w.heap.size w w2) := HBC.out.trans (hb2.mono HBC.out.size)
                        have HM : Hid (Str (whole ++ fr) (whole.data.toList ++ fr.data.toList)) := str_cat whole fr
                        have hms : (whole ++ fr).size = whole.size + fr.size := by simp
                        clear hb2 HT HW HFD HP0 HC HX0 hmc hvc HBC HV HFR HEX HF
                        go_wp2_with fail
                        generalize whole ++ fr = mt at HM hms ⊢
                        go_loop [25, 26, 27] (fun f l i => ∃ (k : Nat) (fi li : Int), k ≤ mt.size ∧ f = .int .i64 fi ∧ l = .int .i64 li ∧ i = .int .i64 k ∧ -1 ≤ fi ∧ fi ≤ k ∧ -1 ≤ li ∧ li ≤ k ∧ Hid (Pl.Scan (whole.data.toList ++ fr.data.toList) k fi li)) (fun _ _ i => mt.size - (intOf i).toNat)
                        case atStart => exact ⟨0, -1, -1, Nat.zero_le _, rfl, rfl, rfl, by omega, by omega, by omega, by omega, Pl.Scan.zero _⟩
                        case round =>
                          as_aux_lemma =>
                            obtain ⟨k, fi, li, hk, rfl, rfl, rfl, hf1, hf2, hl1, hl2, HSC⟩ := hrel
                            by_cases hlt : k < mt.size
                            · have HG : Hid ((whole.data.toList ++ fr.data.toList)[k]? = some mt[k]) := by
                                show _ = _
                                rw [← (HM.out : mt.data.toList = _)]
                                exact List.getElem?_eq_getElem (by rw [← Lib.size_eq]; exact hlt)
                              by_cases hc : mt[k].toNat = 48
                              · have hcb : ((mt[k].toNat : Int) != 48) = false := by simp; omega
                                have HC : Hid (mt[k] = 48) := UInt8.toNat_inj.1 hc
                                clear hc
                                go_wp2
                                go_round
                                case rel => exact ⟨k + 1, fi, li, by omega, rfl, rfl, by go_num, by omega, by omega, by omega, by omega, HSC.out.step0 (by rw [HG.out, HC.out])⟩
                                case measure => simp [intOf]; omega
                              · have hcb : ((mt[k].toNat : Int) != 48) = true := by simp; omega
                                have HC : Hid (mt[k] ≠ 48) := fun e => hc (by rw [e]; rfl)
                                have HS1 : Hid (Pl.Scan (whole.data.toList ++ fr.data.toList) (k + 1) (if fi < 0 then (k : Int) else fi) k) := HSC.out.step1 (by rw [HG.out]; intro e; exact HC.out (Option.some.inj e))
                                clear hc
                                by_cases hfi : fi < 0
                                · go_wp2
                                  go_round
                                  case rel => exact ⟨k + 1, k, k, by omega, rfl, rfl, by go_num, by omega, by omega, by omega, by omega, by have := HS1.out; rw [if_pos hfi] at this; exact this⟩
                                  case measure => simp [intOf]; omega
                                · go_wp2
                                  go_round
                                  case rel => exact ⟨k + 1, fi, k, by omega, rfl, rfl, by go_num, by omega, by omega, by omega, by omega, by have := HS1.out; rw [if_neg hfi] at this; exact this⟩
                                  case measure => simp [intOf]; omega
                            · obtain rfl : k = mt.size := by omega
                              have HSZ : Hid (mt.size = (whole.data.toList ++ fr.data.toList).length) := HM.out.size
                              have HSC2 : Hid (Pl.Scan (whole.data.toList ++ fr.data.toList) (whole.data.toList ++ fr.data.toList).length fi li) := by
                                have := HSC.out
                                rw [HSZ.out] at this
                                exact this
                              clear HSC
                              by_cases hfi : fi < 0
                              · have hzero := Pl.scan_none HSC2.out hfi
                                rcases HR.out with ⟨_, rfl, ht, rfl⟩ | ⟨hz, _⟩
                                · have he : t.toList.isEmpty = true := ht.empty
                                  clear ht hzero
                                  go_wp2
                                  go_ret
                                  exact ⟨rfl, HB2.out⟩
                                · exact absurd hzero hz
                              · obtain ⟨a, b, rfl, rfl, hab, hbm, hd1, hd2⟩ := Pl.scan_some HSC2.out hfi
                                rcases HR.out with ⟨hz, _⟩ | ⟨_, hnb, ht, hx⟩
                                · rw [hd1] at hz
                                  have := congrArg List.length hz
                                  rw [List.length_drop, List.length_nil] at this
                                  omega
                                · rw [hd1, hd2] at ht hx
                                  have hbs : b < mt.size := by rw [HSZ.out]; exact hbm
                                  have hxe : x = ex - fr.size + (whole.size + fr.size - 1 - b) := by
                                    rw [hx, List.length_drop, List.length_drop, List.length_take, ← HSZ.out, ← Lib.size_eq]
                                    omega
                                  have hdig : (t.toList == (mt.extract a (b + 1)).toList) = true := by
                                    rw [Lib.toList_data, Lib.toList_data, Lib.extract_data, (ht : t.data.toList = _), (HM.out : mt.data.toList = _), List.drop_take]
                                    simp
                                  have hsl : ∀ wx, (Instr.slice 9 (.string mt) (some (.int .i64 (a : Int))) (some (.int .i64 ((b : Int) + 1))) none).run Tryd.prog wx = .ok (.string (mt.extract a (b + 1))) wx := fun wx => by
                                    have h := run_slice_string (P := Tryd.prog) wx 9 mt .i64 .i64 (a : Int) ((b : Int) + 1) Tryd.underlying9 (by omega) (by omega) (by omega)
                                    simpa using h
                                  subst hxe hnb
                                  clear ht hx hd1 hd2 hbm HR
                                  go_wp2
                                  go_ret
                                  exact ⟨rfl, HB2.out⟩
                      · have hout : ex < -2147483648 ∨ 2147483647 < ex := by omega
                        clear hin
                        rcases hout with hout | hout
                        all_goals
                          go_wp2_with fail
                          refine (text_range T b0 b2 b4 _ b6 pad whole.data.toList fr.data.toList ex wc ve HT.out HW.out HFD.out HP0.out HC.out hpad HL.out HX0.out hx1 hx2 (by omega) hvc HV.out).mono ?_
                          rintro e w2 ⟨t, rfl, ht, hb2⟩
                          have he : t.toList.isEmpty = true := ht.empty
                          have HB2 : Hid (Below w.heap.size w w2) := HBC.out.trans (hb2.mono HBC.out.size)
                          clear ht hb2
                          go_wp2
                          go_ret
                          exact ⟨rfl, HB2.out⟩
end Go.Proofs.Qxb6600640aDoor
