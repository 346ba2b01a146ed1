/-
  THE WALK OF FnSameDigitsEquivalence (function 4).
-/
import Derived.Test.Qxb6600845aDoorSame
import Derived.Deep.DeepCutAuto
import Derived.WalkSpells
import Derived.Laws.CopyOwn
namespace Go.Proofs.Qxb6600845aDoor
open Go Go.RowKit

set_option maxRecDepth 10000 in
set_option maxHeartbeats 800000 in
theorem bytes10 (pa pb pc : Option Addr) (na nb nc ca cb cc : Nat) (w : World) (ha : na ≤ 9223372036854775807) (hb : nb ≤ 9223372036854775807) (hc : nc ≤ 9223372036854775807) :
    Calls Tryd.prog 10 #[.slice pa na ca, .slice pb nb cb, .slice pc nc cc] w fun e w' => (∃ b : Bool, e = .returned (.bool b) ∧ (b = true ↔ na + nb + nc ≤ 1048576)) ∧ w' = w := by
  by_cases c1 : na ≤ 1048576
  · by_cases c2 : nb ≤ 1048576
    · by_cases c3 : na + nb ≤ 1048576
      · by_cases c4 : nc ≤ 1048576
        · by_cases c5 : na + nb + nc ≤ 1048576
          all_goals
            go_enter Tryd.func10, Tryd.ntmps10
            go_wp2
            go_ret
            exact ⟨⟨_, rfl, by simp; omega⟩, rfl⟩
        · go_enter Tryd.func10, Tryd.ntmps10
          go_wp2
          go_ret
          exact ⟨⟨_, rfl, by simp; omega⟩, rfl⟩
      · go_enter Tryd.func10, Tryd.ntmps10
        go_wp2
        go_ret
        exact ⟨⟨_, rfl, by simp; omega⟩, rfl⟩
    · go_enter Tryd.func10, Tryd.ntmps10
      go_wp2
      go_ret
      exact ⟨⟨_, rfl, by simp; omega⟩, rfl⟩
  · go_enter Tryd.func10, Tryd.ntmps10
    go_wp2
    go_ret
    exact ⟨⟨_, rfl, by simp; omega⟩, rfl⟩

set_option maxRecDepth 10000 in
set_option maxHeartbeats 800000 in
theorem law_early (pa pb pc : Option Addr) (na nb nc ca cb cc : Nat) (w : World) (ha : na ≤ 9223372036854775807) (hb : nb ≤ 9223372036854775807) (hc : nc ≤ 9223372036854775807)
    (hout : ¬ na + nb + nc ≤ 1048576 ∨ (na + nb + nc ≤ 1048576 ∧ 262144 < na) ∨ (na + nb + nc ≤ 1048576 ∧ na ≤ 262144 ∧ 262144 < nb) ∨ (na + nb + nc ≤ 1048576 ∧ na ≤ 262144 ∧ nb ≤ 262144 ∧ 262144 < nc)) :
    Calls Tryd.prog 4 #[.slice pa na ca, .slice pb nb cb, .slice pc nc cc] w fun e w' => e = .returned (.bool true) ∧ Below w.heap.size w w' := by
  rcases hout with h | ⟨h, h1⟩ | ⟨h, h1, h2⟩ | ⟨h, h1, h2, h3⟩
  · go_enter Tryd.func4, Tryd.ntmps4
    go_wp2_with fail
    refine (bytes10 pa pb pc na nb nc ca cb cc _ ha hb hc).mono ?_
    rintro e w1 ⟨⟨b, rfl, hb⟩, rfl⟩
    obtain rfl : b = false := by
      cases b with
      | false => rfl
      | true => exact absurd (hb.1 rfl) h
    clear hb
    go_wp2
    go_ret
    exact ⟨rfl, Below.refl _ _⟩
  all_goals
    go_enter Tryd.func4, Tryd.ntmps4
    go_wp2_with fail
    refine (bytes10 pa pb pc na nb nc ca cb cc _ ha hb hc).mono ?_
    rintro e w1 ⟨⟨b, rfl, hb⟩, rfl⟩
    obtain rfl : b = true := hb.2 h
    clear hb
    go_wp2
    go_ret
    exact ⟨rfl, Below.refl _ _⟩

theorem Tryd.info5 : (Tryd.prog.info? 5).map (fun i => (i.zero, i.size, i.bytes)) = some (some (.int .u8 0), 1, 1) := by kernel_rfl
theorem Tryd.size5 : (Tryd.prog.info? 5).map (·.size) = some 1 := by kernel_rfl

def cells (l : List UInt8) : List Value := l.map fun c => .int .u8 (c.toNat : Int)

theorem own_block {w : World} {B g n cap : Nat} {xs : List Value} (h : w.ownsRow B 5 1 (.slice (some ⟨g, 0, none⟩) n cap) n xs) : ∃ cur : List Value, w.heap[g]? = some (.cells cur.toArray 5 (0, 0)) ∧ cur.length = cap := by
  rcases h.2 with ⟨h', _⟩ | ⟨g', cap', cur, h', _, hg, _, _, hs, _⟩
  · cases h'
  · cases h'
    exact ⟨cur.toList, by simpa using hg, by simpa using hs⟩
theorem cells_at (l : List UInt8) (j : Nat) (h : j < l.length) : (cells l)[j]? = some (.int .u8 ((l.getD j 0).toNat : Int)) := by simp [cells, List.getD, h]
/-- The source of a copy. -/
theorem src_of {w w1 : World} {a : Addr} {n c : Nat} {l : List UInt8} (h : SB w (.slice (some a) n c) l) (hb : Below w.heap.size w w1) : 0 < (cells l).length → ∃ ad, some a = some ad ∧ ∀ j v, (cells l)[j]? = some v → w1.cell? (ad.add j) = some v := fun h0 => by
  obtain ⟨p, n', c', e, hl, _, _, hB⟩ := h
  cases e
  have hn : 0 < n := by rw [← hl]; simpa [cells] using h0
  obtain ⟨b, o, e, hc⟩ := hB hn
  cases e
  refine ⟨_, rfl, fun j v hv => ?_⟩
  have hj : j < l.length := by have := (List.getElem?_eq_some_iff.1 hv).1; simpa [cells] using this
  rw [cells_at l j hj] at hv
  have hcj := hc j (by omega)
  rw [addr_add, hb.cell (p := ⟨b, o + j, none⟩) (lt_of_cell hcj), hcj]
  exact hv
/-- The copy reads as the source. -/
theorem copied {w : World} {g n : Nat} {cur : List Value} {l : List UInt8} (hg : w.heap[g]? = some (.cells (splice cur 0 (cells l)).toArray 5 (0, 0))) (hcur : cur.length = n) (hl : l.length = n) (hn : n ≤ 262144) : SB w (.slice (some ⟨g, 0, none⟩) n n) l := by
  have hsp : splice cur 0 (cells l) = cells l := by
    unfold splice
    rw [List.drop_of_length_le (by simp [cells]; omega)]
    simp
  rw [hsp] at hg
  refine ⟨_, _, _, rfl, hl, Nat.le_refl _, by omega, fun _ => ⟨g, 0, rfl, fun i hi => ?_⟩⟩
  have : w.cell? ⟨g, 0 + i, none⟩ = (cells l)[i]? := by simp [World.cell?, hg]
  rw [this, cells_at l i (by omega)]
theorem cells_one (l : List UInt8) : ∀ v ∈ cells l, v.oneCell' = true := fun v hv => by
  simp only [cells, List.mem_map] at hv
  obtain ⟨_, _, rfl⟩ := hv
  rfl
theorem cells_length (l : List UInt8) : (cells l).length = l.length := by simp [cells]

theorem zz7b (va vb : Value) (la lb : List UInt8) (w : World) (m : Int) (hE : Env w m) (ha : la.length ≤ 262144) (hb : lb.length ≤ 262144) (hSa : SB w va la) (hSb : SB w vb lb) :
    Calls Tryd.prog 7 #[va, vb] w fun e w' => ∃ b : Bool, e = .returned (.bool b) ∧ Hid (b = true ↔ Pl.key la = Pl.key lb) ∧ Below w.heap.size w w' :=
  (zz7 va vb la lb w m hE ha hb hSa hSb).mono fun _ _ ⟨he, hb⟩ => ⟨_, he, (by simp : _ ↔ _), hb⟩

set_option maxRecDepth 10000 in
set_option maxHeartbeats 2000000 in
theorem law_good (pa pb pc : Option Addr) (na nb nc ca cb cc : Nat) (la lb lc : List UInt8) (w : World) (m : Int) (hE : Env w m) (hsum : na + nb + nc ≤ 1048576) (h1 : na ≤ 262144) (h2 : nb ≤ 262144) (h3 : nc ≤ 262144)
    (ea : la.length = na) (eb : lb.length = nb) (ec : lc.length = nc) (hSa : SB w (.slice pa na ca) la) (hSb : SB w (.slice pb nb cb) lb) (hSc : SB w (.slice pc nc cc) lc) :
    Calls Tryd.prog 4 #[.slice pa na ca, .slice pb nb cb, .slice pc nc cc] w fun e w' => e = .returned (.bool true) ∧ Below w.heap.size w w' := by
  obtain ⟨i0, hi, hz0, hz1, hz2⟩ := info_parts Tryd.info5
  have HE : Hid (Env w m) := hE
  have HA : Hid (SB w (.slice pa na ca) la) := hSa
  have HB : Hid (SB w (.slice pb nb cb) lb) := hSb
  have HC : Hid (SB w (.slice pc nc cc) lc) := hSc
  have HLa : Hid (la.length = na) := ea
  have HLb : Hid (lb.length = nb) := eb
  have HLc : Hid (lc.length = nc) := ec
  have hna := fun w => run_neq_slice_nil_any (P := Tryd.prog) w 22 5 pa na ca 0 0 Tryd.underlying22
  have hnb := fun w => run_neq_slice_nil_any (P := Tryd.prog) w 22 5 pb nb cb 0 0 Tryd.underlying22
  have hnc := fun w => run_neq_slice_nil_any (P := Tryd.prog) w 22 5 pc nc cc 0 0 Tryd.underlying22
  clear hE hSa hSb hSc ea eb ec
  go_enter Tryd.func4, Tryd.ntmps4
  go_wp2_with fail
  refine (bytes10 pa pb pc na nb nc ca cb cc _ (by omega) (by omega) (by omega)).mono ?_
  rintro e w1 ⟨⟨b, rfl, hb⟩, hw1⟩
  obtain rfl : w = w1 := hw1.symm
  obtain rfl : b = true := hb.2 hsum
  clear hb hw1
  go_upto_if 30 with fail
  go_cut [0] (fun s0 wx => Hid (SB wx s0 la) ∧ Hid (Below w.heap.size w wx))
  case first =>
    cases pa with
    | none =>
      go_wp2
      go_meet
      case rel => exact ⟨HA.out, Below.refl _ _⟩
    | some a =>
      go_upto_region 11 with (at_make; refine wpList_make_full _ rfl _ _ 22 rfl w.heap.size 5 i0 (.int .u8 0) 1 Tryd.underlying22 hi hz0 hz1 .i64 .i64 na na na rfl rfl rfl rfl (by rw [hz2]; omega) (by unfold maxLen; omega) (Nat.le_refl _) ?_; intro w1 hown hgrow)
      have hb1 : Below w.heap.size w w1 := (Below.refl _ _).grown hgrow (Nat.le_refl _) (by simp)
      obtain ⟨cur, hg, hcur⟩ := own_block hown
      have HG : Hid (w1.heap[w.heap.size]? = some (.cells cur.toArray 5 (0, 0))) := hg
      have HCU : Hid (cur.length = na) := hcur
      have HS : Hid (0 < (cells la).length → ∃ ad, some a = some ad ∧ ∀ j v, (cells la)[j]? = some v → w1.cell? (ad.add j) = some v) := src_of HA.out hb1
      clear hown hgrow hg hcur
      go_wp2_with (refine wpList_copy_splice rfl (.tmp 34) (.tmp 35) 22 22 rfl 5 Tryd.underlying22 Tryd.size5 _ _ _ _ _ _ rfl rfl w.heap.size 0 cur 5 HG.out (cells la) (by rw [cells_length, HLa.out]; simp) (fun h => ⟨rfl, HS.out h⟩) (by rw [cells_length, HLa.out, HCU.out]; omega) (cells_one la) w.heap.size w hb1 (Nat.le_refl _) ?_; intro w2 hg2 hb2)
      go_meet
      case rel => exact ⟨copied hg2.out HCU.out HLa.out h1, hb2⟩
  case rest =>
    obtain ⟨HA1, HW1⟩ := hcut
    rename World => W1
    have HB1 : Hid (SB W1 (.slice pb nb cb) lb) := HB.out.below HW1.out
    have HC1 : Hid (SB W1 (.slice pc nc cc) lc) := HC.out.below HW1.out
    clear HA HB HC
    go_upto_if 39 with fail
    go_cut [1] (fun s1 wx => Hid (SB wx s1 lb) ∧ Hid (Below W1.heap.size W1 wx))
    case first =>
      cases pb with
      | none =>
        go_wp2
        go_meet
        case rel => exact ⟨HB1.out, Below.refl _ _⟩
      | some a =>
        go_upto_region 15 with (at_make; refine wpList_make_full _ rfl _ _ 22 rfl W1.heap.size 5 i0 (.int .u8 0) 1 Tryd.underlying22 hi hz0 hz1 .i64 .i64 nb nb nb rfl rfl rfl rfl (by rw [hz2]; omega) (by unfold maxLen; omega) (Nat.le_refl _) ?_; intro w1 hown hgrow)
        have hb1 : Below W1.heap.size W1 w1 := (Below.refl _ _).grown hgrow (Nat.le_refl _) (by simp)
        obtain ⟨cur, hg, hcur⟩ := own_block hown
        have HG : Hid (w1.heap[W1.heap.size]? = some (.cells cur.toArray 5 (0, 0))) := hg
        have HCU : Hid (cur.length = nb) := hcur
        have HS : Hid (0 < (cells lb).length → ∃ ad, some a = some ad ∧ ∀ j v, (cells lb)[j]? = some v → w1.cell? (ad.add j) = some v) := src_of HB1.out hb1
        clear hown hgrow hg hcur
        go_wp2_with (refine wpList_copy_splice rfl (.tmp 43) (.tmp 44) 22 22 rfl 5 Tryd.underlying22 Tryd.size5 _ _ _ _ _ _ rfl rfl W1.heap.size 0 cur 5 HG.out (cells lb) (by rw [cells_length, HLb.out]; simp) (fun h => ⟨rfl, HS.out h⟩) (by rw [cells_length, HLb.out, HCU.out]; omega) (cells_one lb) W1.heap.size W1 hb1 (Nat.le_refl _) ?_; intro w2 hg2 hb2)
        go_meet
        case rel => exact ⟨copied hg2.out HCU.out HLb.out h2, hb2⟩
    case rest =>
      obtain ⟨HB2, HW2⟩ := hcut
      rename World => W2
      have HA2 : Hid (SB W2 u0 la) := HA1.out.below HW2.out
      have HC2 : Hid (SB W2 (.slice pc nc cc) lc) := HC1.out.below HW2.out
      have HV2 : Hid (Below w.heap.size w W2) := HW1.out.trans (HW2.out.mono HW1.out.size)
      clear HA1 HB1 HC1 HW1 HW2
      go_upto_if 48 with fail
      go_cut [2] (fun s2 wx => Hid (SB wx s2 lc) ∧ Hid (Below W2.heap.size W2 wx))
      case first =>
        cases pc with
        | none =>
          go_wp2
          go_meet
          case rel => exact ⟨HC2.out, Below.refl _ _⟩
        | some a =>
          go_upto_region 19 with (at_make; refine wpList_make_full _ rfl _ _ 22 rfl W2.heap.size 5 i0 (.int .u8 0) 1 Tryd.underlying22 hi hz0 hz1 .i64 .i64 nc nc nc rfl rfl rfl rfl (by rw [hz2]; omega) (by unfold maxLen; omega) (Nat.le_refl _) ?_; intro w1 hown hgrow)
          have hb1 : Below W2.heap.size W2 w1 := (Below.refl _ _).grown hgrow (Nat.le_refl _) (by simp)
          obtain ⟨cur, hg, hcur⟩ := own_block hown
          have HG : Hid (w1.heap[W2.heap.size]? = some (.cells cur.toArray 5 (0, 0))) := hg
          have HCU : Hid (cur.length = nc) := hcur
          have HS : Hid (0 < (cells lc).length → ∃ ad, some a = some ad ∧ ∀ j v, (cells lc)[j]? = some v → w1.cell? (ad.add j) = some v) := src_of HC2.out hb1
          clear hown hgrow hg hcur
          go_wp2_with (refine wpList_copy_splice rfl (.tmp 52) (.tmp 53) 22 22 rfl 5 Tryd.underlying22 Tryd.size5 _ _ _ _ _ _ rfl rfl W2.heap.size 0 cur 5 HG.out (cells lc) (by rw [cells_length, HLc.out]; simp) (fun h => ⟨rfl, HS.out h⟩) (by rw [cells_length, HLc.out, HCU.out]; omega) (cells_one lc) W2.heap.size W2 hb1 (Nat.le_refl _) ?_; intro w2 hg2 hb2)
          go_meet
          case rel => exact ⟨copied hg2.out HCU.out HLc.out h3, hb2⟩
      case rest =>
        obtain ⟨HC3, HW3⟩ := hcut
        rename World => W3
        have HA3 : Hid (SB W3 u0 la) := HA2.out.below HW3.out
        have HB3 : Hid (SB W3 u1 lb) := HB2.out.below HW3.out
        have HV3 : Hid (Below w.heap.size w W3) := HV2.out.trans (HW3.out.mono HV2.out.size)
        have HE3 : Hid (Env W3 m) := HE.out.below HV3.out
        clear HA2 HB2 HC2 HV2 HW3 HE hi hz0 hz1 hz2
        go_wp2_with fail
        refine (zz7b u0 u0 la la W3 m HE3.out (by rw [HLa.out]; exact h1) (by rw [HLa.out]; exact h1) HA3.out HA3.out).mono ?_
        rintro e W4 ⟨aa, rfl, haa, hb4⟩
        obtain rfl : aa = true := haa.out.2 rfl
        have HA4 : Hid (SB W4 u0 la) := HA3.out.below hb4
        have HB4 : Hid (SB W4 u1 lb) := HB3.out.below hb4
        have HC4 : Hid (SB W4 u2 lc) := HC3.out.below hb4
        have HV4 : Hid (Below w.heap.size w W4) := HV3.out.trans (hb4.mono HV3.out.size)
        have HE4 : Hid (Env W4 m) := HE3.out.below hb4
        clear HA3 HB3 HC3 HV3 HE3 hb4 haa
        go_wp2_with fail
        refine (zz7b u0 u1 la lb W4 m HE4.out (by rw [HLa.out]; exact h1) (by rw [HLb.out]; exact h2) HA4.out HB4.out).mono ?_
        rintro e W5 ⟨ab, rfl, hab, hb5⟩
        have HA5 : Hid (SB W5 u0 la) := HA4.out.below hb5
        have HB5 : Hid (SB W5 u1 lb) := HB4.out.below hb5
        have HC5 : Hid (SB W5 u2 lc) := HC4.out.below hb5
        have HV5 : Hid (Below w.heap.size w W5) := HV4.out.trans (hb5.mono HV4.out.size)
        have HE5 : Hid (Env W5 m) := HE4.out.below hb5
        clear HA4 HB4 HC4 HV4 HE4 hb5
        go_wp2_with fail
        refine (zz7b u1 u0 lb la W5 m HE5.out (by rw [HLb.out]; exact h2) (by rw [HLa.out]; exact h1) HB5.out HA5.out).mono ?_
        rintro e W6 ⟨ba, rfl, hba, hb6⟩
        have HA6 : Hid (SB W6 u0 la) := HA5.out.below hb6
        have HB6 : Hid (SB W6 u1 lb) := HB5.out.below hb6
        have HC6 : Hid (SB W6 u2 lc) := HC5.out.below hb6
        have HV6 : Hid (Below w.heap.size w W6) := HV5.out.trans (hb6.mono HV5.out.size)
        have HE6 : Hid (Env W6 m) := HE5.out.below hb6
        obtain rfl : ba = ab := by
          rw [Bool.eq_iff_iff, hab.out, hba.out]
          exact ⟨fun e => e.symm, fun e => e.symm⟩
        clear HA5 HB5 HC5 HV5 HE5 hb6 hba
        go_wp2_with fail
        refine (zz7b u1 u2 lb lc W6 m HE6.out (by rw [HLb.out]; exact h2) (by rw [HLc.out]; exact h3) HB6.out HC6.out).mono ?_
        rintro e W7 ⟨bc, rfl, hbc, hb7⟩
        have HA7 : Hid (SB W7 u0 la) := HA6.out.below hb7
        have HC7 : Hid (SB W7 u2 lc) := HC6.out.below hb7
        have HV7 : Hid (Below w.heap.size w W7) := HV6.out.trans (hb7.mono HV6.out.size)
        have HE7 : Hid (Env W7 m) := HE6.out.below hb7
        clear HA6 HB6 HC6 HV6 HE6 hb7
        go_wp2_with fail
        refine (zz7b u0 u2 la lc W7 m HE7.out (by rw [HLa.out]; exact h1) (by rw [HLc.out]; exact h3) HA7.out HC7.out).mono ?_
        rintro e W8 ⟨ac, rfl, hac, hb8⟩
        have HV8 : Hid (Below w.heap.size w W8) := HV7.out.trans (hb8.mono HV7.out.size)
        clear HA7 HC7 HV7 HE7 hb8
        have htr : ba = true → bc = true → ac = true := fun e1 e2 => hac.out.2 ((hab.out.1 e1).trans (hbc.out.1 e2))
        clear hab hbc hac
        cases ba
        · clear htr
          go_wp2
          go_ret
          exact ⟨rfl, HV8.out⟩
        · cases bc
          · clear htr
            go_wp2
            go_ret
            exact ⟨rfl, HV8.out⟩
          · obtain rfl : ac = true := htr rfl rfl
            clear htr
            go_wp2
            go_ret
            exact ⟨rfl, HV8.out⟩
end Go.Proofs.Qxb6600845aDoor
