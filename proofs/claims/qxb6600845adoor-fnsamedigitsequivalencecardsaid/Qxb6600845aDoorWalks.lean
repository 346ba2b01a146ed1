/-
  THE WALKS of significand (13), sameDigits (12), ZZSameDigits (7), the law's bound (10).
-/
import Derived.Test.Qxb6600845aDoorIdx2
namespace Go.Proofs.Qxb6600845aDoor
open Go Go.RowKit

/-- A slice of bytes as it lies. -/
def SB (w : World) (v : Value) (l : List UInt8) : Prop := ∃ p n c, v = .slice p n c ∧ l.length = n ∧ n ≤ c ∧ c ≤ 9223372036854775807 ∧ Lib.BytesAt w p n l

theorem bytesAt_below {w w' : World} {p : Option Addr} {n : Nat} {l : List UInt8} (h : Lib.BytesAt w p n l) (hb : Below w.heap.size w w') : Lib.BytesAt w' p n l := fun h0 => by
  obtain ⟨b, o, rfl, hc⟩ := h h0
  refine ⟨b, o, rfl, fun i hi => ?_⟩
  have hc0 := hc i hi
  rw [hb.cell (p := ⟨b, o + i, none⟩) (lt_of_cell hc0)]
  exact hc0
theorem SB.below {w w' : World} {v : Value} {l : List UInt8} (h : SB w v l) (hb : Below w.heap.size w w') : SB w' v l := by
  obtain ⟨p, n, c, h1, h2, h3, h4, h5⟩ := h
  exact ⟨p, n, c, h1, h2, h3, h4, bytesAt_below h5 hb⟩
theorem bytesAt_take {w : World} {p : Option Addr} {n : Nat} {l : List UInt8} (h : Lib.BytesAt w p n l) (k : Nat) (hk : k ≤ n) (hl : l.length = n) : Lib.BytesAt w p k (l.take k) := fun h0 => by
  obtain ⟨b, o, rfl, hc⟩ := h (by omega)
  refine ⟨b, o, rfl, fun i hi => ?_⟩
  rw [hc i (by omega)]
  simp [List.getD, hi]
theorem bytesAt_drop {w : World} {b o n : Nat} {l : List UInt8} (h : Lib.BytesAt w (some ⟨b, o, none⟩) n l) (j : Nat) (hj : j < n) : Lib.BytesAt w (some ⟨b, o + j, none⟩) (n - j) (l.drop j) := fun _ => by
  obtain ⟨b', o', e, hc⟩ := h (by omega)
  cases e
  refine ⟨b, o + j, rfl, fun i hi => ?_⟩
  rw [Nat.add_assoc, hc (j + i) (by omega)]
  simp [List.getD]
theorem addr_add (b o j : Nat) : (⟨b, o, none⟩ : Addr).add j = ⟨b, o + j, none⟩ := by unfold Addr.add; split <;> simp_all
theorem any_le (cs : List UInt8) : ∀ l : List UInt8, Lib.indexAny l cs ≤ l.length
  | [] => by simp [Lib.indexAny]
  | b :: l => by
    have ih := any_le cs l
    unfold Lib.indexAny
    rw [List.length_cons]
    split
    · omega
    · split <;> omega
/-- What TrimLeft hands back reads as what is left. -/
theorem SB.left {w : World} {p : Option Addr} {n c : Nat} {l r : List UInt8} (hl : l.length = n) (hnc : n ≤ c) (hc : c ≤ 9223372036854775807) (h : Lib.BytesAt w p n l) (hr : r.length ≤ n) (e : r = l.drop (n - r.length)) : SB w (Lib.leftV p n c (n - r.length)) r := by
  unfold Lib.leftV
  by_cases h0 : r.length = 0
  · have hr0 : r = [] := List.eq_nil_of_length_eq_zero h0
    rw [if_pos (by omega)]
    exact ⟨none, 0, 0, rfl, h0, by omega, by omega, fun h => absurd h (Nat.lt_irrefl 0)⟩
  · rw [if_neg (by omega)]
    obtain ⟨b, o, rfl, _⟩ := h (by omega)
    have ha := addr_add b o (n - r.length)
    refine ⟨some ⟨b, o + (n - r.length), none⟩, n - (n - r.length), c - (n - r.length), ?_, by omega, by omega, by omega, ?_⟩
    · unfold Lib.fromV
      rw [if_neg (by omega)]
      simp [ha]
    · have := bytesAt_drop h (n - r.length) (by omega)
      rw [← e] at this
      exact this

theorem left16 (p : Option Addr) (n c : Nat) (bs r : List UInt8) (w : World) (hb : bs.length = n) (hnc : n ≤ c) (hbig : c ≤ 9223372036854775807) (h1 : Lib.BytesAt w p n bs) (hr : Lib.trimLeftS bs [45, 48, 46] = r) (hr1 : r.length ≤ n) (hr2 : r = bs.drop (n - r.length)) :
    Calls Tryd.prog 16 #[.slice p n c, .string ⟨#[45, 48, 46]⟩] w fun e w' => ∃ v, e = .returned v ∧ SB w' v r ∧ Below w.heap.size w w' := by
  have h := Any.bytes_TrimLeft_ascii Tryd.laysV8 (zero_of_info info34).1 (zero_of_info info34).2 p n c bs ⟨#[45, 48, 46]⟩ w hb hnc hbig h1 (by decide) (fun j b hb => by
    have hm : b ∈ ([45, 48, 46] : List UInt8) := List.mem_of_getElem? hb
    simp at hm
    rcases hm with rfl | rfl | rfl <;> decide)
  have e : Lib.trimLeftS bs (⟨#[45, 48, 46]⟩ : ByteArray).data.toList = r := hr
  rw [e] at h
  refine h.mono ?_
  rintro e w' ⟨rfl, hB⟩
  exact ⟨_, rfl, (SB.left hb hnc hbig h1 hr1 hr2).below hB, hB⟩
theorem right15 (p : Option Addr) (n c : Nat) (bs r : List UInt8) (w : World) (hb : bs.length = n) (hnc : n ≤ c) (hbig : c ≤ 9223372036854775807) (h1 : Lib.BytesAt w p n bs) (hr : Lib.trimRightS bs [48, 46] = r) (hr1 : r.length ≤ n) (hr2 : r = bs.take r.length) :
    Calls Tryd.prog 15 #[.slice p n c, .string ⟨#[48, 46]⟩] w fun e w' => ∃ v, e = .returned v ∧ SB w' v r ∧ Below w.heap.size w w' := by
  have h := Any.bytes_TrimRight_ascii Tryd.laysV7 (zero_of_info info34).1 (zero_of_info info34).2 p n c bs ⟨#[48, 46]⟩ w hb hnc hbig h1 (by decide) (fun j b hb => by
    have hm : b ∈ ([48, 46] : List UInt8) := List.mem_of_getElem? hb
    simp at hm
    rcases hm with rfl | rfl <;> decide)
  have e : Lib.trimRightS bs (⟨#[48, 46]⟩ : ByteArray).data.toList = r := hr
  rw [e] at h
  refine h.mono ?_
  rintro e w' ⟨rfl, hB⟩
  have hs : SB w (.slice p r.length c) r := ⟨p, r.length, c, rfl, rfl, by omega, hbig, by have := bytesAt_take h1 r.length hr1 hb; rw [← hr2] at this; exact this⟩
  exact ⟨_, rfl, hs.below hB, hB⟩

set_option maxHeartbeats 1000000 in
set_option maxRecDepth 10000 in
theorem sig13 (v : Value) (bs : List UInt8) (w : World) (m : Int) (hE : Env w m) (hn : bs.length ≤ 262144) (hS : SB w v bs) :
    Calls Tryd.prog 13 #[v] w fun e w' => ∃ v, e = .returned v ∧ SB w' v (Pl.sig bs) ∧ Below w.heap.size w w' := by
  obtain ⟨p, n, c, rfl, hl, hnc, hc, hB⟩ := hS
  have HB : Hid (Lib.BytesAt w p n bs) := hB
  have HL : Hid (bs.length = n) := hl
  have HE : Hid (Env w m) := hE
  have H14 : Hid (Calls Tryd.prog 14 #[.slice p n c, .string eE] w fun e w' => e = .returned (.int .i64 (Lib.indexAny bs [101, 69])) ∧ Below w.heap.size w w') := idx14 p n c bs w m hE hl (by omega) hnc hB
  have hge := Lib.indexAny_ge [101, 69] bs
  have hle : Lib.indexAny bs [101, 69] ≤ n := by rw [← hl]; exact any_le _ bs
  clear hB hE
  by_cases hi : 0 ≤ Lib.indexAny bs [101, 69]
  · obtain ⟨i, hii⟩ : ∃ i : Nat, Lib.indexAny bs [101, 69] = i := ⟨(Lib.indexAny bs [101, 69]).toNat, by omega⟩
    have HC : Hid (Pl.cutE bs = bs.take i) := by show _ = _; unfold Pl.cutE; rw [if_pos hi, hii]; rfl
    rw [hii] at H14 hle
    have HN : Hid (n ≠ 0) := fun e => by
      obtain rfl : bs = [] := List.eq_nil_of_length_eq_zero (by omega)
      rw [show Lib.indexAny [] [101, 69] = -1 from rfl] at hii
      omega
    obtain ⟨b, o, rfl, _⟩ := HB.out (by have := HN.out; omega)
    clear hi hge hii hl
    go_enter Tryd.func13, Tryd.ntmps13
    go_wp2_with fail
    refine H14.out.mono ?_
    rintro e w1 ⟨rfl, hb1⟩
    have HB1 : Hid (Below w.heap.size w w1) := hb1
    clear hb1
    go_wp2_with fail
    refine (left16 _ i c (bs.take i) (Pl.lead bs) _ (by rw [List.length_take, HL.out]; omega) (by omega) hc (bytesAt_take (bytesAt_below HB.out HB1.out) i (by omega) HL.out) (by rw [← HC.out]; rfl) (by have := Pl.lead_le bs; rw [HC.out, List.length_take, HL.out] at this; omega)
      (by have := Pl.lead_drop bs; rw [HC.out, List.length_take, HL.out, Nat.min_eq_left (by omega)] at this; exact this)).mono ?_
    rintro e w2 ⟨v2, rfl, ⟨p2, n2, c2, rfl, hl2, hnc2, hc2, hB2⟩, hb2⟩
    have HB2 : Hid (Below w.heap.size w w2) := HB1.out.trans (hb2.mono HB1.out.size)
    have HA2 : Hid (Lib.BytesAt w2 p2 n2 (Pl.lead bs)) := hB2
    have HL2 : Hid ((Pl.lead bs).length = n2) := hl2
    clear hB2 hb2 hl2
    go_wp2_with fail
    refine (right15 p2 n2 c2 (Pl.lead bs) (Pl.sig bs) _ HL2.out hnc2 hc2 HA2.out rfl (by have := Pl.sig_le bs; rw [HL2.out] at this; exact this) (Pl.sig_take bs)).mono ?_
    rintro e w3 ⟨v3, rfl, hs3, hb3⟩
    have HS3 : Hid (SB w3 v3 (Pl.sig bs)) := hs3
    have HB3 : Hid (Below w.heap.size w w3) := HB2.out.trans (hb3.mono HB2.out.size)
    clear hs3 hb3
    go_wp2
    go_ret
    exact ⟨v3, rfl, HS3.out, HB3.out⟩
  · have HC : Hid (Pl.cutE bs = bs) := by show _ = _; unfold Pl.cutE; rw [if_neg hi]
    have hlt : Lib.indexAny bs [101, 69] < 0 := by omega
    generalize Lib.indexAny bs [101, 69] = ix at H14 hlt
    clear hi hge hle hl
    go_enter Tryd.func13, Tryd.ntmps13
    go_wp2_with fail
    refine H14.out.mono ?_
    rintro e w1 ⟨rfl, hb1⟩
    have HB1 : Hid (Below w.heap.size w w1) := hb1
    clear hb1
    go_wp2_with fail
    refine (left16 _ n c bs (Pl.lead bs) _ HL.out hnc hc (bytesAt_below HB.out HB1.out) (by conv => lhs; rw [← HC.out]
                                                                                            rfl) (by have := Pl.lead_le bs; rw [HC.out, HL.out] at this; omega)
      (by have := Pl.lead_drop bs; rw [HC.out, HL.out] at this; exact this)).mono ?_
    rintro e w2 ⟨v2, rfl, ⟨p2, n2, c2, rfl, hl2, hnc2, hc2, hB2⟩, hb2⟩
    have HB2 : Hid (Below w.heap.size w w2) := HB1.out.trans (hb2.mono HB1.out.size)
    have HA2 : Hid (Lib.BytesAt w2 p2 n2 (Pl.lead bs)) := hB2
    have HL2 : Hid ((Pl.lead bs).length = n2) := hl2
    clear hB2 hb2 hl2
    go_wp2_with fail
    refine (right15 p2 n2 c2 (Pl.lead bs) (Pl.sig bs) _ HL2.out hnc2 hc2 HA2.out rfl (by have := Pl.sig_le bs; rw [HL2.out] at this; exact this) (Pl.sig_take bs)).mono ?_
    rintro e w3 ⟨v3, rfl, hs3, hb3⟩
    have HS3 : Hid (SB w3 v3 (Pl.sig bs)) := hs3
    have HB3 : Hid (Below w.heap.size w w3) := HB2.out.trans (hb3.mono HB2.out.size)
    clear hs3 hb3
    go_wp2
    go_ret
    exact ⟨v3, rfl, HS3.out, HB3.out⟩
end Go.Proofs.Qxb6600845aDoor
