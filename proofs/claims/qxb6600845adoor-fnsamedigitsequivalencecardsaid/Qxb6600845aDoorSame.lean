/-
  THE WALKS of sameDigits (12), ZZSameDigits (7), the law's bound (10).
-/
import Derived.Test.Qxb6600845aDoorWalks
namespace Go.Proofs.Qxb6600845aDoor
open Go Go.RowKit

theorem SB.cons {w : World} {v : Value} {a : UInt8} {l : List UInt8} (h : SB w v (a :: l)) : ∃ b o c, v = .slice (some ⟨b, o, none⟩) (l.length + 1) c ∧ w.cell? ⟨b, o, none⟩ = some (.int .u8 a.toNat) ∧ l.length + 1 ≤ c ∧ c ≤ 9223372036854775807 ∧
    (c = 1 → SB w (.slice (some ⟨b, o, none⟩) l.length (c - 1)) l) ∧ (c ≠ 1 → SB w (.slice (some ⟨b, o + 1, none⟩) l.length (c - 1)) l) := by
  obtain ⟨p, n, c, rfl, hl, hnc, hc, hB⟩ := h
  rw [List.length_cons] at hl
  subst hl
  obtain ⟨b, o, rfl, hcell⟩ := hB (by omega)
  refine ⟨b, o, c, rfl, by simpa using hcell 0 (by omega), hnc, hc, fun h1 => ?_, fun h1 => ?_⟩
  · refine ⟨_, _, _, rfl, rfl, by omega, by omega, fun h0 => ?_⟩
    omega
  · refine ⟨_, _, _, rfl, rfl, by omega, by omega, fun h0 => ?_⟩
    have := bytesAt_drop hB 1 (by omega)
    have e : l.length + 1 - 1 = l.length := by omega
    rw [e] at this
    exact this h0

/-- What the loop of sameDigits keeps. -/
def Loop (S T A B : List UInt8) : Prop := Pl.NL A ∧ Pl.NL B ∧ (Pl.nop A = Pl.nop B ↔ Pl.nop S = Pl.nop T)

theorem Loop.left {S T A B : List UInt8} (h : Loop S T (46 :: A) B) : Loop S T A B := ⟨h.1.tail, h.2.1, by rw [← Pl.nop_point A]; exact h.2.2⟩
theorem Loop.right {S T A B : List UInt8} (h : Loop S T A (46 :: B)) : Loop S T A B := ⟨h.1, h.2.1.tail, by rw [← Pl.nop_point B]; exact h.2.2⟩
theorem Loop.both {S T A B : List UInt8} {a : UInt8} (ha : a ≠ 46) (h : Loop S T (a :: A) (a :: B)) : Loop S T A B := by
  refine ⟨h.1.tail, h.2.1.tail, ?_⟩
  have := h.2.2
  rw [Pl.nop_cons ha, Pl.nop_cons ha] at this
  simpa using this
theorem Loop.no {S T A B : List UInt8} {a b : UInt8} (ha : a ≠ 46) (hb : b ≠ 46) (hab : a ≠ b) (h : Loop S T (a :: A) (b :: B)) : decide (Pl.nop S = Pl.nop T) = false := by
  have := h.2.2
  rw [Pl.nop_cons ha, Pl.nop_cons hb] at this
  refine decide_eq_false fun e => ?_
  have := this.2 e
  exact hab (List.cons.inj this).1
theorem Loop.endL {S T B : List UInt8} (h : Loop S T [] B) : decide (Pl.nop S = Pl.nop T) = decide (B.length = 0) := by
  have := h.2.2
  rw [Pl.nop_nil] at this
  cases B with
  | nil => rw [decide_eq_true (this.1 rfl)]; rfl
  | cons b B =>
    refine Eq.trans (decide_eq_false fun e => ?_) (decide_eq_false (by simp)).symm
    have := h.2.1.nil_of (this.2 e).symm
    cases this
theorem Loop.endR {S T A : List UInt8} (h : Loop S T A []) : decide (Pl.nop S = Pl.nop T) = decide (A.length = 0) := by
  have := h.2.2
  rw [Pl.nop_nil] at this
  cases A with
  | nil => rw [decide_eq_true (this.1 rfl)]; rfl
  | cons b B =>
    refine Eq.trans (decide_eq_false fun e => ?_) (decide_eq_false (by simp)).symm
    have := h.1.nil_of (this.2 e)
    cases this
theorem SB.nil {w : World} {v : Value} (h : SB w v []) : ∃ p c, v = .slice p 0 c := by
  obtain ⟨p, n, c, rfl, hl, _⟩ := h
  exact ⟨p, c, by rw [← hl]; rfl⟩
theorem SB.zero (w : World) (p : Option Addr) : SB w (.slice p 0 0) [] := ⟨p, 0, 0, rfl, rfl, by omega, by omega, fun h => absurd h (Nat.lt_irrefl 0)⟩
theorem SB.len {w : World} {v : Value} {l : List UInt8} (h : SB w v l) : ∃ p c, v = .slice p l.length c := by
  obtain ⟨p, n, c, rfl, hl, _⟩ := h
  exact ⟨p, c, by rw [hl]⟩
theorem ret_bool {a b : Bool} (h : a = b) : Ending.returned (.bool a) = .returned (.bool b) := by rw [h]

set_option maxHeartbeats 2000000 in
set_option maxRecDepth 10000 in
theorem same12 (va vb : Value) (la lb : List UInt8) (w : World) (m : Int) (hE : Env w m) (ha : la.length ≤ 262144) (hb : lb.length ≤ 262144) (hSa : SB w va la) (hSb : SB w vb lb) :
    Calls Tryd.prog 12 #[va, vb] w fun e w' => e = .returned (.bool (decide (Pl.key la = Pl.key lb))) ∧ Below w.heap.size w w' := by
  have HE : Hid (Env w m) := hE
  have HSb : Hid (SB w vb lb) := hSb
  have H13 : Hid (Calls Tryd.prog 13 #[va] w fun e w' => ∃ v, e = .returned v ∧ SB w' v (Pl.sig la) ∧ Below w.heap.size w w') := sig13 va la w m hE ha hSa
  clear hE hSa hSb
  go_enter Tryd.func12, Tryd.ntmps12
  go_wp2_with fail
  refine H13.out.mono ?_
  rintro e w1 ⟨v1, rfl, hs1, hb1⟩
  have HS1 : Hid (SB w1 v1 (Pl.sig la)) := hs1
  have HB1 : Hid (Below w.heap.size w w1) := hb1
  clear hs1 hb1 H13
  go_wp2_with fail
  refine (sig13 vb lb w1 m (HE.out.below HB1.out) hb (HSb.out.below HB1.out)).mono ?_
  rintro e w2 ⟨v2, rfl, hs2, hb2⟩
  have HS2 : Hid (SB w2 v2 (Pl.sig lb)) := hs2
  have HS1' : Hid (SB w2 v1 (Pl.sig la)) := HS1.out.below hb2
  have HB2 : Hid (Below w.heap.size w w2) := HB1.out.trans (hb2.mono HB1.out.size)
  clear hs2 hb2 HS1 HB1 HSb HE
  go_wp2
  go_loopg [0, 1] ((Pl.sig la).length + (Pl.sig lb).length) (fun g s0 s1 wx => ∃ A B : List UInt8, A.length + B.length = g ∧ Hid (Loop (Pl.sig la) (Pl.sig lb) A B) ∧ Hid (SB wx s0 A) ∧ Hid (SB wx s1 B) ∧ Hid (Below w.heap.size w wx))
  case atStart => exact ⟨_, _, rfl, (⟨Pl.sig_NL _, Pl.sig_NL _, Iff.rfl⟩ : Loop _ _ _ _), HS1'.out, HS2.out, HB2.out⟩
  case round =>
    obtain ⟨A, B, hg, HL, HSA, HSB, HB⟩ := hrel
    cases A with
    | nil =>
      obtain ⟨p, c, rfl⟩ := HSA.out.nil
      obtain ⟨q, d, rfl⟩ := HSB.out.len
      go_wp2
      go_ret
      exact ⟨ret_bool (Eq.trans (by rw [Bool.eq_iff_iff]; simp) HL.out.endL.symm), HB.out⟩
    | cons a A =>
      cases B with
      | nil =>
        obtain ⟨q, d, rfl⟩ := HSB.out.nil
        obtain ⟨p, c, rfl⟩ := HSA.out.len
        go_wp2
        go_ret
        exact ⟨ret_bool (Eq.trans (by simp) HL.out.endR.symm), HB.out⟩
      | cons b B =>
        rw [List.length_cons, List.length_cons] at hg
        obtain ⟨ba, oa, ca, rfl, hca, hna, hba, ha1, ha2⟩ := HSA.out.cons
        obtain ⟨bb, ob, cb, rfl, hcb, hnb, hbb, hb1, hb2⟩ := HSB.out.cons
        have HA1 : Hid (ca = 1 → SB wr (.slice (some ⟨ba, oa, none⟩) A.length (ca - 1)) A) := ha1
        have HA2 : Hid (ca ≠ 1 → SB wr (.slice (some ⟨ba, oa + 1, none⟩) A.length (ca - 1)) A) := ha2
        have HC1 : Hid (cb = 1 → SB wr (.slice (some ⟨bb, ob, none⟩) B.length (cb - 1)) B) := hb1
        have HC2 : Hid (cb ≠ 1 → SB wr (.slice (some ⟨bb, ob + 1, none⟩) B.length (cb - 1)) B) := hb2
        clear ha1 ha2 hb1 hb2
        by_cases hpa : a = 46
        · subst hpa
          by_cases h1 : ca = 1
          · subst h1
            obtain rfl : A = [] := List.eq_nil_of_length_eq_zero (by omega)
            go_wp2
            go_roundg (0 + (B.length + 1))
            case measure => omega
            case rel => exact ⟨[], b :: B, rfl, HL.out.left, SB.zero _ _, HSB.out, HB.out⟩
          · go_wp2
            go_roundg (A.length + (B.length + 1))
            case measure => omega
            case rel => exact ⟨A, b :: B, rfl, HL.out.left, HA2.out h1, HSB.out, HB.out⟩
        · have hpa' : ((a.toNat : Int) == 46) = false := by
            have : a.toNat ≠ 46 := fun e => hpa (UInt8.toNat_inj.1 e)
            simp; omega
          have HPA : Hid (a ≠ 46) := hpa
          clear hpa
          by_cases hpb : b = 46
          · subst hpb
            by_cases h1 : cb = 1
            · subst h1
              obtain rfl : B = [] := List.eq_nil_of_length_eq_zero (by omega)
              go_wp2
              go_roundg ((A.length + 1) + 0)
              case measure => omega
              case rel => exact ⟨a :: A, [], rfl, HL.out.right, HSA.out, SB.zero _ _, HB.out⟩
            · go_wp2
              go_roundg ((A.length + 1) + B.length)
              case measure => omega
              case rel => exact ⟨a :: A, B, rfl, HL.out.right, HSA.out, HC2.out h1, HB.out⟩
          · have hpb' : ((b.toNat : Int) == 46) = false := by
              have : b.toNat ≠ 46 := fun e => hpb (UInt8.toNat_inj.1 e)
              simp; omega
            have HPB : Hid (b ≠ 46) := hpb
            clear hpb
            by_cases hab : a = b
            · subst hab
              by_cases h1 : ca = 1
              · subst h1
                obtain rfl : A = [] := List.eq_nil_of_length_eq_zero (by omega)
                by_cases h2 : cb = 1
                · subst h2
                  obtain rfl : B = [] := List.eq_nil_of_length_eq_zero (by omega)
                  go_wp2
                  go_region
                  go_wp2
                  go_region
                  go_wp2
                  go_roundg 0
                  case measure => omega
                  case rel => exact ⟨[], [], rfl, HL.out.both HPA.out, SB.zero _ _, SB.zero _ _, HB.out.drew.drew⟩
                · go_wp2
                  go_region
                  go_wp2
                  go_region
                  go_wp2
                  go_roundg (0 + B.length)
                  case measure => omega
                  case rel => exact ⟨[], B, rfl, HL.out.both HPA.out, SB.zero _ _, (HC2.out h2).below ((Below.refl _ _).drew.drew), HB.out.drew.drew⟩
              · by_cases h2 : cb = 1
                · subst h2
                  obtain rfl : B = [] := List.eq_nil_of_length_eq_zero (by omega)
                  go_wp2
                  go_region
                  go_wp2
                  go_region
                  go_wp2
                  go_roundg (A.length + 0)
                  case measure => omega
                  case rel => exact ⟨A, [], rfl, HL.out.both HPA.out, (HA2.out h1).below ((Below.refl _ _).drew.drew), SB.zero _ _, HB.out.drew.drew⟩
                · go_wp2
                  go_region
                  go_wp2
                  go_region
                  go_wp2
                  go_roundg (A.length + B.length)
                  case measure => omega
                  case rel => exact ⟨A, B, rfl, HL.out.both HPA.out, (HA2.out h1).below ((Below.refl _ _).drew.drew), (HC2.out h2).below ((Below.refl _ _).drew.drew), HB.out.drew.drew⟩
            · have hne : ((a.toNat : Int) != (b.toNat : Int)) = true := by
                have : a.toNat ≠ b.toNat := fun e => hab (UInt8.toNat_inj.1 e)
                simp; omega
              have HNE : Hid (a ≠ b) := hab
              clear hab
              go_wp2
              go_region
              go_wp2
              go_ret
              exact ⟨ret_bool (HL.out.no HPA.out HPB.out HNE.out).symm, HB.out.drew⟩

theorem zz7 (va vb : Value) (la lb : List UInt8) (w : World) (m : Int) (hE : Env w m) (ha : la.length ≤ 262144) (hb : lb.length ≤ 262144) (hSa : SB w va la) (hSb : SB w vb lb) :
    Calls Tryd.prog 7 #[va, vb] w fun e w' => e = .returned (.bool (decide (Pl.key la = Pl.key lb))) ∧ Below w.heap.size w w' := by
  have H12 : Hid (Calls Tryd.prog 12 #[va, vb] w fun e w' => e = .returned (.bool (decide (Pl.key la = Pl.key lb))) ∧ Below w.heap.size w w') := same12 va vb la lb w m hE ha hb hSa hSb
  clear hE hSa hSb
  go_enter Tryd.func7, Tryd.ntmps7
  go_wp2_with fail
  refine H12.out.mono ?_
  rintro e w1 ⟨rfl, hb1⟩
  go_wp2
  go_ret
  exact ⟨rfl, hb1⟩
end Go.Proofs.Qxb6600845aDoor
