/-
  THE PLAIN LAWS of seat b6600845aD: lists of bytes, UTF-8's decoder; no Go in sight.
-/
import Derived.Lib.IndexAny
import Derived.Lib.IndexLaws
import Derived.Lib.SlTrimSet
import Derived.Lib.MapLaws
import Derived.Laws.Runes
import Derived.Shelf.Unicode.DecodeSlow
namespace Go.Proofs.Qxb6600845aDoor.Pl
open Go

/-! ### sameDigits, as a function of the bytes -/
/-- The bytes ahead of the first 'e' or 'E'. -/
def cutE (l : List UInt8) : List UInt8 := if 0 ≤ Lib.indexAny l [101, 69] then l.take (Lib.indexAny l [101, 69]).toNat else l
def lead (l : List UInt8) : List UInt8 := Lib.trimLeftS (cutE l) [45, 48, 46]
def sig (l : List UInt8) : List UInt8 := Lib.trimRightS (lead l) [48, 46]
/-- A list without its points. -/
def nop (l : List UInt8) : List UInt8 := l.filter (fun c => !(c == 46))
def key (l : List UInt8) : List UInt8 := nop (sig l)

theorem nop_nil : nop [] = [] := rfl
theorem nop_point (l : List UInt8) : nop (46 :: l) = nop l := by simp [nop]
theorem nop_cons {c : UInt8} (h : c ≠ 46) (l : List UInt8) : nop (c :: l) = c :: nop l := by simp [nop, h]

/-- No point at the end. -/
def NL (l : List UInt8) : Prop := l.getLast? ≠ some 46
theorem NL.tail {c : UInt8} {l : List UInt8} (h : NL (c :: l)) : NL l := by
  unfold NL at *
  cases l with
  | nil => simp
  | cons a r => rw [List.getLast?_cons_cons] at h; exact h
theorem NL.nil_of {l : List UInt8} (h : NL l) (hn : nop l = []) : l = [] := by
  cases hl : l.getLast? with
  | none => exact List.getLast?_eq_none_iff.1 hl
  | some c =>
    have hc : c ≠ 46 := fun e => h (by rw [hl, e])
    have hm : c ∈ l := List.mem_of_getLast? hl
    have : c ∈ nop l := by unfold nop; rw [List.mem_filter]; exact ⟨hm, by simpa using hc⟩
    rw [hn] at this
    cases this
theorem sig_NL (l : List UInt8) : NL (sig l) := by
  unfold NL sig Lib.trimRightS
  rw [List.getLast?_reverse]
  intro h
  have := List.head?_dropWhile_not (fun c : UInt8 => ([48, 46] : List UInt8).contains c) (lead l).reverse
  rw [h] at this
  simp at this

theorem cutE_le (l : List UInt8) : (cutE l).length ≤ l.length := by
  unfold cutE; split
  · simp; omega
  · omega
theorem lead_le (l : List UInt8) : (lead l).length ≤ (cutE l).length := (List.dropWhile_sublist _).length_le
theorem sig_le (l : List UInt8) : (sig l).length ≤ (lead l).length := by
  unfold sig Lib.trimRightS
  rw [List.length_reverse]
  have := (List.dropWhile_sublist (fun c : UInt8 => ([48, 46] : List UInt8).contains c) (l := (lead l).reverse)).length_le
  rw [List.length_reverse] at this
  exact this
/-- What is trimmed away on the left is a beginning; on the right an end. -/
theorem lead_drop (l : List UInt8) : lead l = (cutE l).drop ((cutE l).length - (lead l).length) := by
  unfold lead Lib.trimLeftS
  have h := List.takeWhile_append_dropWhile (p := fun c : UInt8 => ([45, 48, 46] : List UInt8).contains c) (l := cutE l)
  generalize ht : List.takeWhile (fun c : UInt8 => ([45, 48, 46] : List UInt8).contains c) (cutE l) = t at h
  generalize hd : List.dropWhile (fun c : UInt8 => ([45, 48, 46] : List UInt8).contains c) (cutE l) = d at h
  rw [← h]
  simp
theorem sig_take (l : List UInt8) : sig l = (lead l).take (sig l).length := by
  unfold sig Lib.trimRightS
  have h := List.takeWhile_append_dropWhile (p := fun c : UInt8 => ([48, 46] : List UInt8).contains c) (l := (lead l).reverse)
  generalize List.takeWhile (fun c : UInt8 => ([48, 46] : List UInt8).contains c) (lead l).reverse = t at h
  generalize List.dropWhile (fun c : UInt8 => ([48, 46] : List UInt8).contains c) (lead l).reverse = d at h
  have h2 : lead l = d.reverse ++ t.reverse := by rw [← List.reverse_append, h, List.reverse_reverse]
  rw [h2]
  simp

/-! ### the decoder's step -/
theorem get_mk (l : List UInt8) (j : Nat) : (⟨l.toArray⟩ : ByteArray).get! j = l.getD j 0 := by
  show l.toArray[j]! = _
  simp [List.getD]
  rfl

theorem enc2 (r : Nat) (h1 : 128 ≤ r) (h2 : r < 2048) : (Utf8.encode (r : Int)).size = 2 := by
  have hv : Utf8.valid (r : Int) = true := by rw [validRune_eq]; unfold validRune; rw [decide_eq_true]; omega
  unfold Utf8.encode
  simp only [hv, if_true, Int.toNat_natCast]
  rw [if_neg (by omega), if_pos (by omega)]; rfl
theorem enc3 (r : Nat) (h1 : 2048 ≤ r) (h2 : r < 65536) (h3 : r < 55296 ∨ 57344 ≤ r) : (Utf8.encode (r : Int)).size = 3 := by
  have hv : Utf8.valid (r : Int) = true := by rw [validRune_eq]; unfold validRune; rw [decide_eq_true]; omega
  unfold Utf8.encode
  simp only [hv, if_true, Int.toNat_natCast]
  rw [if_neg (by omega), if_neg (by omega), if_pos (by omega)]; rfl
theorem enc4 (r : Nat) (h1 : 65536 ≤ r) (h2 : r ≤ 1114111) : (Utf8.encode (r : Int)).size = 4 := by
  have hv : Utf8.valid (r : Int) = true := by rw [validRune_eq]; unfold validRune; rw [decide_eq_true]; omega
  unfold Utf8.encode
  simp only [hv, if_true, Int.toNat_natCast]
  rw [if_neg (by omega), if_neg (by omega), if_neg (by omega)]; rfl

/-- What DecodeRune gives at a byte beyond ASCII. -/
structure Dec (l : List UInt8) (r k : Nat) : Prop where
  k1 : 1 ≤ k
  kl : k ≤ l.length
  hi : ∀ j c, j < k → l[j]? = some c → 128 ≤ c.toNat
  r1 : 128 ≤ r
  r2 : r ≤ 1114111
  enc : r ≠ 65533 → (Utf8.encode (r : Int)).size = k ∧ 2 ≤ k ∧ (Utf8.encode (r : Int)).data.toList ≠ [101, 69]

theorem getD_of {l : List UInt8} {j : Nat} {c : UInt8} (h : l[j]? = some c) : l.getD j 0 = c := by simp [List.getD, h]

theorem enc_ne (r : Nat) (h1 : 128 ≤ r) (h2 : r ≤ 1114111) (h3 : r < 55296 ∨ 57344 ≤ r) : (Utf8.encode (r : Int)).data.toList ≠ [101, 69] := by
  have hv : Utf8.valid (r : Int) = true := by rw [validRune_eq]; unfold validRune; rw [decide_eq_true]; omega
  unfold Utf8.encode
  simp only [hv, if_true, Int.toNat_natCast]
  rw [if_neg (by omega)]
  split
  · intro e
    have h0 := congrArg (fun l : List UInt8 => (l.getD 1 0).toNat) e
    simp at h0; omega
  · split
    · intro e; have h0 := congrArg List.length e; simp at h0
    · intro e; have h0 := congrArg List.length e; simp at h0

theorem dec_step (l : List UInt8) (c : UInt8) (h0 : l[0]? = some c) (hc : 128 ≤ c.toNat) : Dec l (Lib.decodeGo ⟨l.toArray⟩).1 (Lib.decodeGo ⟨l.toArray⟩).2 := by
  have hlen : 0 < l.length := (List.getElem?_eq_some_iff.1 h0).1
  have hsz : (⟨l.toArray⟩ : ByteArray).size = l.length := by rw [Lib.size_eq]
  have hb0 : (l.getD 0 0).toNat = c.toNat := by rw [getD_of h0]
  have hc2 : c.toNat < 256 := c.toNat_lt
  unfold Lib.decodeGo
  rw [if_neg (by rw [hsz]; omega), Lib.decode_at, get_mk, get_mk, get_mk, get_mk, hsz]
  simp only [Nat.sub_zero, Nat.zero_add]
  rw [hb0]
  have g : ∀ j x, l[j]? = some x → (l.getD j 0).toNat = x.toNat := fun j x h => by rw [getD_of h]
  have b1 := (l.getD 1 0).toNat_lt
  have b2 := (l.getD 2 0).toNat_lt
  have b3 := (l.getD 3 0).toNat_lt
  rcases Lib.decodeN_shape l.length c.toNat (l.getD 1 0).toNat (l.getD 2 0).toNat (l.getD 3 0).toNat with ⟨h, _⟩ | ⟨p0, p1, p2, p3, e⟩ | ⟨p0, p1, p2, p3, p4, p5, e⟩ | ⟨p0, p1, p2, p3, p4, p5, p6, e⟩ | e
  · omega
  · rw [e]
    refine ⟨by simp, p1, fun j d hj hd => ?_, p3, by simp only; omega, fun _ => ⟨enc2 _ p3 (by omega), by simp, enc_ne _ p3 (by omega) (by omega)⟩⟩
    have hj' : j = 0 ∨ j = 1 := by simp only at hj; omega
    rcases hj' with rfl | rfl
    · rw [h0] at hd; cases hd; exact hc
    · have := g 1 d hd; omega
  · rw [e]
    refine ⟨by simp, p1, fun j d hj hd => ?_, by simp only; omega, by simp only; omega, fun _ => ⟨enc3 _ p4 (by omega) p5, by simp, enc_ne _ (by omega) (by omega) (by omega)⟩⟩
    have hj' : j = 0 ∨ j = 1 ∨ j = 2 := by simp only at hj; omega
    rcases hj' with rfl | rfl | rfl
    · rw [h0] at hd; cases hd; exact hc
    · have := g 1 d hd; omega
    · have := g 2 d hd; omega
  · rw [e]
    refine ⟨by simp, p1, fun j d hj hd => ?_, by simp only; omega, p6, fun _ => ⟨enc4 _ p5 p6, by simp, enc_ne _ (by omega) p6 (by omega)⟩⟩
    have hj' : j = 0 ∨ j = 1 ∨ j = 2 ∨ j = 3 := by simp only at hj; omega
    rcases hj' with rfl | rfl | rfl | rfl
    · rw [h0] at hd; cases hd; exact hc
    · have := g 1 d hd; omega
    · have := g 2 d hd; omega
    · have := g 3 d hd; omega
  · rw [e]
    refine ⟨by simp, hlen, fun j d hj hd => ?_, by simp, by simp, fun h => absurd rfl h⟩
    have hj' : j = 0 := by simp only at hj; omega
    subst hj'
    rw [h0] at hd; cases hd; exact hc

/-- A byte beyond ASCII is neither 'e' nor 'E'. -/
theorem noE_hi {c : UInt8} (h : 128 ≤ c.toNat) : ([101, 69] : List UInt8).contains c = false := by
  have h1 : c ≠ 101 := by rintro rfl; revert h; decide
  have h2 : c ≠ 69 := by rintro rfl; revert h; decide
  simp [h1, h2]
theorem Dec.noAny {s : List UInt8} {i r k : Nat} (hd : Dec (s.drop i) r k) (hn : Lib.NoAny s [101, 69] i) : Lib.NoAny s [101, 69] (i + k) := fun j b hj hb => by
  by_cases h : j < i
  · exact hn j b h hb
  · refine noE_hi (hd.hi (j - i) b (by omega) ?_)
    rw [List.getElem?_drop, show i + (j - i) = j by omega]
    exact hb
/-- The needle is not in "eE". -/
theorem Dec.index {l : List UInt8} {r k : Nat} (hd : Dec l r k) (hr : r ≠ 65533) : Lib.index [101, 69] (Utf8.encode (r : Int)).data.toList = -1 := by
  obtain ⟨h1, h2, h3⟩ := hd.enc hr
  exact Lib.index_long (by rw [← Lib.size_eq, h1]; exact h2) h3
end Go.Proofs.Qxb6600845aDoor.Pl
