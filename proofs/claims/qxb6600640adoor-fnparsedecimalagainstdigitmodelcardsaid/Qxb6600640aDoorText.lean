/-
  WHAT parseDecimal GIVES FOR A TEXT THAT IS SPELLED FROM A SIGN, DIGITS, A POINT, AN EXPONENT.
-/
import Derived.Test.Qxb6600640aDoorWalksB
namespace Go.Proofs.Qxb6600640aDoor
open Go Go.RowKit

def mantB (pt : Bool) (wh fr : List UInt8) : List UInt8 := if pt then wh ++ 46 :: fr else wh
def xpB (hx : Bool) (c : UInt8) (plus : Bool) (pad : Nat) (e : Int) : List UInt8 := if hx then c :: Pl.expB plus pad e else []
def textB (neg pt hx : Bool) (c : UInt8) (plus : Bool) (pad : Nat) (wh fr : List UInt8) (e : Int) : List UInt8 :=
  (if neg then [45] else []) ++ (mantB pt wh fr ++ xpB hx c plus pad e)

theorem isD_plain {c : UInt8} (h : Pl.isD c = true) : Pl.plainC c = true := by simp [Pl.plainC, h]
theorem mant_plain (pt : Bool) {wh fr : List UInt8} (hw : Pl.allD wh = true) (hf : Pl.allD fr = true) : (mantB pt wh fr).all Pl.plainC = true := by
  have h1 : wh.all Pl.plainC = true := List.all_eq_true.2 fun c hc => isD_plain (List.all_eq_true.1 hw c hc)
  have h2 : fr.all Pl.plainC = true := List.all_eq_true.2 fun c hc => isD_plain (List.all_eq_true.1 hf c hc)
  cases pt with
  | false => simpa [mantB] using h1
  | true =>
    have h3 : Pl.plainC 46 = true := by decide
    simp only [mantB, if_true, List.all_append, List.all_cons, h1, h2, h3, Bool.and_true]
theorem plain_ascii {c : UInt8} (h : Pl.plainC c = true) : c.toNat < 128 ∧ c ≠ 45 := by
  simp only [Pl.plainC, Pl.isD, Bool.or_eq_true, Bool.and_eq_true, decide_eq_true_eq, beq_iff_eq] at h
  constructor
  · rcases h with h | rfl
    · omega
    · decide
  · rintro rfl
    revert h; decide
theorem digit_ascii {c : UInt8} (h : 48 ≤ c.toNat ∧ c.toNat ≤ 57) : c.toNat < 128 := by omega
theorem exp_ascii (plus : Bool) (pad : Nat) (e : Int) : ∀ c ∈ Pl.expB plus pad e, c.toNat < 128 := by
  intro c hc
  simp only [Pl.expB, List.mem_append] at hc
  rcases hc with hc | hc | hc
  · unfold Pl.signB at hc
    split at hc
    · rw [List.mem_singleton] at hc; subst hc; decide
    · split at hc
      · rw [List.mem_singleton] at hc; subst hc; decide
      · cases hc
  · exact digit_ascii (Pl.allD_mem (Pl.allD_zeros pad) hc)
  · exact digit_ascii (Pl.allD_mem (Pl.allD_utoa _) hc)
theorem exp_length (plus : Bool) (pad : Nat) (e : Int) : (Pl.expB plus pad e).length ≤ pad + 21 := by
  have h1 := Pl.utoa_length e.natAbs
  have h2 : (Pl.signB plus e).length ≤ 1 := by
    unfold Pl.signB
    split
    · simp
    · split <;> simp
  simp only [Pl.expB, List.length_append, Pl.zeros_length]
  omega
theorem mant_length (pt : Bool) (wh fr : List UInt8) : (mantB pt wh fr).length ≤ wh.length + fr.length + 1 := by
  unfold mantB
  split
  · simp; omega
  · omega

theorem eE_ascii {c : UInt8} (hc : c = 101 ∨ c = 69) : c.toNat < 128 ∧ ([101, 69] : List UInt8).contains c = true := by
  rcases hc with rfl | rfl <;> exact ⟨by decide, by decide⟩

/-- What stands in the text, as the library's calls see it. -/
theorem parts_text (neg pt hx : Bool) (c : UInt8) (plus : Bool) (pad : Nat) (wh fr : List UInt8) (e : Int)
    (hw : Pl.allD wh = true) (hf : Pl.allD fr = true) (hpt : pt = false → fr = []) (hc : c = 101 ∨ c = 69) (hpad : pad ≤ 255) (hlen : wh.length + fr.length ≤ 2000000) :
    Parts (textB neg pt hx c plus pad wh fr e) (mantB pt wh fr ++ xpB hx c plus pad e) (mantB pt wh fr) (if hx then Pl.expB plus pad e else [48]) wh fr
      (Lib.trimLeftB (wh ++ fr) 48) (Lib.trimRightB (Lib.trimLeftB (wh ++ fr) 48) 48) neg pt (if hx then ((mantB pt wh fr).length : Int) else -1) := by
  have hmp := mant_plain pt hw hf
  have hml := mant_length pt wh fr
  have hel := exp_length plus pad e
  have htl : (Lib.trimLeftB (wh ++ fr) 48).length ≤ wh.length + fr.length := by
    have := (List.dropWhile_sublist (fun b : UInt8 => b == 48) (l := wh ++ fr)).length_le
    rw [List.length_append] at this
    exact this
  have htr : (Lib.trimRightB (Lib.trimLeftB (wh ++ fr) 48) 48).length ≤ (Lib.trimLeftB (wh ++ fr) 48).length := by
    unfold Lib.trimRightB
    have := (List.dropWhile_sublist (fun b : UInt8 => b == 48) (l := (Lib.trimLeftB (wh ++ fr) 48).reverse)).length_le
    rw [List.length_reverse] at this
    rw [List.length_reverse]
    exact this
  have hhead : ∀ d, (mantB pt wh fr ++ xpB hx c plus pad e).head? = some d → d ≠ 45 := by
    intro d hd
    cases hm : mantB pt wh fr with
    | nil =>
      rw [hm, List.nil_append] at hd
      unfold xpB at hd
      split at hd
      · simp at hd
        subst hd
        rcases hc with rfl | rfl <;> decide
      · simp at hd
    | cons a r =>
      rw [hm] at hd
      simp at hd
      subst hd
      exact (plain_ascii (List.all_eq_true.1 hmp a (by rw [hm]; simp))).2
  refine ⟨?_, ?_, ?_, ?_, ?_, ?_, ?_, ?_, rfl, rfl, ?_, htr⟩
  · unfold textB
    cases neg with
    | true => exact Pl.trimPrefix_neg _
    | false => exact Pl.trimPrefix_pos _ hhead
  · rw [List.length_append]; unfold xpB; split <;> simp <;> omega
  · intro d hd
    rw [List.mem_append] at hd
    rcases hd with hd | hd
    · exact (plain_ascii (List.all_eq_true.1 hmp d hd)).1
    · unfold xpB at hd
      split at hd
      · rw [List.mem_cons] at hd
        rcases hd with rfl | hd
        · exact (eE_ascii hc).1
        · exact exp_ascii _ _ _ d hd
      · cases hd
  · unfold xpB
    cases hx with
    | true => exact Pl.index_exp _ hmp c (eE_ascii hc).2 _
    | false => simp only [Bool.false_eq_true, if_false, List.append_nil]; exact Pl.index_noexp _ hmp
  · split
    · omega
    · simp
  · omega
  · unfold mantB
    cases pt with
    | true => exact Pl.cut_point wh fr hw
    | false => rw [hpt rfl]; exact Pl.cut_nopoint wh hw
  · omega
  · omega

theorem where_text (pt hx : Bool) (c : UInt8) (plus : Bool) (pad : Nat) (wh fr : List UInt8) (e : Int) :
    (((if hx then ((mantB pt wh fr).length : Int) else -1) = -1 ∧ mantB pt wh fr = mantB pt wh fr ++ xpB hx c plus pad e ∧ (if hx then Pl.expB plus pad e else [48]) = [48]) ∨
    (∃ k : Nat, (if hx then ((mantB pt wh fr).length : Int) else -1) = k ∧ k < (mantB pt wh fr ++ xpB hx c plus pad e).length ∧ mantB pt wh fr = (mantB pt wh fr ++ xpB hx c plus pad e).take k ∧ (if hx then Pl.expB plus pad e else [48]) = (mantB pt wh fr ++ xpB hx c plus pad e).drop (k + 1))) := by
  cases hx with
  | false => left; simp [xpB]
  | true =>
    right
    refine ⟨(mantB pt wh fr).length, by simp, by simp [xpB], by simp, ?_⟩
    simp only [xpB, if_true]
    rw [List.drop_append, List.drop_of_length_le (by omega)]
    simp

theorem parse0 : Lib.parseIntB 32 [48] = .ok 0 := by decide

theorem parse_x (hx plus : Bool) (pad : Nat) (e : Int) (hlo : -9223372036854775808 ≤ e) (hhi : e ≤ 9223372036854775807) (h0 : hx = false → e = 0) :
    Lib.parseIntB 32 (if hx then Pl.expB plus pad e else [48]) = if -2147483648 ≤ e ∧ e ≤ 2147483647 then .ok e else .range := by
  cases hx with
  | true => exact Pl.parse_exp plus pad e hlo hhi
  | false => rw [h0 rfl]; exact parse0

/-- THE PARSE OF SUCH A TEXT, the exponent within int32, some digit no '0'. -/
theorem text_val (s : ByteArray) (neg pt hx : Bool) (c : UInt8) (plus : Bool) (pad : Nat) (wh fr : List UInt8) (e m : Int) (w : World)
    (hs : Str s (textB neg pt hx c plus pad wh fr e)) (hw : Pl.allD wh = true) (hf : Pl.allD fr = true) (hpt : pt = false → fr = []) (hc : c = 101 ∨ c = 69) (hpad : pad ≤ 255) (hlen : wh.length + fr.length ≤ 2000000)
    (h0 : hx = false → e = 0) (he : -2147483648 ≤ e ∧ e ≤ 2147483647) (hne : Lib.trimLeftB (wh ++ fr) 48 ≠ []) (hm : w.cell? ⟨0, 0, none⟩ = some (.int .i64 m)) :
    Calls Tryd.prog 11 #[.string s] w (Gives4 w neg true (e - fr.length + ((Lib.trimLeftB (wh ++ fr) 48).length - (Lib.trimRightB (Lib.trimLeftB (wh ++ fr) 48) 48).length)) (Lib.trimRightB (Lib.trimLeftB (wh ++ fr) 48) 48)) :=
  zz11 _ _ _ _ _ _ (pd15_val s _ _ _ _ _ _ _ _ neg pt e m _ w hs (parts_text neg pt hx c plus pad wh fr e hw hf hpt hc hpad hlen) (where_text pt hx c plus pad wh fr e)
    (by rw [parse_x hx plus pad e (by omega) (by omega) h0, if_pos he]) he hne hm)
/-- .. every digit '0'. -/
theorem text_zero (s : ByteArray) (neg pt hx : Bool) (c : UInt8) (plus : Bool) (pad : Nat) (wh fr : List UInt8) (e m : Int) (w : World)
    (hs : Str s (textB neg pt hx c plus pad wh fr e)) (hw : Pl.allD wh = true) (hf : Pl.allD fr = true) (hpt : pt = false → fr = []) (hc : c = 101 ∨ c = 69) (hpad : pad ≤ 255) (hlen : wh.length + fr.length ≤ 2000000)
    (h0 : hx = false → e = 0) (he : -2147483648 ≤ e ∧ e ≤ 2147483647) (hne : Lib.trimLeftB (wh ++ fr) 48 = []) (hm : w.cell? ⟨0, 0, none⟩ = some (.int .i64 m)) :
    Calls Tryd.prog 11 #[.string s] w (Gives4 w false true 0 []) :=
  zz11 _ _ _ _ _ _ (pd15_zero s _ _ _ _ _ _ _ _ neg pt e m _ w hs (parts_text neg pt hx c plus pad wh fr e hw hf hpt hc hpad hlen) (where_text pt hx c plus pad wh fr e)
    (by rw [parse_x hx plus pad e (by omega) (by omega) h0, if_pos he]) he hne hm)
/-- .. the exponent outside int32. -/
theorem text_range (s : ByteArray) (neg pt hx : Bool) (c : UInt8) (plus : Bool) (pad : Nat) (wh fr : List UInt8) (e : Int) (w : World) (ve : Value)
    (hs : Str s (textB neg pt hx c plus pad wh fr e)) (hw : Pl.allD wh = true) (hf : Pl.allD fr = true) (hpt : pt = false → fr = []) (hc : c = 101 ∨ c = 69) (hpad : pad ≤ 255) (hlen : wh.length + fr.length ≤ 2000000)
    (h0 : hx = false → e = 0) (hlo : -9223372036854775808 ≤ e) (hhi : e ≤ 9223372036854775807) (he : ¬ (-2147483648 ≤ e ∧ e ≤ 2147483647)) (hve : w.cell? ⟨2, 0, none⟩ = some ve) (hev : ve = .nilIface ∨ ∃ te pe, ve = .iface te pe) :
    Calls Tryd.prog 11 #[.string s] w (Gives4 w false false 0 []) := by
  have hxt : hx = true := by
    cases hx with
    | true => rfl
    | false => have := h0 rfl; omega
  have hP := parts_text neg pt hx c plus pad wh fr e hw hf hpt hc hpad hlen
  rcases where_text pt hx c plus pad wh fr e with ⟨h1, _⟩ | ⟨k, hk⟩
  · rw [hxt] at h1; simp at h1
  · exact zz11 _ _ _ _ _ _ (pd15_range s _ _ _ _ _ _ _ _ neg pt _ w hs hP k hk (by rw [parse_x hx plus pad e hlo hhi h0, if_neg he]) ve hve hev)
end Go.Proofs.Qxb6600640aDoor
