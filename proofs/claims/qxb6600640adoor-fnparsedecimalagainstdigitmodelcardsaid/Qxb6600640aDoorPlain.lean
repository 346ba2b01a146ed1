/-
  THE PLAIN LAWS of seat b6600640aD: lists of bytes and numbers; no Go in sight.
-/
import Derived.Lib.ParseIntB
import Derived.Lib.IndexAny
import Derived.Lib.IndexMore
import Derived.Lib.TrimByte
namespace Go.Proofs.Qxb6600640aDoor.Pl
open Go

/-- Is the byte a decimal digit? -/
def isD (c : UInt8) : Bool := decide (48 ≤ c.toNat) && decide (c.toNat ≤ 57)
def allD (l : List UInt8) : Bool := l.all isD

theorem isD_iff (c : UInt8) : isD c = true ↔ 48 ≤ c.toNat ∧ c.toNat ≤ 57 := by simp [isD]

theorem allD_append (a b : List UInt8) : allD (a ++ b) = (allD a && allD b) := by simp [allD]
theorem allD_mem {l : List UInt8} (h : allD l = true) {c : UInt8} (hc : c ∈ l) : 48 ≤ c.toNat ∧ c.toNat ≤ 57 := (isD_iff c).1 (List.all_eq_true.1 h c hc)

/-- The number that the digits spell, behind 'acc'. -/
def val (acc : Nat) (l : List UInt8) : Nat := l.foldl (fun a c => a * 10 + (c.toNat - 48)) acc

theorem val_nil (acc : Nat) : val acc [] = acc := rfl
theorem val_cons (acc : Nat) (c : UInt8) (l : List UInt8) : val acc (c :: l) = val (acc * 10 + (c.toNat - 48)) l := by unfold val; rw [List.foldl_cons]
theorem val_append (acc : Nat) (a b : List UInt8) : val acc (a ++ b) = val (val acc a) b := by simp [val, List.foldl_append]
theorem val_ge (l : List UInt8) : ∀ acc : Nat, acc ≤ val acc l := by
  induction l with
  | nil => exact fun acc => Nat.le_refl acc
  | cons c l ih =>
    intro acc
    rw [val_cons]
    exact Nat.le_trans (by omega) (ih _)

theorem parseUintM_digits (M : Nat) (hM : M < 1844674407370955162) : ∀ (l : List UInt8) (acc : Nat), allD l = true → acc ≤ M →
    Lib.parseUintM M acc l = if val acc l ≤ M then .ok (val acc l) else .range
  | [], acc, _, ha => by simp [Lib.parseUintM, val_nil, ha]
  | c :: l, acc, hd, ha => by
    have hc : 48 ≤ c.toNat ∧ c.toNat ≤ 57 := allD_mem hd (by simp)
    have hl : allD l = true := by simp [allD] at hd ⊢; exact hd.2
    unfold Lib.parseUintM
    rw [if_pos hc, if_neg (by omega)]
    by_cases h : M < acc * 10 + (c.toNat - 48)
    · rw [if_pos h, val_cons]
      have := val_ge l (acc * 10 + (c.toNat - 48))
      rw [if_neg (by omega)]
    · rw [if_neg h, parseUintM_digits M hM l _ hl (by omega), val_cons]

/-- The zeros, and the decimal numeral of u. -/
def zeros (n : Nat) : List UInt8 := List.replicate n 48
def dig (u : Nat) : UInt8 := UInt8.ofNat (48 + u % 10)
theorem dig_toNat (u : Nat) : (dig u).toNat = 48 + u % 10 := by
  unfold dig
  rw [UInt8.toNat_ofNat']
  omega
/-- By fuel: the digits of u, at most 'n' of them. -/
def utoaN : Nat → Nat → List UInt8
  | 0, u => [dig u]
  | n + 1, u => if u / 10 = 0 then [dig u] else utoaN n (u / 10) ++ [dig u]
def utoa (u : Nat) : List UInt8 := utoaN 19 u

theorem isD_dig (u : Nat) : isD (dig u) = true := by
  rw [isD_iff, dig_toNat]; omega
theorem allD_utoaN : ∀ n u, allD (utoaN n u) = true
  | 0, u => by simp [utoaN, allD, isD_dig]
  | n + 1, u => by
    unfold utoaN
    split
    · simp [allD, isD_dig]
    · rw [allD_append, allD_utoaN n]; simp [allD, isD_dig]
theorem allD_utoa (u : Nat) : allD (utoa u) = true := allD_utoaN _ _
theorem allD_zeros (n : Nat) : allD (zeros n) = true := by simp [allD, zeros, isD]
theorem utoaN_length : ∀ n u, 1 ≤ (utoaN n u).length ∧ (utoaN n u).length ≤ n + 1
  | 0, u => by simp [utoaN]
  | n + 1, u => by
    have := utoaN_length n (u / 10)
    unfold utoaN
    split
    · simp
    · simp; omega
theorem utoa_length (u : Nat) : 1 ≤ (utoa u).length ∧ (utoa u).length ≤ 20 := utoaN_length 19 u
theorem val_utoaN : ∀ n u, u < 10 ^ (n + 1) → val 0 (utoaN n u) = u
  | 0, u, h => by
    simp only [utoaN, val_cons, val_nil, dig_toNat]
    have : (10 : Nat) ^ (0 + 1) = 10 := rfl
    omega
  | n + 1, u, h => by
    have hp : (10 : Nat) ^ (n + 1 + 1) = 10 ^ (n + 1) * 10 := Nat.pow_succ ..
    unfold utoaN
    split
    · simp only [val_cons, val_nil, dig_toNat]; omega
    · rw [val_append, val_utoaN n (u / 10) (by omega)]
      simp only [val_cons, val_nil, dig_toNat]; omega
theorem val_utoa (u : Nat) (h : u < 18446744073709551616) : val 0 (utoa u) = u :=
  val_utoaN 19 u (by
    have : (10 : Nat) ^ (19 + 1) = 100000000000000000000 := by decide
    omega)
theorem val_zeros : ∀ n, val 0 (zeros n) = 0
  | 0 => rfl
  | n + 1 => by
    have e : zeros (n + 1) = 48 :: zeros n := rfl
    rw [e, val_cons]; exact val_zeros n
theorem zeros_length (n : Nat) : (zeros n).length = n := by simp [zeros]

/-- An exponent's text: its sign, zeros, its digits. -/
def signB (plus : Bool) (e : Int) : List UInt8 := if e < 0 then [45] else if plus then [43] else []
def expB (plus : Bool) (pad : Nat) (e : Int) : List UInt8 := signB plus e ++ (zeros pad ++ utoa e.natAbs)

theorem uint_zu (pad u : Nat) (h : u < 18446744073709551616) : Lib.parseUintB 32 (zeros pad ++ utoa u) = if u ≤ 4294967295 then .ok u else .range := by
  have hl := utoa_length u
  unfold Lib.parseUintB
  rw [if_neg (by intro e; have := congrArg List.length e; rw [List.length_append, List.length_nil] at this; omega)]
  have hM : (2 ^ 32 - 1 : Nat) = 4294967295 := by decide
  rw [hM, parseUintM_digits _ (by decide) _ _ (by rw [allD_append, allD_zeros, allD_utoa]; rfl) (by omega), val_append, val_zeros, val_utoa u h]

/-- WHAT strconv.ParseInt(.., 10, 32) MAKES OF IT. -/
theorem parse_exp (plus : Bool) (pad : Nat) (e : Int) (hlo : -9223372036854775808 ≤ e) (hhi : e ≤ 9223372036854775807) :
    Lib.parseIntB 32 (expB plus pad e) = if -2147483648 ≤ e ∧ e ≤ 2147483647 then .ok e else .range := by
  have hu := uint_zu pad e.natAbs (by omega)
  have hz : ∃ c r, zeros pad ++ utoa e.natAbs = c :: r ∧ 48 ≤ c.toNat ∧ c.toNat ≤ 57 := by
    have hl := utoa_length e.natAbs
    have hd : allD (zeros pad ++ utoa e.natAbs) = true := by rw [allD_append, allD_zeros, allD_utoa]; rfl
    match hh : zeros pad ++ utoa e.natAbs with
    | [] => have := congrArg List.length hh; rw [List.length_append, List.length_nil] at this; omega
    | c :: r => exact ⟨c, r, rfl, allD_mem (hh ▸ hd) (by simp)⟩
  obtain ⟨c, r, hcr, hc⟩ := hz
  have h31 : (2 ^ (32 - 1) : Nat) = 2147483648 := by decide
  unfold expB signB
  by_cases hn : e < 0
  · rw [if_pos hn]
    unfold Lib.parseIntB
    simp only [List.cons_append, List.nil_append]
    rw [if_pos (by right; rfl), hu]
    by_cases h1 : e.natAbs ≤ 4294967295
    · rw [if_pos h1]
      simp only [h31]
      rw [if_neg (by intro h; exact h.1 rfl)]
      by_cases h2 : 2147483648 < e.natAbs
      · rw [if_pos ⟨rfl, h2⟩, if_neg (by omega)]
      · rw [if_neg (by intro h; exact h2 h.2), if_pos (by rfl), if_pos (by omega)]
        congr 1; omega
    · rw [if_neg h1, if_neg (by omega)]
  · rw [if_neg hn]
    cases plus with
    | true =>
      unfold Lib.parseIntB
      simp only [if_true, List.cons_append, List.nil_append]
      rw [if_pos (by left; rfl), hu]
      by_cases h1 : e.natAbs ≤ 4294967295
      · rw [if_pos h1]
        simp only [h31]
        by_cases h2 : 2147483648 ≤ e.natAbs
        · rw [if_pos ⟨by decide, h2⟩, if_neg (by omega)]
        · rw [if_neg (by intro h; exact h2 h.2), if_neg (by intro h; exact absurd h.1 (by decide)), if_neg (by decide), if_pos (by omega)]
          congr 1; omega
      · rw [if_neg h1, if_neg (by omega)]
    | false =>
      simp only [Bool.false_eq_true, if_false, List.nil_append]
      rw [hcr]
      unfold Lib.parseIntB
      simp only
      rw [if_neg (by omega), ← hcr, hu]
      by_cases h1 : e.natAbs ≤ 4294967295
      · rw [if_pos h1]
        simp only [h31]
        by_cases h2 : 2147483648 ≤ e.natAbs
        · rw [if_pos ⟨by omega, h2⟩, if_neg (by omega)]
        · rw [if_neg (by intro h; exact h2 h.2), if_neg (by intro h; have := h.1; omega), if_neg (by omega), if_pos (by omega)]
          congr 1; omega
      · rw [if_neg h1, if_neg (by omega)]

/-! ### The text taken apart -/
theorem trimPrefix_neg (l : List UInt8) : Lib.trimPrefix (45 :: l) [45] = l ∧ Lib.hasPrefix (45 :: l) [45] = true := by
  constructor
  · simp [Lib.trimPrefix, Lib.hasPrefix]
  · simp [Lib.hasPrefix]
theorem trimPrefix_pos (l : List UInt8) (h : ∀ c, l.head? = some c → c ≠ 45) : Lib.trimPrefix l [45] = l ∧ Lib.hasPrefix l [45] = false := by
  have e : Lib.hasPrefix l [45] = false := by
    cases l with
    | nil => rfl
    | cons c r =>
      have := h c rfl
      unfold Lib.hasPrefix
      have h45 : ((45 : UInt8) == c) = false := by simpa using fun e => this (Eq.symm e)
      simp [List.isPrefixOf, h45]
  exact ⟨by simp [Lib.trimPrefix, e], e⟩

/-- Digits and points alone: no 'e', no 'E'. -/
def plainC (c : UInt8) : Bool := isD c || c == 46
theorem plainC_noE {c : UInt8} (h : plainC c = true) : ([101, 69] : List UInt8).contains c = false := by
  simp only [plainC, isD, Bool.or_eq_true, Bool.and_eq_true, decide_eq_true_eq, beq_iff_eq] at h
  have h1 : c ≠ 101 := by rintro rfl; revert h; decide
  have h2 : c ≠ 69 := by rintro rfl; revert h; decide
  simp [h1, h2]
theorem index_exp (m : List UInt8) (hm : m.all plainC = true) (c : UInt8) (hc : ([101, 69] : List UInt8).contains c = true) (x : List UInt8) : Lib.indexAny (m ++ c :: x) [101, 69] = m.length := by
  refine Lib.indexAny_hit (x := c) (fun j b hj hb => ?_) (by simp) hc
  rw [List.getElem?_append_left hj] at hb
  exact plainC_noE (List.all_eq_true.1 hm b (List.mem_of_getElem? hb))
theorem index_noexp (m : List UInt8) (hm : m.all plainC = true) : Lib.indexAny m [101, 69] = -1 :=
  Lib.indexAny_none fun _ b _ hb => plainC_noE (List.all_eq_true.1 hm b (List.mem_of_getElem? hb))

theorem occ_one (s : List UInt8) (c : UInt8) (i : Nat) : Lib.occAt s [c] i = true ↔ s[i]? = some c := by
  unfold Lib.occAt
  cases h : s.drop i with
  | nil =>
    have : s[i]? = none := by
      have hl := congrArg List.length h
      simp at hl; simp; omega
    simp [this]
  | cons a t =>
    have : s[i]? = some a := by
      have h0 : (s.drop i)[0]? = some a := by rw [h]; rfl
      simpa using h0
    rw [this]
    simp only [List.isPrefixOf, Option.some.injEq, Bool.and_true, beq_iff_eq]
    exact ⟨fun e => e.symm, fun e => e.symm⟩
theorem cut_point (a b : List UInt8) (ha : allD a = true) : Lib.cut (a ++ 46 :: b) [46] = (a, b, true) := by
  have hi : Lib.index (a ++ 46 :: b) [46] = a.length := by
    refine Lib.index_first (by simp) ((occ_one _ _ _).2 (by simp)) (fun j hj => ?_)
    cases h : Lib.occAt (a ++ 46 :: b) [46] j with
    | false => rfl
    | true =>
      have := (occ_one _ _ _).1 h
      rw [List.getElem?_append_left hj] at this
      have hd := allD_mem ha (List.mem_of_getElem? this)
      exact absurd hd.1 (by decide)
  unfold Lib.cut
  rw [hi, if_pos (by omega)]
  have e1 : ((a.length : Int)).toNat = a.length := by omega
  rw [e1]
  simp
theorem cut_nopoint (a : List UInt8) (ha : allD a = true) : Lib.cut a [46] = (a, [], false) := by
  have hi : Lib.index a [46] = -1 := by
    rcases Lib.index_spec a [46] with ⟨h, _⟩ | ⟨i, _, _, ho, _⟩
    · exact h
    · have := (occ_one _ _ _).1 ho
      exact absurd (allD_mem ha (List.mem_of_getElem? this)).1 (by decide)
  unfold Lib.cut
  rw [hi, if_neg (by omega)]

/-! ### The loop over the mantissa -/
/-- Where the first and the last byte that is no '0' stand among the first k. -/
def Scan (m : List UInt8) (k : Nat) (f l : Int) : Prop :=
  (f = -1 ∧ l = -1 ∧ ∀ j, j < k → m[j]? = some 48) ∨
  ∃ a b : Nat, f = a ∧ l = b ∧ a ≤ b ∧ b < k ∧ (∀ j, j < a → m[j]? = some 48) ∧ m[a]? ≠ some 48 ∧ m[b]? ≠ some 48 ∧ ∀ j, b < j → j < k → m[j]? = some 48

theorem Scan.zero (m : List UInt8) : Scan m 0 (-1) (-1) := Or.inl ⟨rfl, rfl, fun _ h => absurd h (Nat.not_lt_zero _)⟩
theorem Scan.step0 {m : List UInt8} {k : Nat} {f l : Int} (h : Scan m k f l) (hk : m[k]? = some 48) : Scan m (k + 1) f l := by
  rcases h with ⟨h1, h2, h3⟩ | ⟨a, b, h1, h2, h3, h4, h5, h6, h7, h8⟩
  · refine Or.inl ⟨h1, h2, fun j hj => ?_⟩
    by_cases e : j = k
    · subst e; exact hk
    · exact h3 j (by omega)
  · refine Or.inr ⟨a, b, h1, h2, h3, by omega, h5, h6, h7, fun j hj hj2 => ?_⟩
    by_cases e : j = k
    · subst e; exact hk
    · exact h8 j hj (by omega)
theorem Scan.step1 {m : List UInt8} {k : Nat} {f l : Int} (h : Scan m k f l) (hk : m[k]? ≠ some 48) : Scan m (k + 1) (if f < 0 then (k : Int) else f) k := by
  rcases h with ⟨h1, h2, h3⟩ | ⟨a, b, h1, h2, h3, h4, h5, h6, h7, h8⟩
  · subst h1
    refine Or.inr ⟨k, k, by simp, rfl, Nat.le_refl _, by omega, h3, hk, hk, fun j hj hj2 => by omega⟩
  · subst h1
    rw [if_neg (by omega)]
    exact Or.inr ⟨a, k, rfl, rfl, by omega, by omega, h5, h6, hk, fun j hj hj2 => by omega⟩

theorem scan_none {m : List UInt8} {f l : Int} (h : Scan m m.length f l) (hf : f < 0) : Lib.trimLeftB m 48 = [] := by
  rcases h with ⟨_, _, h3⟩ | ⟨a, b, h1, _⟩
  · have := Lib.trimLeftB_drop m 48 m.length (Nat.le_refl _) (fun j b hj hb => by rw [h3 j hj] at hb; exact (Option.some.inj hb).symm) (fun b hb => by simp at hb)
    rw [this]; simp
  · omega
theorem scan_some {m : List UInt8} {f l : Int} (h : Scan m m.length f l) (hf : ¬ f < 0) : ∃ a b : Nat, f = a ∧ l = b ∧ a ≤ b ∧ b < m.length ∧ Lib.trimLeftB m 48 = m.drop a ∧ Lib.trimRightB (m.drop a) 48 = (m.take (b + 1)).drop a := by
  rcases h with ⟨h1, _, _⟩ | ⟨a, b, h1, h2, h3, h4, h5, h6, h7, h8⟩
  · omega
  · refine ⟨a, b, h1, h2, h3, h4, Lib.trimLeftB_drop m 48 a (by omega) (fun j c hj hc => by rw [h5 j hj] at hc; exact (Option.some.inj hc).symm) (fun c hc e => h6 (by rw [hc, e])), ?_⟩
    have := Lib.trimRightB_take (m.drop a) 48 (b + 1 - a) (by simp; omega) (fun j c hj hc => by
        have hj' : a + j < m.length := by
          have := (List.getElem?_eq_some_iff.1 hc).1
          simp at this; omega
        rw [List.getElem?_drop, h8 (a + j) (by omega) hj'] at hc
        exact (Option.some.inj hc).symm) (fun c h0 hc e => by
        rw [List.getElem?_drop, show a + (b + 1 - a - 1) = b by omega] at hc
        exact h7 (by rw [hc, e]))
    rw [this, List.drop_take]

end Go.Proofs.Qxb6600640aDoor.Pl
