/-
  THE PLAIN LAWS of seat b6600703aD: lists of bytes; no Go in sight.
-/
import Derived.Lib.IndexMore
import Derived.Lib.TrimByte
import Derived.Lib.Fold
namespace Go.Proofs.Qxb6600703aDoor.Pl
open Go

/-- The letters of "bearer". -/
def lt (k : Nat) : UInt8 := ([98, 101, 97, 114, 101, 114] : List UInt8).getD k 0

/-- The first k letters, each in either case. -/
def Pre (l : List UInt8) (k : Nat) : Prop := l.length = k ∧ ∀ j, j < k → l[j]? = some (lt j) ∨ l[j]? = some (lt j - 32)

theorem Pre.zero : Pre [] 0 := ⟨rfl, fun _ h => absurd h (Nat.not_lt_zero _)⟩
theorem Pre.snoc {l : List UInt8} {k : Nat} (h : Pre l k) (c : UInt8) (hc : c = lt k ∨ c = lt k - 32) : Pre (l ++ [c]) (k + 1) := by
  refine ⟨by simp [h.1], fun j hj => ?_⟩
  by_cases e : j = k
  · subst e
    have : (l ++ [c])[j]? = some c := by rw [List.getElem?_append_right (by rw [h.1]; exact Nat.le_refl _), h.1]; simp
    rw [this]
    rcases hc with rfl | rfl
    · exact Or.inl rfl
    · exact Or.inr rfl
  · rw [List.getElem?_append_left (by rw [h.1]; omega)]
    exact h.2 j (by omega)

theorem lt_range (k : Nat) (hk : k < 6) : 97 ≤ (lt k).toNat ∧ (lt k).toNat ≤ 122 := by
  have : k = 0 ∨ k = 1 ∨ k = 2 ∨ k = 3 ∨ k = 4 ∨ k = 5 := by omega
  rcases this with rfl | rfl | rfl | rfl | rfl | rfl <;> decide
theorem lt_up (k : Nat) (hk : k < 6) : (lt k - 32).toNat = (lt k).toNat - 32 := by
  have : k = 0 ∨ k = 1 ∨ k = 2 ∨ k = 3 ∨ k = 4 ∨ k = 5 := by omega
  rcases this with rfl | rfl | rfl | rfl | rfl | rfl <;> decide

theorem six {l : List UInt8} (h : Pre l 6) : ∃ a b c d e f, l = [a, b, c, d, e, f] ∧ (a = 98 ∨ a = 66) ∧ (b = 101 ∨ b = 69) ∧ (c = 97 ∨ c = 65) ∧ (d = 114 ∨ d = 82) ∧ (e = 101 ∨ e = 69) ∧ (f = 114 ∨ f = 82) := by
  obtain ⟨hl, hj⟩ := h
  match l, hl with
  | [a, b, c, d, e, f], _ =>
    refine ⟨a, b, c, d, e, f, rfl, ?_, ?_, ?_, ?_, ?_, ?_⟩
    · simpa [lt] using hj 0 (by omega)
    · simpa [lt] using hj 1 (by omega)
    · simpa [lt] using hj 2 (by omega)
    · simpa [lt] using hj 3 (by omega)
    · simpa [lt] using hj 4 (by omega)
    · simpa [lt] using hj 5 (by omega)

theorem Pre.fold {l : List UInt8} (h : Pre l 6) : Lib.equalFold l [66, 101, 97, 114, 101, 114] = true := by
  obtain ⟨a, b, c, d, e, f, rfl, ha, hb, hc, hd, he, hf⟩ := six h
  have h1 : Lib.foldEq a 66 = true := by rcases ha with rfl | rfl <;> decide
  have h2 : Lib.foldEq b 101 = true := by rcases hb with rfl | rfl <;> decide
  have h3 : Lib.foldEq c 97 = true := by rcases hc with rfl | rfl <;> decide
  have h4 : Lib.foldEq d 114 = true := by rcases hd with rfl | rfl <;> decide
  have h5 : Lib.foldEq e 101 = true := by rcases he with rfl | rfl <;> decide
  have h6 : Lib.foldEq f 114 = true := by rcases hf with rfl | rfl <;> decide
  simp [Lib.equalFold, h1, h2, h3, h4, h5, h6]
theorem Pre.mem {l : List UInt8} (h : Pre l 6) {x : UInt8} (hx : x ∈ l) : x ≠ 32 ∧ x.toNat < 128 := by
  obtain ⟨a, b, c, d, e, f, rfl, ha, hb, hc, hd, he, hf⟩ := six h
  simp only [List.mem_cons, List.mem_nil_iff, or_false] at hx
  rcases hx with rfl | rfl | rfl | rfl | rfl | rfl
  · rcases ha with rfl | rfl <;> decide
  · rcases hb with rfl | rfl <;> decide
  · rcases hc with rfl | rfl <;> decide
  · rcases hd with rfl | rfl <;> decide
  · rcases he with rfl | rfl <;> decide
  · rcases hf with rfl | rfl <;> decide

def sp (n : Nat) : List UInt8 := List.replicate n 32
theorem sp_snoc (n : Nat) : sp (n + 1) = sp n ++ [32] := by unfold sp; exact List.replicate_succ'
theorem sp_length (n : Nat) : (sp n).length = n := by simp [sp]

theorem occ_one (s : List UInt8) (c : UInt8) (i : Nat) : Lib.occAt s [c] i = true ↔ s[i]? = some c := by
  unfold Lib.occAt
  cases h : s.drop i with
  | nil =>
    have : s[i]? = none := by
      have hl := congrArg List.length h
      simp at hl; simp; omega
    simp [this]
  | cons a t =>
    have : s[i]? = some a := by
      have h0 : (s.drop i)[0]? = some a := by rw [h]; rfl
      simpa using h0
    rw [this]
    simp only [List.isPrefixOf, Option.some.injEq, Bool.and_true, beq_iff_eq]
    exact ⟨fun e => e.symm, fun e => e.symm⟩

/-- strings.Cut at the first blank. -/
theorem cut_sp {l : List UInt8} (h : Pre l 6) (n : Nat) (t : List UInt8) : Lib.cut (l ++ (sp (n + 1) ++ t)) [32] = (l, sp n ++ t, true) := by
  have e : l ++ (sp (n + 1) ++ t) = l ++ 32 :: (sp n ++ t) := rfl
  rw [e]
  have hi : Lib.index (l ++ 32 :: (sp n ++ t)) [32] = l.length := by
    refine Lib.index_first (by simp) ((occ_one _ _ _).2 (by simp)) (fun j hj => ?_)
    cases ho : Lib.occAt (l ++ 32 :: (sp n ++ t)) [32] j with
    | false => rfl
    | true =>
      have := (occ_one _ _ _).1 ho
      rw [List.getElem?_append_left hj] at this
      exact absurd rfl (h.mem (List.mem_of_getElem? this)).1
  unfold Lib.cut
  rw [hi, if_pos (by omega)]
  have e1 : ((l.length : Int)).toNat = l.length := by omega
  rw [e1]
  simp

/-- strings.TrimLeft of blanks. -/
theorem trim_sp (n : Nat) (t : List UInt8) (ht : ∀ c, t.head? = some c → c ≠ 32) : Lib.trimLeftB (sp n ++ t) 32 = t := by
  unfold Lib.trimLeftB
  induction n with
  | zero =>
    cases t with
    | nil => rfl
    | cons c r =>
      have := ht c rfl
      show List.dropWhile _ (c :: r) = _
      rw [List.dropWhile_cons_of_neg (by simpa using this)]
  | succ n ih =>
    have e : sp (n + 1) ++ t = 32 :: (sp n ++ t) := rfl
    rw [e, List.dropWhile_cons_of_pos (by decide)]
    exact ih
end Go.Proofs.Qxb6600703aDoor.Pl
