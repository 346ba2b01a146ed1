/-
  THE WALKS of the small functions of seat b6600640aD.
-/
import Derived.Test.Qxb6600640aDoorProg
import Derived.Test.Qxb6600640aDoorPlain
import Derived.WalkKit
import Derived.Laws.IdiomStrings
namespace Go.Proofs.Qxb6600640aDoor
open Go Go.RowKit

theorem ret_bool {a b : Bool} (h : a = b) : Ending.returned (.bool a) = .returned (.bool b) := by rw [h]
theorem ret_int {k : IntKind} {a b : Int} (h : a = b) : Ending.returned (.int k a) = .returned (.int k b) := by rw [h]
theorem ret_str {a b : ByteArray} (h : a = b) : Ending.returned (.string a) = .returned (.string b) := by rw [h]

theorem bytes6 (b0 b2 b4 b5 b6 : Bool) (whole frac : ByteArray) (pad exp : Int) (w : World) (h1 : whole.size ≤ maxLen) (h2 : frac.size ≤ maxLen) :
    Calls Tryd.prog 6 #[.bool b0, .string whole, .bool b2, .string frac, .bool b4, .bool b5, .bool b6, .int .u8 pad, .int .i64 exp] w fun e w' => (∃ b : Bool, e = .returned (.bool b) ∧ (b = true ↔ whole.size + frac.size ≤ 1048576)) ∧ w' = w := by
  unfold maxLen at h1 h2
  by_cases c1 : whole.size ≤ 1048576
  · by_cases c2 : frac.size ≤ 1048576
    · by_cases c3 : whole.size + frac.size ≤ 1048576
      · go_enter Tryd.func6, Tryd.ntmps6
        go_wp2
        go_ret
        exact ⟨⟨_, rfl, by simp; omega⟩, rfl⟩
      · go_enter Tryd.func6, Tryd.ntmps6
        go_wp2
        go_ret
        exact ⟨⟨_, rfl, by simp; omega⟩, rfl⟩
    · go_enter Tryd.func6, Tryd.ntmps6
      go_wp2
      go_ret
      exact ⟨⟨_, rfl, by simp; omega⟩, rfl⟩
  · go_enter Tryd.func6, Tryd.ntmps6
    go_wp2
    go_ret
    exact ⟨⟨_, rfl, by simp; omega⟩, rfl⟩

theorem bytes12 (whole frac : ByteArray) (a b exp : Int) (w : World) (h1 : whole.size ≤ maxLen) (h2 : frac.size ≤ maxLen) :
    Calls Tryd.prog 12 #[.string whole, .string frac, .int .u8 a, .int .u8 b, .int .i64 exp] w fun e w' => (∃ b : Bool, e = .returned (.bool b) ∧ (b = true ↔ whole.size + frac.size ≤ 1048576)) ∧ w' = w := by
  unfold maxLen at h1 h2
  by_cases c1 : whole.size ≤ 1048576
  · by_cases c2 : frac.size ≤ 1048576
    · by_cases c3 : whole.size + frac.size ≤ 1048576
      · go_enter Tryd.func12, Tryd.ntmps12
        go_wp2
        go_ret
        exact ⟨⟨_, rfl, by simp; omega⟩, rfl⟩
      · go_enter Tryd.func12, Tryd.ntmps12
        go_wp2
        go_ret
        exact ⟨⟨_, rfl, by simp; omega⟩, rfl⟩
    · go_enter Tryd.func12, Tryd.ntmps12
      go_wp2
      go_ret
      exact ⟨⟨_, rfl, by simp; omega⟩, rfl⟩
  · go_enter Tryd.func12, Tryd.ntmps12
    go_wp2
    go_ret
    exact ⟨⟨_, rfl, by simp; omega⟩, rfl⟩

theorem take_snoc (s : ByteArray) (k : Nat) (h : k < s.size) : s.data.toList.take (k + 1) = s.data.toList.take k ++ [s[k]] := by
  rw [List.take_succ_eq_append_getElem (by simpa using h)]; rfl
theorem allD_bad (s : ByteArray) (k : Nat) (h : k < s.size) (hb : ¬ (48 ≤ s[k].toNat ∧ s[k].toNat ≤ 57)) : Pl.allD s.data.toList = false := by
  cases hh : Pl.allD s.data.toList with
  | false => rfl
  | true =>
    have hm : s[k] ∈ s.data.toList := by
      have : s.data.toList[k]'(by simpa using h) = s[k] := rfl
      rw [← this]; exact List.getElem_mem _
    exact absurd (Pl.allD_mem hh hm) hb
theorem allD_more (s : ByteArray) (k : Nat) (h : k < s.size) (ht : Pl.allD (s.data.toList.take k) = true) (hb : 48 ≤ s[k].toNat ∧ s[k].toNat ≤ 57) : Pl.allD (s.data.toList.take (k + 1)) = true := by
  rw [take_snoc s k h, Pl.allD_append, ht]
  simp [Pl.allD, Pl.isD, hb.1, hb.2]

set_option maxRecDepth 10000 in
set_option maxHeartbeats 400000 in
theorem digits7 (s : ByteArray) (w : World) (hs : s.size ≤ 1048576) :
    Calls Tryd.prog 7 #[.string s] w fun e w' => e = .returned (.bool (Pl.allD s.data.toList)) ∧ w' = w := by
  go_enter Tryd.func7, Tryd.ntmps7
  go_wp2
  go_loop [3] (fun i => ∃ k : Nat, k ≤ s.size ∧ i = .int .i64 k ∧ Hid (Pl.allD (s.data.toList.take k) = true)) (fun i => s.size - (intOf i).toNat)
  case atStart => exact ⟨0, Nat.zero_le _, rfl, (rfl : Pl.allD (s.data.toList.take 0) = true)⟩
  case round =>
    obtain ⟨k, hk, rfl, ht⟩ := hrel
    by_cases hlt : k < s.size
    · by_cases h1 : 48 ≤ s[k].toNat
      · by_cases h2 : s[k].toNat ≤ 57
        · go_wp2
          go_round
          case rel => exact ⟨k + 1, by omega, by go_num, allD_more s k hlt ht.out ⟨h1, h2⟩⟩
          case measure => simp [intOf]; omega
        · go_wp2
          go_ret
          exact ⟨ret_bool (allD_bad s k hlt (by omega)).symm, rfl⟩
      · go_wp2
        go_ret
        exact ⟨ret_bool (allD_bad s k hlt (by omega)).symm, rfl⟩
    · go_wp2
      go_ret
      have := ht.out
      rw [List.take_of_length_le (by simp; omega)] at this
      exact ⟨ret_bool this.symm, rfl⟩

theorem mag10_neg (v : Int) (w : World) (h : v < 0) (hlo : -9223372036854775808 ≤ v) :
    Calls Tryd.prog 10 #[.int .i64 v] w fun e w' => e = .returned (.int .u64 (v.natAbs : Int)) ∧ w' = w := by
  have e1 : IntKind.u64.wrap (-IntKind.u64.wrap v) = (v.natAbs : Int) := by
    simp only [IntKind.wrap_u64]; omega
  go_enter Tryd.func10, Tryd.ntmps10
  go_wp2
  go_ret
  exact ⟨ret_int rfl, rfl⟩
theorem mag10_pos (v : Int) (w : World) (h : 0 ≤ v) (hhi : v ≤ 9223372036854775807) :
    Calls Tryd.prog 10 #[.int .i64 v] w fun e w' => e = .returned (.int .u64 (v.natAbs : Int)) ∧ w' = w := by
  go_enter Tryd.func10, Tryd.ntmps10
  go_wp2
  go_ret
  exact ⟨ret_int (by omega), rfl⟩

theorem Tryd.info5 : (Tryd.prog.info? 5).map (fun i => (i.zero, i.size, i.bytes)) = some (some (.int .u8 0), 1, 1) := by kernel_rfl

theorem conv_zeros (n g : Nat) (wr : World) (xs : List Value) (hown : wr.ownsRow g 5 1 (.slice (some ⟨g, 0, none⟩) n n) n xs) (hx : ∀ j, j < n → xs[j]? = some (.int .u8 48)) :
    (convert 32 9 (.slice (some ⟨g, 0, none⟩) n n)).run Tryd.prog wr = .ok (.string ⟨(Pl.zeros n).toArray⟩) wr := by
  have hl : (Pl.zeros n).length = n := Pl.zeros_length n
  have := run_convert_bytes_back (P := Tryd.prog) wr 32 9 5 ⟨g, 0, none⟩ n (Pl.zeros n) Tryd.underlying32 Tryd.underlying5 Tryd.underlying9 (fun j hj => by
    rw [hl] at hj
    have h1 : (⟨g, 0, none⟩ : Addr).add j = ⟨g, j, none⟩ := by unfold Addr.add; split <;> simp_all
    rw [h1, hown.cellAt j (by omega), hx j hj]
    simp [Pl.zeros])
  rw [hl] at this
  exact this

set_option maxRecDepth 10000 in
set_option maxHeartbeats 400000 in
theorem zeros8 (n : Nat) (w : World) (hn : n ≤ 255) :
    Calls Tryd.prog 8 #[.int .i64 n] w fun e w' => e = .returned (.string ⟨(Pl.zeros n).toArray⟩) ∧ Below w.heap.size w w' := by
  obtain ⟨i0, hi, hz0, hz1, hz2⟩ := info_parts Tryd.info5
  go_enter Tryd.func8, Tryd.ntmps8
  go_wp2_with (at_make; refine wpList_make_full _ rfl _ _ 32 rfl w.heap.size 5 i0 (.int .u8 0) 1 Tryd.underlying32 hi hz0 hz1 .i64 .i64 n n n rfl rfl rfl rfl (by rw [hz2]; omega) (by unfold maxLen; omega) (Nat.le_refl _) ?_; intro w1 hown hgrow)
  have hb1 : Below w.heap.size w w1 := (Below.refl _ _).grown hgrow (Nat.le_refl _) (by simp)
  clear hgrow hi hz0 hz1 hz2
  go_loopw [4] (fun i wr => ∃ (k : Nat) (xs : List Value), k ≤ n ∧ i = .int .i64 k ∧ wr.ownsRow w.heap.size 5 1 (.slice (some ⟨w.heap.size, 0, none⟩) n n) n xs ∧ Hid (∀ j, j < k → xs[j]? = some (.int .u8 48)) ∧ Below w.heap.size w wr)
    (fun i _ => n - (intOf i).toNat)
  case atStart => exact ⟨0, _, Nat.zero_le _, rfl, hown, (fun j hj => absurd hj (Nat.not_lt_zero _) : ∀ j, j < 0 → _), hb1⟩
  case round =>
    clear hown hb1
    obtain ⟨k, xs, hk, rfl, hown, hx, hb⟩ := hrel
    by_cases hlt : k < n
    · have hxl : xs.length = n := by have := hown.1; omega
      have hc : wr.cell? ⟨w.heap.size, k, none⟩ = some (xs[k]'(by omega)) := by rw [hown.cellAt k (by omega)]; simp
      have hf := hown.frozenAt k
      have hst := hown.stored k (.int .u8 48)
      have HS : Hid _ := hst
      clear hst hown
      go_wp2
      go_roundw
      case rel =>
        refine ⟨k + 1, _, by omega, by go_num, HS.out.1, (fun j hj => ?_ : ∀ j, j < k + 1 → _), hb.grown HS.out.2 hb.size (by simp)⟩
        by_cases e : j = k
        · subst e; rw [List.getElem?_set_self (by omega)]
        · rw [List.getElem?_set_ne (by omega)]; exact hx.out j (by omega)
      case measure => simp [intOf]; omega
    · obtain rfl : k = n := by omega
      have hconv := conv_zeros k w.heap.size wr xs hown hx.out
      clear hown
      go_wp2
      go_ret
      exact ⟨rfl, hb⟩

theorem pow10_20 : (18446744073709551616 : Nat) ≤ 10 ^ 20 := by decide
theorem pow10_1 : (10 : Nat) ^ (0 + 1) = 10 := by decide
theorem Tryd.len33 : Tryd.prog.arrayLen 33 = 20 := by kernel_rfl
theorem Tryd.elem33 : Tryd.prog.elem 33 = 5 := by kernel_rfl
theorem slice20 (g q : Nat) (hq : q < 20) (w : World) : (Instr.sliceAt 33 (.pointer (some ⟨g, 0, none⟩)) (some (.int .i64 (q : Int))) none none).run Tryd.prog w = .ok (.slice (some ⟨g, q, none⟩) (20 - q) (20 - q)) w := by
  have h := run_sliceAt_array_l (P := Tryd.prog) w 33 ⟨g, 0, none⟩ (by rw [Tryd.len33, Tryd.elem33]; exact Tryd.underlying33) .i64 (q : Int) (by omega) (by rw [Tryd.len33]; omega)
  rw [h, Tryd.len33, Tryd.elem33]
  have hs : (sizeOf 5).run Tryd.prog w = .ok 1 w := by kernel_rfl
  rw [hs]
  show Result.ok (slicedAt ⟨g, 0, none⟩ (q : Int).toNat 20 20 1) w = _
  unfold slicedAt
  have h1 : (⟨g, 0, none⟩ : Addr).add q = ⟨g, q, none⟩ := by unfold Addr.add; split <;> simp_all
  rw [if_neg (by omega)]
  simp [h1]
theorem conv_digits (g q : Nat) (wr : World) (l : List UInt8) (hl : l.length = 20 - q) (hc : ∀ j (hj : j < l.length), wr.cell? ⟨g, q + j, none⟩ = some (.int .u8 (l[j].toNat : Int))) :
    (convert 32 9 (.slice (some ⟨g, q, none⟩) (20 - q) (20 - q))).run Tryd.prog wr = .ok (.string ⟨l.toArray⟩) wr := by
  have := run_convert_bytes_back (P := Tryd.prog) wr 32 9 5 ⟨g, q, none⟩ (20 - q) l Tryd.underlying32 Tryd.underlying5 Tryd.underlying9 (fun j hj => by
    have h1 : (⟨g, q, none⟩ : Addr).add j = ⟨g, q + j, none⟩ := by unfold Addr.add; split <;> simp_all
    rw [h1]; exact hc j hj)
  rw [hl] at this
  exact this

/-- What the loop of 'jpb1Utoa' keeps: the digits D stand from place q + 1 on; the rest of the numeral is that of x. -/
def UInv (u q x : Nat) (C : Array Value) (D : List UInt8) : Prop :=
  D.length = 19 - q ∧ (∀ j (hj : j < D.length), C[q + 1 + j]? = some (.int .u8 (D[j].toNat : Int))) ∧ Pl.utoa u = Pl.utoaN q x ++ D ∧ x < 10 ^ (q + 1)

theorem UInv.cells {u q x : Nat} {C : Array Value} {D : List UInt8} (h : UInv u q x C D) (hq : q < 20) (hC : C.size = 20) (j : Nat) (hj : j < (Pl.dig x :: D).length) :
    (C.setIfInBounds q (.int .u8 (48 + (x : Int) % 10)))[q + j]? = some (.int .u8 ((Pl.dig x :: D)[j].toNat : Int)) := by
  cases j with
  | zero =>
    simp [hC, hq, Pl.dig_toNat]
  | succ i =>
    have hi : i < D.length := by simpa using hj
    have := h.2.1 i hi
    rw [Array.getElem?_setIfInBounds_ne (by omega), show q + (i + 1) = q + 1 + i by omega, this]
    simp
theorem UInv.done {u q x : Nat} {C : Array Value} {D : List UInt8} (h : UInv u q x C D) (hx : x / 10 = 0) : Pl.utoa u = Pl.dig x :: D := by
  rw [h.2.2.1]
  cases q with
  | zero => rfl
  | succ q => rw [Pl.utoaN, if_pos hx]; rfl
theorem UInv.next {u q x : Nat} {C : Array Value} {D : List UInt8} (h : UInv u q x C D) (hq : q < 20) (hC : C.size = 20) (hx : ¬ x / 10 = 0) :
    ∃ q', q = q' + 1 ∧ UInv u q' (x / 10) (C.setIfInBounds q (.int .u8 (48 + (x : Int) % 10))) (Pl.dig x :: D) := by
  cases q with
  | zero => have := h.2.2.2; rw [pow10_1] at this; omega
  | succ q =>
    refine ⟨q, rfl, by simp [h.1]; omega, fun j hj => h.cells hq hC j hj, ?_, ?_⟩
    · rw [h.2.2.1, Pl.utoaN, if_neg hx]; simp
    · have := h.2.2.2
      rw [Nat.pow_succ] at this
      omega

set_option maxRecDepth 10000 in
set_option maxHeartbeats 400000 in
theorem utoa9 (u : Nat) (w : World) (hn : u < 18446744073709551616) :
    Calls Tryd.prog 9 #[.int .u64 u] w fun e w' => e = .returned (.string ⟨(Pl.utoa u).toArray⟩) ∧ Below w.heap.size w w' := by
  go_enter Tryd.func9, Tryd.ntmps9
  go_wp2
  go_loopw [0, 4] (fun v i wr => ∃ (x q : Nat) (C : Array Value) (D : List UInt8), q < 20 ∧ x ≤ 18446744073709551615 ∧ v = .int .u64 x ∧ i = .int .i64 ((q : Int) + 1) ∧ wr = w.alloc (.cells C 33) ∧ C.size = 20 ∧ Hid (UInv u q x C D))
    (fun v _ _ => (intOf v).toNat)
  case atStart => exact ⟨u, 19, _, [], by omega, by omega, rfl, rfl, rfl, rfl, (⟨rfl, fun j hj => absurd hj (Nat.not_lt_zero _), (List.append_nil _).symm, Nat.lt_of_lt_of_le hn pow10_20⟩ : UInv u 19 u _ [])⟩
  case round =>
    obtain ⟨x, q, C, D, hq, hx2, rfl, rfl, rfl, hC, hI⟩ := hrel
    have hc0 : C[q]? = some (C[q]'(by omega)) := Array.getElem?_eq_getElem _
    by_cases hx : x / 10 = 0
    · have hx' : ((x : Int) / 10 == 0) = true := by simp; omega
      have hsl := slice20 w.heap.size q hq
      have hconv := conv_digits w.heap.size q (w.alloc (.cells (C.setIfInBounds q (.int .u8 (48 + (x : Int) % 10))) 33)) (Pl.dig x :: D) (by simp [hI.out.1]; omega) (fun j hj => by
        rw [World.cell?_alloc_at]; exact hI.out.cells hq hC j hj; exact rfl)
      have HX : Hid _ := hx
      clear hx
      go_wp2
      go_ret
      exact ⟨ret_str (by rw [hI.out.done HX.out]), (Below.refl _ _).alloc (Nat.le_refl _) _⟩
    · have hx' : ((x : Int) / 10 == 0) = false := by simp; omega
      have HX : Hid _ := hx
      clear hx
      go_wp2
      obtain ⟨q', rfl, hI'⟩ := hI.out.next hq hC HX.out
      refine ⟨⟨x / 10, q', _, Pl.dig x :: D, by omega, by omega, by go_num, by go_num, rfl, by simp [hC], hI'⟩, ?_⟩
      have hne : ¬ x / 10 = 0 := HX.out
      simp [intOf]; omega

/-- A string, told by the list of its bytes. -/
def Str (t : ByteArray) (l : List UInt8) : Prop := t.data.toList = l
theorem Str.size {t : ByteArray} {l : List UInt8} (h : Str t l) : t.size = l.length := by
  rw [Lib.size_eq]; exact congrArg List.length h
theorem Str.app {a b : ByteArray} {l m : List UInt8} (ha : Str a l) (hb : Str b m) : Str (a ++ b) (l ++ m) := by
  unfold Str at *
  have : (a ++ b).data = a.data ++ b.data := ByteArray.data_append
  rw [this, Array.toList_append, ha, hb]
theorem Str.mk (l : List UInt8) : Str ⟨l.toArray⟩ l := rfl
theorem Str.eq {t : ByteArray} {l : List UInt8} (h : Str t l) : t = ⟨l.toArray⟩ := by
  obtain ⟨d⟩ := t
  unfold Str at h
  simp only at h
  rw [← h]

theorem zeros8s (n : Nat) (w : World) (hn : n ≤ 255) :
    Calls Tryd.prog 8 #[.int .i64 n] w fun e w' => ∃ t, e = .returned (.string t) ∧ Str t (Pl.zeros n) ∧ t.size ≤ 255 ∧ Below w.heap.size w w' :=
  (zeros8 n w hn).mono fun _ _ ⟨he, hb⟩ => ⟨_, he, Str.mk _, by rw [(Str.mk _).size, Pl.zeros_length]; exact hn, hb⟩
theorem utoa9s (u : Nat) (w : World) (hn : u < 18446744073709551616) :
    Calls Tryd.prog 9 #[.int .u64 u] w fun e w' => ∃ t, e = .returned (.string t) ∧ Str t (Pl.utoa u) ∧ t.size ≤ 20 ∧ Below w.heap.size w w' :=
  (utoa9 u w hn).mono fun _ _ ⟨he, hb⟩ => ⟨_, he, Str.mk _, by rw [(Str.mk _).size]; exact (Pl.utoa_length u).2, hb⟩

/-- A numeral with its sign ('jpb1Itoa'): an exponent's text without plus and zeros. -/
theorem itoa13 (v : Int) (w : World) (hlo : -9223372036854775808 ≤ v) (hhi : v ≤ 9223372036854775807) :
    Calls Tryd.prog 13 #[.int .i64 v] w fun e w' => ∃ t, e = .returned (.string t) ∧ Str t (Pl.expB false 0 v) ∧ t.size ≤ 21 ∧ Below w.heap.size w w' := by
  by_cases h : v < 0
  · have e1 : Pl.expB false 0 v = [45] ++ Pl.utoa v.natAbs := by simp [Pl.expB, Pl.signB, h, Pl.zeros]
    rw [e1]
    go_enter Tryd.func13, Tryd.ntmps13
    go_wp2_with fail
    refine (mag10_neg v _ h hlo).mono ?_
    rintro e w1 ⟨rfl, rfl⟩
    go_wp2_with fail
    refine (utoa9s v.natAbs _ (by omega)).mono ?_
    rintro e w1 ⟨t, rfl, ht, hts, hb⟩
    go_wp2
    go_ret
    have hsum := (Str.mk [45]).app ht
    exact ⟨_, rfl, hsum, by have h1 := hsum.size; have h2 := ht.size; rw [List.length_append, List.length_singleton] at h1; show ByteArray.size _ ≤ _; omega, hb⟩
  · have e1 : Pl.expB false 0 v = Pl.utoa v.natAbs := by simp [Pl.expB, Pl.signB, h, Pl.zeros]
    have e2 : (IntKind.u64.wrap v) = (v.natAbs : Int) := by simp only [IntKind.wrap_u64]; omega
    rw [e1]
    go_enter Tryd.func13, Tryd.ntmps13
    go_wp2_with fail
    refine (utoa9s v.natAbs _ (by omega)).mono ?_
    rintro e w1 ⟨t, rfl, ht, hts, hb⟩
    go_wp2
    go_ret
    exact ⟨_, rfl, ht, by omega, hb⟩
end Go.Proofs.Qxb6600640aDoor
