/-
  THE WALK OF FnBearerTokenRoundTrip (function 3).
-/
import Derived.Test.Qxb6600703aDoorWalks
import Derived.Deep.DeepCutAuto
import Derived.WalkSpells
namespace Go.Proofs.Qxb6600703aDoor
open Go Go.RowKit

set_option maxRecDepth 10000 in
set_option maxHeartbeats 800000 in
theorem law_early (mask n : Int) (tok : ByteArray) (w : World) (h1 : tok.size ≤ maxLen)
    (hout : ¬ tok.size ≤ 1048576 ∨ (tok.size ≤ 1048576 ∧ n < 1) ∨ (tok.size ≤ 1048576 ∧ 1 ≤ n ∧ 4096 < n) ∨ (tok.size ≤ 1048576 ∧ 1 ≤ n ∧ n ≤ 4096 ∧ ∃ h : 0 < tok.size, (tok[0]'h) = 32)) :
    Calls Tryd.prog 3 #[.int .u8 mask, .int .i64 n, .string tok] w fun e w' => e = .returned (.bool true) ∧ Below w.heap.size w w' := by
  rcases hout with h | ⟨h, h2⟩ | ⟨h, h2, h3⟩ | ⟨h, h2, h3, h4, h5⟩
  · go_enter Tryd.func3, Tryd.ntmps3
    go_wp2_with fail
    refine (bytes7 mask n tok _ h1).mono ?_
    rintro e w1 ⟨⟨b, rfl, hb⟩, rfl⟩
    obtain rfl : b = false := by
      cases b with
      | false => rfl
      | true => exact absurd (hb.1 rfl) h
    clear hb
    go_wp2
    go_ret
    exact ⟨rfl, Below.refl _ _⟩
  · go_enter Tryd.func3, Tryd.ntmps3
    go_wp2_with fail
    refine (bytes7 mask n tok _ h1).mono ?_
    rintro e w1 ⟨⟨b, rfl, hb⟩, rfl⟩
    obtain rfl : b = true := hb.2 h
    clear hb
    go_wp2
    go_ret
    exact ⟨rfl, Below.refl _ _⟩
  · go_enter Tryd.func3, Tryd.ntmps3
    go_wp2_with fail
    refine (bytes7 mask n tok _ h1).mono ?_
    rintro e w1 ⟨⟨b, rfl, hb⟩, rfl⟩
    obtain rfl : b = true := hb.2 h
    clear hb
    go_wp2
    go_ret
    exact ⟨rfl, Below.refl _ _⟩
  · have h6 : ((tok[0]'h4).toNat : Int) = 32 := by rw [h5]; rfl
    have h7 : (((tok[0]'h4).toNat : Int) == 32) = true := by rw [h6]; rfl
    clear h5 h6
    go_enter Tryd.func3, Tryd.ntmps3
    go_wp2_with fail
    refine (bytes7 mask n tok _ h1).mono ?_
    rintro e w1 ⟨⟨b, rfl, hb⟩, rfl⟩
    obtain rfl : b = true := hb.2 h
    clear hb
    go_wp2
    go_ret
    exact ⟨rfl, Below.refl _ _⟩

theorem Tryd.info5 : (Tryd.prog.info? 5).map (fun i => (i.zero, i.size, i.bytes)) = some (some (.int .u8 0), 1, 1) := by kernel_rfl

/-- A byte as a value; a list of bytes as cells. -/
def bv (c : UInt8) : Value := .int .u8 (c.toNat : Int)
def cells (l : List UInt8) : List Value := l.map bv

theorem letter (k : Nat) (h : k < (⟨#[98, 101, 97, 114, 101, 114]⟩ : ByteArray).size) : (⟨#[98, 101, 97, 114, 101, 114]⟩ : ByteArray)[k]'h = Pl.lt k := by
  have hk : k < 6 := h
  have : k = 0 ∨ k = 1 ∨ k = 2 ∨ k = 3 ∨ k = 4 ∨ k = 5 := by omega
  rcases this with rfl | rfl | rfl | rfl | rfl | rfl <;> rfl
theorem cells_snoc (l : List UInt8) (c : UInt8) (x : Int) (h : (c.toNat : Int) = x) : cells (l ++ [c]) = cells l ++ [.int .u8 x] := by
  subst h; simp [cells, bv]
theorem up_val (k : Nat) (hk : k < 6) : ((Pl.lt k - 32).toNat : Int) = (Pl.lt k).toNat - 32 := by
  rw [Pl.lt_up k hk]; have := Pl.lt_range k hk; omega
/-- What an append of one byte hands on. -/
theorem grown_below {w wr w1 : World} {v : Value} {C : Obj} {xs : List Value} {n : Nat} (hb : Below w.heap.size w wr) (hown : wr.ownsRow w.heap.size 5 1 v n xs) (hg : (wr.alloc C).grownBy w1 v.ownBlock) : Below w.heap.size w w1 := by
  refine (hb.alloc hb.size C).grown hg (by have := hb.size; simp; omega) (fun k hk => ?_)
  rcases hown.2 with ⟨rfl, _⟩ | ⟨g, cap, cur, rfl, hg', _⟩
  · simp [Value.ownBlock] at hk
  · simp [Value.ownBlock] at hk; omega

theorem own_shape {w : World} {B n : Nat} {v : Value} {xs : List Value} (h : w.ownsRow B 5 1 v n xs) (hn : 0 < n) : ∃ g cap, v = .slice (some ⟨g, 0, none⟩) n cap ∧ ∀ j, j < n → w.cell? ⟨g, j, none⟩ = xs[j]? := by
  rcases h.2 with ⟨_, h0⟩ | ⟨g, cap, cur, rfl, _⟩
  · omega
  · exact ⟨g, cap, rfl, fun j hj => h.cellAt j (by omega)⟩
theorem conv_own {w : World} {g n cap : Nat} {l : List UInt8} (hl : l.length = n) (hc : ∀ j, j < n → w.cell? ⟨g, j, none⟩ = (cells l)[j]?) :
    (convert 23 9 (.slice (some ⟨g, 0, none⟩) n cap)).run Tryd.prog w = .ok (.string ⟨l.toArray⟩) w := by
  subst hl
  exact run_convert_bytes_back (P := Tryd.prog) w 23 9 5 ⟨g, 0, none⟩ cap l Tryd.underlying23 Tryd.underlying5 Tryd.underlying9 (fun j hj => by
    have h1 : (⟨g, 0, none⟩ : Addr).add j = ⟨g, j, none⟩ := by unfold Addr.add; split <;> simp_all
    rw [h1, hc j hj]
    simp [cells, bv, hj])
theorem tok_snoc (s : ByteArray) (k : Nat) (h : k < s.size) : s.data.toList.take (k + 1) = s.data.toList.take k ++ [s[k]] := by
  rw [List.take_succ_eq_append_getElem (by rw [← Lib.size_eq]; exact h)]; rfl

set_option maxRecDepth 10000 in
set_option maxHeartbeats 2000000 in
theorem law_good (mask : Int) (n : Nat) (tok : ByteArray) (w : World) (m : Int) (_hm0 : 0 ≤ mask) (_hm1 : mask ≤ 255) (h : tok.size ≤ 1048576) (hn1 : 1 ≤ n) (hn2 : n ≤ 4096) (ht : ∀ c, tok.data.toList.head? = some c → c ≠ 32)
    (hm : w.cell? ⟨5, 0, none⟩ = some (.int .i64 m)) :
    Calls Tryd.prog 3 #[.int .u8 mask, .int .i64 n, .string tok] w fun e w' => e = .returned (.bool true) ∧ Below w.heap.size w w' := by
  obtain ⟨i0, hi, hz0, hz1, hz2⟩ := info_parts Tryd.info5
  have HT : Hid (∀ c, tok.data.toList.head? = some c → c ≠ 32) := ht
  have h0 : ∀ hp : 0 < tok.size, (((tok[0]'hp).toNat : Int) == 32) = false := fun hp => by
    have hne : (tok[0]'hp) ≠ 32 := ht _ (by
      have : tok.data.toList[0]? = some (tok[0]'hp) := List.getElem?_eq_getElem (by rw [← Lib.size_eq]; exact hp)
      rw [List.head?_eq_getElem?]; exact this)
    have : (tok[0]'hp).toNat ≠ 32 := fun e => hne (UInt8.toNat_inj.1 e)
    simp; omega
  clear ht
  go_enter Tryd.func3, Tryd.ntmps3
  go_wp2_with fail
  refine (bytes7 mask n tok _ (by unfold maxLen; omega)).mono ?_
  rintro e w1 ⟨⟨b, rfl, hb⟩, hw1⟩
  obtain rfl : w = w1 := hw1.symm
  obtain rfl : b = true := hb.2 h
  clear hb hw1
  go_upto_region 7 with fail
  go_cut [35] (fun s35 wx => w = wx ∧ s35 = .bool false)
  case first =>
    by_cases hp : 0 < tok.size
    · have h0' := h0 hp
      go_wp2
      all_goals
        go_meet
        case rel => exact ⟨rfl, rfl⟩
    · go_wp2
      all_goals
        go_meet
        case rel => exact ⟨rfl, rfl⟩
  case rest =>
    obtain ⟨rfl, rfl⟩ := hcut
    clear h0
    go_wp2_with (at_make; refine wpList_make_own _ rfl _ _ 23 rfl w.heap.size 5 i0 (.int .u8 0) 1 Tryd.underlying23 hi hz0 hz1 .i64 .i64 _ (6 + n + tok.size) rfl rfl (by simp) (by rw [hz2]; omega) (by unfold maxLen; omega) (Nat.le_refl _) ?_; intro w1 hown hgrow)
    have hb1 : Below w.heap.size w w1 := (Below.refl _ _).grown hgrow (Nat.le_refl _) (by simp)
    clear hgrow
    go_loopw [7, 8, 9] (fun v i c wr => ∃ (k : Nat) (l : List UInt8), k ≤ 6 ∧ i = .int .i64 k ∧ wr.ownsRow w.heap.size 5 1 v k (cells l) ∧ Hid (Pl.Pre l k) ∧ Below w.heap.size w wr)
      (fun _ i _ _ => 6 - (intOf i).toNat)
    case atStart => exact ⟨0, [], by omega, rfl, hown, Pl.Pre.zero, hb1⟩
    case round =>
      clear hown hb1
      obtain ⟨k, l, hk, rfl, hown, hP, hb⟩ := hrel
      by_cases hlt : k < 6
      · obtain ⟨hr1, hr2⟩ := Pl.lt_range k hlt
        have hix := letter k
        cases hbit : (bits BinOp.and IntKind.u8 (mask / 2 ^ k) 1 == 1) with
        | false =>
          go_wp2_with (at_builtin; refine wpList_append_own _ rfl (.tmp 56) (.tmp 58) 23 rfl w.heap.size 5 i0 (.int .u8 0) 1 1 Tryd.underlying23 hi hz0 hz1 hz2 rfl (by decide) _ _ _ rfl (hown.alloc _) ⟨wr.heap.size, 0, none⟩ 1 1 [.int .u8 ((Pl.lt k).toNat : Int)] rfl rfl (cell_one_new _ _ _) (by intro u hu; simp at hu; subst hu; rfl) (by unfold maxLen; omega) (by omega) (by have := hb.size; simp; omega) ?_; intro v' w2 hown' hgrow _)
          go_roundw
          case rel => exact ⟨k + 1, l ++ [Pl.lt k], by omega, by go_num, by rw [cells_snoc l (Pl.lt k) _ rfl]; exact hown', hP.out.snoc _ (Or.inl rfl), grown_below hb hown hgrow⟩
          case measure => simp [intOf]; omega
        | true =>
          go_wp2_with (at_builtin; refine wpList_append_own _ rfl (.tmp 56) (.tmp 58) 23 rfl w.heap.size 5 i0 (.int .u8 0) 1 1 Tryd.underlying23 hi hz0 hz1 hz2 rfl (by decide) _ _ _ rfl (hown.alloc _) ⟨wr.heap.size, 0, none⟩ 1 1 [.int .u8 ((Pl.lt k).toNat - 32 : Int)] rfl rfl (cell_one_new _ _ _) (by intro u hu; simp at hu; subst hu; rfl) (by unfold maxLen; omega) (by omega) (by have := hb.size; simp; omega) ?_; intro v' w2 hown' hgrow _)
          go_roundw
          case rel => exact ⟨k + 1, l ++ [Pl.lt k - 32], by omega, by go_num, by rw [cells_snoc l (Pl.lt k - 32) _ (up_val k hlt)]; exact hown', hP.out.snoc _ (Or.inr rfl), grown_below hb hown hgrow⟩
          case measure => simp [intOf]; omega
      · obtain rfl : k = 6 := by omega
        go_wp2_with fail
        go_loopw [7, 10] (fun v i wr => ∃ k : Nat, k ≤ n ∧ i = .int .i64 k ∧ wr.ownsRow w.heap.size 5 1 v (6 + k) (cells (l ++ Pl.sp k)) ∧ Below w.heap.size w wr) (fun _ i _ => n - (intOf i).toNat)
        case atStart => exact ⟨0, by omega, rfl, by rw [show l ++ Pl.sp 0 = l from List.append_nil l]; exact hown, hb⟩
        case round =>
          clear hown hb
          obtain ⟨k, hk, rfl, hown, hb⟩ := hrel
          by_cases hlt2 : k < n
          · go_wp2_with (at_builtin; refine wpList_append_own _ rfl (.tmp 65) (.tmp 66) 23 rfl w.heap.size 5 i0 (.int .u8 0) 1 1 Tryd.underlying23 hi hz0 hz1 hz2 rfl (by decide) _ _ _ rfl (hown.alloc _) ⟨wr.heap.size, 0, none⟩ 1 1 [.int .u8 32] rfl rfl (cell_one_new _ _ _) (by intro u hu; simp at hu; subst hu; rfl) (by unfold maxLen; omega) (by omega) (by have := hb.size; simp; omega) ?_; intro v' w2 hown' hgrow _)
            go_roundw
            case rel => (repeat apply Exists.intro); exact ⟨⟨k + 1, by omega, by go_num, by rw [Pl.sp_snoc, ← List.append_assoc, cells_snoc _ 32 32 rfl]; exact hown', grown_below hb hown hgrow⟩, rfl⟩
            case measure => simp [intOf]; omega
          · obtain rfl : k = n := by omega
            go_wp2_with fail
            go_loopw [7, 11] (fun v i wr => ∃ j : Nat, j ≤ tok.size ∧ i = .int .i64 j ∧ wr.ownsRow w.heap.size 5 1 v (6 + k + j) (cells (l ++ Pl.sp k ++ tok.data.toList.take j)) ∧ Below w.heap.size w wr) (fun _ i _ => tok.size - (intOf i).toNat)
            case atStart => exact ⟨0, by omega, rfl, by rw [show l ++ Pl.sp k ++ tok.data.toList.take 0 = l ++ Pl.sp k from by simp]; exact hown, hb⟩
            case round =>
              clear hown hb
              obtain ⟨j, hj, rfl, hown, hb⟩ := hrel
              by_cases hlt3 : j < tok.size
              · go_wp2_with (at_builtin; refine wpList_append_own _ rfl (.tmp 74) (.tmp 78) 23 rfl w.heap.size 5 i0 (.int .u8 0) 1 1 Tryd.underlying23 hi hz0 hz1 hz2 rfl (by decide) _ _ _ rfl (hown.alloc _) ⟨wr.heap.size, 0, none⟩ 1 1 [.int .u8 (tok[j].toNat : Int)] rfl rfl (cell_one_new _ _ _) (by intro u hu; simp at hu; subst hu; rfl) (by unfold maxLen; omega) (by omega) (by have := hb.size; simp; omega) ?_; intro v' w2 hown' hgrow _)
                go_roundw
                case rel => (repeat apply Exists.intro); exact ⟨⟨j + 1, by omega, by go_num, by rw [tok_snoc tok j hlt3, ← List.append_assoc, cells_snoc _ tok[j] _ rfl]; exact hown', grown_below hb hown hgrow⟩, rfl⟩
                case measure => simp [intOf]; omega
              · obtain rfl : j = tok.size := by omega
                obtain ⟨g, cap, rfl, hcell⟩ := own_shape hown (by omega)
                have hfull : tok.data.toList.take tok.size = tok.data.toList := List.take_of_length_le (by rw [Lib.size_eq]; exact Nat.le_refl _)
                rw [hfull] at hcell
                have hconv := conv_own (cap := cap) (by rw [List.length_append, List.length_append, Pl.sp_length, hP.out.1, ← Lib.size_eq]) hcell
                clear hown hcell hfull
                obtain ⟨n', rfl⟩ : ∃ n', k = n' + 1 := ⟨k - 1, by omega⟩
                have hm5 : wr.cell? ⟨5, 0, none⟩ = some (.int .i64 m) := by rw [hb.cell (p := ⟨5, 0, none⟩) (lt_of_cell hm)]; exact hm
                rw [List.append_assoc] at hconv
                have H8 : Hid (Calls Tryd.prog 8 #[.string ⟨(l ++ (Pl.sp (n' + 1) ++ tok.data.toList)).toArray⟩] wr fun e w' => ∃ x, e = .returned (.tuple #[.string x, .bool true]) ∧ Str x tok.data.toList ∧ Below wr.heap.size wr w') :=
                  zz8 _ l tok.data.toList n' m wr rfl hP.out (by rw [← Lib.size_eq]; omega) HT.out hm5
                go_wp2_with fail
                refine H8.out.mono ?_
                rintro e w3 ⟨x, rfl, hx, hb3⟩
                have heq : (x.toList == tok.toList) = true := by rw [Lib.toList_data, Lib.toList_data, (hx : x.data.toList = _)]; simp
                have HB3 : Hid (Below w.heap.size w w3) := hb.trans (hb3.mono hb.size)
                clear hx hb3 H8 hconv
                go_wp2
                go_ret
                exact ⟨rfl, HB3.out⟩
end Go.Proofs.Qxb6600703aDoor
