/-
  bytes.IndexAny(s, "eE") AT A SLICE OF NO BYTE, OR OF TWO TO EIGHT: rune by rune.
-/
import Derived.Test.Qxb6600845aDoorIdx
namespace Go.Proofs.Qxb6600845aDoor
open Go Go.RowKit

set_option maxHeartbeats 4000000 in
set_option maxRecDepth 1000000 in
theorem idx_zero (p : Option Addr) (c : Nat) (w : World) :
    Calls Tryd.prog 14 #[.slice p 0 c, .string eE] w fun e w' => e = .returned (.int .i64 (Lib.indexAny [] [101, 69])) ∧ Below w.heap.size w w' := by
  go_enter Tryd.func14, Tryd.ntmps14
  go_wp2
  refine wp_loop_rounds 1 ?_
  rw [rounds_succ]
  go_wp2
  go_ret
  exact ⟨rfl, Below.refl _ _⟩

theorem str23 (r k : Nat) (l : List UInt8) (hd : Pl.Dec l r k) (hr : r ≠ 65533) (m : Int) (hm : (k : Int) ≤ m) (w : World) (hc : w.cell? ⟨0, 0, none⟩ = some (.int .i64 m)) :
    (callFunc 23 #[.string eE, .string (Utf8.encode (r : Int))]).run Tryd.prog w = .ok (.value (.int .i64 (-1))) w := by
  obtain ⟨h1, h2, _⟩ := hd.enc hr
  rw [run_callFunc_extern Tryd.func23 (by kernel_rfl) (by kernel_rfl) (by kernel_rfl) (e := Extern.BytealgIndex.index) (by kernel_rfl),
    Lib.run_indexString eE (Utf8.encode (r : Int)) w 0 m (by kernel_rfl) hc (by rw [h1]; exact h2) (by rw [h1]; exact hm) (by decide)]
  have e : Lib.index eE.data.toList (Utf8.encode (r : Int)).data.toList = -1 := hd.index hr
  rw [e]
  rfl

set_option maxHeartbeats 4000000 in
set_option maxRecDepth 1000000 in
theorem idx_short (b o n c : Nat) (bs : List UInt8) (w : World) (m : Int) (hE : Env w m) (hl : bs.length = n) (h2 : 2 ≤ n) (h8 : n ≤ 8) (hnc : n ≤ c) (hcell : ∀ i, i < n → w.cell? ⟨b, o + i, none⟩ = some (.int .u8 (bs.getD i 0).toNat)) :
    Calls Tryd.prog 14 #[.slice (some ⟨b, o, none⟩) n c, .string eE] w fun e w' => e = .returned (.int .i64 (Lib.indexAny bs [101, 69])) ∧ Below w.heap.size w w' := by
  have hbw : b < w.heap.size := lt_of_cell (hcell 0 (by omega))
  have hn1 : ((n : Int) == 1) = false := beq_eq_false_iff_ne.2 (by omega)
  have HD : Hid (∀ i, i < n → w.cell? ⟨b, o + i, none⟩ = some (.int .u8 (bs.getD i 0).toNat)) := hcell
  have HL : Hid (bs.length = n) := hl
  have HEn : Hid (Env w m) := hE
  clear hcell hl hE
  go_enter Tryd.func14, Tryd.ntmps14
  go_wp2
  go_loopg [11, 12, 13] n (fun g s11 s12 s13 wx => ∃ i : Nat, i + g = n ∧ s12 = .int .i64 i ∧ Hid (Lib.NoAny bs [101, 69] i) ∧ Below w.heap.size w wx)
  case atStart => exact ⟨0, by omega, rfl, Lib.NoAny.zero _ _, Below.refl _ _⟩
  case round =>
    obtain ⟨i, hig, rfl, HN, hb⟩ := hrel
    have HB : Hid (Below w.heap.size w wr) := hb
    clear hb
    by_cases hi : i < n
    · obtain ⟨x, hx⟩ : ∃ x : UInt8, x = bs.getD i 0 := ⟨_, rfl⟩
      have Hx : Hid (bs[i]? = some x) := by rw [hx]; exact getD_some (by rw [HL.out]; exact hi)
      have hcl : wr.cell? ⟨b, o + i, none⟩ = some (.int .u8 x.toNat) := by
        rw [HB.out.cell (p := ⟨b, o + i, none⟩) hbw, hx]
        exact HD.out i hi
      clear hx
      by_cases hlo : x.toNat < 128
      · cases hin : ([101, 69] : List UInt8).contains x with
        | true =>
          have HI : Hid (([101, 69] : List UInt8).contains x = true) := hin
          obtain ⟨j, hj, hby⟩ := byte17_in x hin
          clear hin
          go_wp2
          go_ret
          exact ⟨by rw [Lib.indexAny_hit HN.out Hx.out HI.out]; rfl, HB.out⟩
        | false =>
          have HI : Hid (([101, 69] : List UInt8).contains x = false) := hin
          obtain ⟨j, hj, hby⟩ := byte17_out x hin
          clear hin
          go_wp2
          go_roundg (n - (i + 1))
          case measure => omega
          case rel => exact ⟨i + 1, by omega, by go_num, HN.out.succ Hx.out HI.out, HB.out⟩
      · have hx256 := x.toNat_lt
        go_wp2_with fail
        refine (dec22 b (o + i) (n - i) (c - i) (bs.drop i) wr m (HEn.out.below HB.out) (by rw [List.length_drop, HL.out]) x (by rw [List.getElem?_drop]; exact Hx.out) (by omega) (fun j hj => ?_)).mono ?_
        · rw [Nat.add_assoc, HB.out.cell (p := ⟨b, o + (i + j), none⟩) hbw, HD.out (i + j) (by omega)]
          simp [List.getD]
        rintro e w2 ⟨r, k, rfl, hd, hb2⟩
        have hk1 := hd.k1
        have hk2 : i + k ≤ n := by have := hd.kl; rw [List.length_drop, HL.out] at this; omega
        have hr1 := hd.r1
        have hr2 := hd.r2
        have HN2 : Hid (Lib.NoAny bs [101, 69] (i + k)) := hd.noAny HN.out
        have HB2 : Hid (Below w.heap.size w w2) := HB.out.trans (hb2.mono HB.out.size)
        have hmx : w2.cell? ⟨0, 0, none⟩ = some (.int .i64 m) := (HEn.out.below HB2.out).max
        have HDC : Hid (Pl.Dec (bs.drop i) r k) := hd
        clear hd hb2
        have n0 := next0 w2
        have n1 := next1 w2
        have n2 := next2 w2
        by_cases hre : r = 65533
        · subst hre
          clear HDC hmx
          go_wp2
          refine wp_loop_rounds 3 ?_
          rw [rounds_succ]
          go_wp2
          rw [rounds_succ]
          go_wp2
          rw [rounds_succ]
          go_wp2
          go_roundg (n - (i + k))
          case measure => omega
          case rel => exact ⟨i + k, by omega, by go_num, HN2.out, below_iter HB2.out HB2.out.size _ _⟩
        · have hrb : ((r : Int) != 65533) = true := by simp; omega
          have hra : ((r : Int) == 101) = false := by simp; omega
          have hrc : ((r : Int) == 69) = false := by simp; omega
          obtain ⟨he1, he2, he3⟩ := HDC.out.enc hre
          by_cases hk : k = 2
          · subst hk
            have hcmp : (([101, 69] : List UInt8) == (Utf8.encode (r : Int)).toList) = false := by
              rw [Lib.toList_data]
              exact beq_eq_false_iff_ne.2 (fun e => he3 e.symm)
            clear he1 he2 he3 hre HDC hmx n0 n1 n2
            go_wp2
            go_roundg (n - (i + 2))
            case measure => omega
            case rel => exact ⟨i + 2, by omega, by go_num, HN2.out, HB2.out⟩
          · have hk3 : ((2 : Int) == (k : Int)) = false := by simp; omega
            by_cases hmk : (k : Int) ≤ m
            · have hst := str23 r k (bs.drop i) HDC.out hre m hmk w2 hmx
              clear he1 he2 he3 hre HDC n0 n1 n2 hk
              go_wp2
              go_roundg (n - (i + k))
              case measure => omega
              case rel => exact ⟨i + k, by omega, by go_num, HN2.out, HB2.out⟩
            · clear he1 he2 he3 hre HDC hk
              go_wp2
              refine wp_loop_rounds 3 ?_
              rw [rounds_succ]
              go_wp2
              rw [rounds_succ]
              go_wp2
              rw [rounds_succ]
              go_wp2
              go_roundg (n - (i + k))
              case measure => omega
              case rel => exact ⟨i + k, by omega, by go_num, HN2.out, below_iter HB2.out HB2.out.size _ _⟩
    · obtain rfl : i = n := by omega
      go_wp2
      go_ret
      exact ⟨by rw [Lib.indexAny_none (by rw [HL.out]; exact HN.out)]; rfl, HB.out⟩

/-- bytes.IndexAny(s, "eE") AT EVERY SLICE OF AT MOST 2^18 BYTES, nil TOO. -/
theorem idx14 (p : Option Addr) (n c : Nat) (bs : List UInt8) (w : World) (m : Int) (hE : Env w m) (hl : bs.length = n) (hn : n ≤ 262144) (hnc : n ≤ c) (hB : Lib.BytesAt w p n bs) :
    Calls Tryd.prog 14 #[.slice p n c, .string eE] w fun e w' => e = .returned (.int .i64 (Lib.indexAny bs [101, 69])) ∧ Below w.heap.size w w' := by
  by_cases h0 : n = 0
  · subst h0
    obtain rfl : bs = [] := List.eq_nil_of_length_eq_zero hl
    exact idx_zero p c w
  · obtain ⟨b, o, rfl, hcell⟩ := hB (by omega)
    by_cases h1 : n = 1
    · subst h1
      match bs, hl with
      | [x], _ => exact idx_one b o c x w (by simpa using hcell 0 (by omega))
    · by_cases h8 : 8 < n
      · exact idx_long b o n c bs w hl h8 hn hcell
      · exact idx_short b o n c bs w m hE hl (by omega) (by omega) hnc hcell
end Go.Proofs.Qxb6600845aDoor
