/-
  bytes.IndexAny(s, "eE") AT EVERY SLICE OF AT MOST 2^18 BYTES (function 14): Go's own text walked.
-/
import Derived.Test.Qxb6600845aDoorShelf
import Derived.Test.Qxb6600845aDoorPlain
import Derived.WalkKit
import Derived.Deep.LoopGhost
import Derived.LoopN
import Derived.Laws.RangeString
import Derived.Lib.IndexEntry
import Derived.Shelf.Strings.IndexAnyAll
namespace Go.Proofs.Qxb6600845aDoor
open Go Go.RowKit

theorem lt_of_cell {w : World} {b o : Nat} {v : Value} (h : w.cell? ⟨b, o, none⟩ = some v) : b < w.heap.size := by
  rcases Nat.lt_or_ge b w.heap.size with hl | hl
  · exact hl
  · simp [World.cell?, Array.getElem?_eq_none hl] at h

/-- The two letters. -/
abbrev eE : ByteArray := ⟨#[101, 69]⟩
theorem eE_list : eE.data.toList = [101, 69] := rfl
theorem eE_ascii : ∀ (j : Nat) b, eE.data.toList[j]? = some b → b.toNat < 128 := fun j b hb => by
  have hm : b ∈ ([101, 69] : List UInt8) := List.mem_of_getElem? hb
  simp at hm
  rcases hm with rfl | rfl <;> decide

theorem info34 : (Tryd.prog.info? 34).map (fun i => (i.zero, i.size)) = some (some (.agg (Array.replicate 256 (.bool false))), 256) := by kernel_rfl

/-- makeASCIISet("eE"). -/
theorem set20 (w : World) : Calls Tryd.prog 20 #[.string eE] w fun e w' => e = .returned (.tuple #[.agg (Lib.setCells [101, 69]), .bool true]) ∧ w' = w.alloc (.cells (Lib.setCells [101, 69]) 34) :=
  Any.bytes_makeASCIISet Tryd.laysV11 (zero_of_info info34).1 (zero_of_info info34).2 eE w (by decide) eE_ascii
theorem has21 (b : Nat) (x : UInt8) (v : Bool) (w : World) (hc : w.cell? ⟨b, x.toNat, none⟩ = some (.bool v)) :
    Calls Tryd.prog 21 #[.pointer (some ⟨b, 0, none⟩), .int .u8 x.toNat] w fun e w' => e = .returned (.bool v) ∧ w' = w :=
  Any.bytes_asciiSet_contains Tryd.laysV16 b x v w hc

theorem use19 (n : Int) (w : World) : Calls Tryd.prog 19 #[.int .i64 n] w fun e w' => e = .returned (.bool (decide (8 < n))) ∧ w' = w := by
  go_enter Tryd.func19, Tryd.ntmps19
  go_wp2
  go_ret
  exact ⟨rfl, rfl⟩
theorem getD_some {bs : List UInt8} {i : Nat} (h : i < bs.length) : bs[i]? = some (bs.getD i 0) := by simp [List.getD, h]

set_option maxHeartbeats 4000000 in
set_option maxRecDepth 1000000 in
theorem idx_long (b o n c : Nat) (bs : List UInt8) (w : World) (hl : bs.length = n) (h8 : 8 < n) (hn : n ≤ 262144) (hcell : ∀ i, i < n → w.cell? ⟨b, o + i, none⟩ = some (.int .u8 (bs.getD i 0).toNat)) :
    Calls Tryd.prog 14 #[.slice (some ⟨b, o, none⟩) n c, .string eE] w fun e w' => e = .returned (.int .i64 (Lib.indexAny bs [101, 69])) ∧ Below w.heap.size w w' := by
  have hbw : b < w.heap.size := lt_of_cell (hcell 0 (by omega))
  have hM := set20 w
  have h8z : decide ((8 : Int) < (n : Int)) = true := decide_eq_true (by omega)
  have hn1 : ((n : Int) == 1) = false := beq_eq_false_iff_ne.2 (by omega)
  have hsc : (storeCells ⟨w.heap.size + 1, 0, none⟩ (Lib.setCells [101, 69]).toList 0).run Tryd.prog ((w.alloc (.cells (Lib.setCells [101, 69]) 34)).alloc (.cells (Array.replicate 256 (.bool false)) 34)) = .ok () ((w.alloc (.cells (Lib.setCells [101, 69]) 34)).alloc (.cells (Lib.setCells [101, 69]) 34)) := by
    have := run_storeCells_new (P := Tryd.prog) (w.alloc (.cells (Lib.setCells [101, 69]) 34)) 34 (Array.replicate 256 (.bool false)) (Lib.setCells [101, 69]) (by rw [Lib.setCells_size]; exact (zero_of_info info34).2) (by rw [Lib.setCells_size, Array.size_replicate]) (Lib.setCells_one _)
    simpa using this
  have hsz := Lib.setCells_size [101, 69]
  have hv34 := (zero_of_info info34).1
  have HC : Hid (∀ x : UInt8, ((w.alloc (.cells (Lib.setCells [101, 69]) 34)).alloc (.cells (Lib.setCells [101, 69]) 34)).cell? ⟨w.heap.size + 1, x.toNat, none⟩ = some (.bool (([101, 69] : List UInt8).contains x))) := fun x => by
    rw [World.cell?_alloc_at _ _ _ _ (by simp), Lib.setCells_at]
  have HD : Hid (∀ i, i < n → w.cell? ⟨b, o + i, none⟩ = some (.int .u8 (bs.getD i 0).toNat)) := hcell
  have HL : Hid (bs.length = n) := hl
  clear hcell hl
  go_enter Tryd.func14, Tryd.ntmps14
  go_wp2_with fail
  refine (use19 _ _).mono ?_
  rintro e w1 ⟨rfl, hw1⟩
  obtain rfl : w = w1 := hw1.symm
  clear hw1
  rw [h8z]
  go_wp2_with fail
  refine hM.mono ?_
  rintro e w1 ⟨rfl, rfl⟩
  go_wp2_with fail
  clear hM hsc
  go_loopg [62] n (fun g s62 wx => ∃ i : Nat, i + g = n ∧ s62 = .int .i64 i ∧ wx = ((w.alloc (.cells (Lib.setCells [101, 69]) 34)).alloc (.cells (Lib.setCells [101, 69]) 34)) ∧ Hid (Lib.NoAny bs [101, 69] i))
  case atStart => exact ⟨0, by omega, rfl, rfl, Lib.NoAny.zero _ _⟩
  case round =>
    obtain ⟨i, hig, rfl, rfl, HN⟩ := hrel
    cases gk with
    | zero =>
      obtain rfl : i = n := by omega
      go_wp2
      go_ret
      exact ⟨by rw [Lib.indexAny_none (by rw [HL.out]; exact HN.out)]; rfl, ((Below.refl _ _).alloc (Nat.le_refl _) _).alloc (by simp) _⟩
    | succ g =>
      have hi : i < n := by omega
      obtain ⟨x, hx⟩ : ∃ x : UInt8, x = bs.getD i 0 := ⟨_, rfl⟩
      have Hx : Hid (bs[i]? = some x) := by rw [hx]; exact getD_some (by rw [HL.out]; exact hi)
      have hcl : ((w.alloc (.cells (Lib.setCells [101, 69]) 34)).alloc (.cells (Lib.setCells [101, 69]) 34)).cell? ⟨b, o + i, none⟩ = some (.int .u8 x.toNat) := by
        rw [World.cell?_alloc_past _ _ _ (by simp; omega), World.cell?_alloc_past _ _ _ hbw, hx]
        exact HD.out i hi
      clear hx
      have hcx := HC.out x
      cases hin : ([101, 69] : List UInt8).contains x <;> rw [hin] at hcx
      · have HI : Hid (([101, 69] : List UInt8).contains x = false) := hin
        clear hin
        go_wp2_with (go_at_call 21; refine (has21 _ x _ _ hcx).mono ?_; rintro e w' ⟨rfl, hw⟩; rw [hw])
        go_roundg g
        case measure => omega
        case rel => exact ⟨i + 1, by omega, by go_num, rfl, HN.out.succ Hx.out HI.out⟩
      · have HI : Hid (([101, 69] : List UInt8).contains x = true) := hin
        clear hin
        go_wp2_with (go_at_call 21; refine (has21 _ x _ _ hcx).mono ?_; rintro e w' ⟨rfl, hw⟩; rw [hw])
        go_ret
        exact ⟨by rw [Lib.indexAny_hit HN.out Hx.out HI.out]; rfl, ((Below.refl _ _).alloc (Nat.le_refl _) _).alloc (by simp) _⟩

theorem byte17 (c : Int) (w : World) : (callFunc 17 #[.string eE, .int .u8 c]).run Tryd.prog w = .ok (.value (.int .i64 (Lib.indexByte [101, 69] c.toNat.toUInt8))) w := by
  rw [run_callFunc_extern Tryd.func17 (by kernel_rfl) (by kernel_rfl) (by kernel_rfl) (e := Extern.BytealgIndexByte.indexByte) (by kernel_rfl), Lib.run_indexByteString]
  rfl

theorem byte17_in (x : UInt8) (h : ([101, 69] : List UInt8).contains x = true) : ∃ i : Int, 0 ≤ i ∧ ∀ w, (callFunc 17 #[.string eE, .int .u8 x.toNat]).run Tryd.prog w = .ok (.value (.int .i64 i)) w := by
  refine ⟨_, ?_, fun w => byte17 x.toNat w⟩
  have := Lib.contains_iff_indexByte [101, 69] x
  rw [h] at this
  have e : ((x.toNat : Int)).toNat.toUInt8 = x := by simp
  rw [e]
  exact of_decide_eq_true this.symm
theorem byte17_out (x : UInt8) (h : ([101, 69] : List UInt8).contains x = false) : ∃ i : Int, i < 0 ∧ ∀ w, (callFunc 17 #[.string eE, .int .u8 x.toNat]).run Tryd.prog w = .ok (.value (.int .i64 i)) w := by
  refine ⟨_, ?_, fun w => byte17 x.toNat w⟩
  have := Lib.contains_iff_indexByte [101, 69] x
  rw [h] at this
  have e : ((x.toNat : Int)).toNat.toUInt8 = x := by simp
  rw [e]
  have := of_decide_eq_false this.symm
  omega
theorem any1_in (x : UInt8) (h : ([101, 69] : List UInt8).contains x = true) : Lib.indexAny [x] [101, 69] = 0 := by
  rw [Lib.indexAny, if_pos h]
theorem any1_out (x : UInt8) (h : ([101, 69] : List UInt8).contains x = false) : Lib.indexAny [x] [101, 69] = -1 := by
  rw [Lib.indexAny, h]; rfl
theorem ret_int {k : IntKind} {a b : Int} (h : a = b) : Ending.returned (.int k a) = .returned (.int k b) := by rw [h]

theorem next0 (w : World) (ty : TypeId) : (Instr.next (.pointer (some ⟨w.heap.size, 0, none⟩)) true ty).run Tryd.prog (w.iter eE 0) = .ok (.tuple #[.bool true, .int .i64 0, .int .i32 101]) (w.iter eE 1) :=
  run_next_ascii (P := Tryd.prog) w eE 0 ty (by decide) (by decide)
theorem next1 (w : World) (ty : TypeId) : (Instr.next (.pointer (some ⟨w.heap.size, 0, none⟩)) true ty).run Tryd.prog (w.iter eE 1) = .ok (.tuple #[.bool true, .int .i64 1, .int .i32 69]) (w.iter eE 2) :=
  run_next_ascii (P := Tryd.prog) w eE 1 ty (by decide) (by decide)
theorem next2 (w : World) (ty : TypeId) : (Instr.next (.pointer (some ⟨w.heap.size, 0, none⟩)) true ty).run Tryd.prog (w.iter eE 2) = .ok (.tuple #[.bool false]) (w.iter eE 2) :=
  run_next_end (P := Tryd.prog) w eE 2 ty (by decide)
theorem below_iter {B : Nat} {a w : World} (h : Below B a w) (hB : B ≤ w.heap.size) (s : ByteArray) (p : Nat) : Below B a (w.iter s p) := h.alloc hB _

set_option maxHeartbeats 4000000 in
set_option maxRecDepth 1000000 in
theorem idx_one (b o c : Nat) (x : UInt8) (w : World) (hcell : w.cell? ⟨b, o, none⟩ = some (.int .u8 x.toNat)) :
    Calls Tryd.prog 14 #[.slice (some ⟨b, o, none⟩) 1 c, .string eE] w fun e w' => e = .returned (.int .i64 (Lib.indexAny [x] [101, 69])) ∧ Below w.heap.size w w' := by
  by_cases h : x.toNat < 128
  · cases hin : ([101, 69] : List UInt8).contains x with
    | true =>
      have HA : Hid (Lib.indexAny [x] [101, 69] = 0) := any1_in x hin
      obtain ⟨i, hi, hby⟩ := byte17_in x hin
      clear hin
      go_enter Tryd.func14, Tryd.ntmps14
      go_wp2
      go_ret
      exact ⟨ret_int HA.out.symm, Below.refl _ _⟩
    | false =>
      have HA : Hid (Lib.indexAny [x] [101, 69] = -1) := any1_out x hin
      obtain ⟨i, hi, hby⟩ := byte17_out x hin
      clear hin
      go_enter Tryd.func14, Tryd.ntmps14
      go_wp2
      go_ret
      exact ⟨ret_int HA.out.symm, Below.refl _ _⟩
  · have hx := x.toNat_lt
    have HA : Hid (Lib.indexAny [x] [101, 69] = -1) := any1_out x (Pl.noE_hi (by omega))
    have n0 := next0 w
    have n1 := next1 w
    have n2 := next2 w
    go_enter Tryd.func14, Tryd.ntmps14
    go_wp2
    refine wp_loop_rounds 3 ?_
    rw [rounds_succ]
    go_wp2
    rw [rounds_succ]
    go_wp2
    rw [rounds_succ]
    go_wp2
    go_ret
    exact ⟨ret_int HA.out.symm, below_iter (Below.refl _ _) (Nat.le_refl _) _ _⟩

/-- What is asked of the world where the decoder is called: its two tables, and MaxLen. -/
structure Env (w : World) (m : Int) : Prop where
  tabs : Lib.Utf8Tabs 1 2 w
  max : w.cell? ⟨0, 0, none⟩ = some (.int .i64 m)
  big : 2 < w.heap.size
theorem Env.below {w w' : World} {m : Int} (h : Env w m) (hb : Below w.heap.size w w') : Env w' m := by
  have hz := h.big
  refine ⟨⟨fun c hc => ?_, fun i hi => ⟨?_, ?_⟩⟩, ?_, Nat.lt_of_lt_of_le h.big hb.size⟩
  · rw [hb.cell (p := ⟨1, c, none⟩) (by show 1 < _; omega)]; exact h.tabs.1 c hc
  · rw [hb.cell (p := ⟨2, 2 * i, none⟩) hz]; exact (h.tabs.2 i hi).1
  · rw [hb.cell (p := ⟨2, 2 * i + 1, none⟩) hz]; exact (h.tabs.2 i hi).2
  · rw [hb.cell (p := ⟨0, 0, none⟩) (by show 0 < _; omega)]; exact h.max

/-- DecodeRune at a byte beyond ASCII. -/
theorem dec22 (b o n c : Nat) (l : List UInt8) (w : World) (m : Int) (hE : Env w m) (hl : l.length = n) (x : UInt8) (h0 : l[0]? = some x) (hx : 128 ≤ x.toNat) (hcell : ∀ i, i < n → w.cell? ⟨b, o + i, none⟩ = some (.int .u8 (l.getD i 0).toNat)) :
    Calls Tryd.prog 22 #[.slice (some ⟨b, o, none⟩) n c] w fun e w' => ∃ r k : Nat, e = .returned (.tuple #[.int .i32 r, .int .i64 k]) ∧ Pl.Dec l r k ∧ Below w.heap.size w w' := by
  subst hl
  have hsz : (⟨l.toArray⟩ : ByteArray).size = l.length := by rw [Lib.size_eq]
  have h := Any7.utf8_DecodeRune Tryd.lays732 ⟨l.toArray⟩ b o c w hE.tabs (fun j hj => by rw [Pl.get_mk]; exact hcell j (by rw [← hsz]; exact hj))
  rw [hsz] at h
  refine h.mono ?_
  rintro e w' ⟨rfl, hb⟩
  exact ⟨_, _, rfl, Pl.dec_step l x h0 hx, hb⟩
end Go.Proofs.Qxb6600845aDoor
