/-
  THE CARD OF FnParseDecimalAgainstDigitModel.
-/
import Derived.Test.Qxb6600640aDoorLawA
import Derived.Test.Qxb6600640aDoorFrame
namespace Go.Proofs.Qxb6600640aDoor
open Go Go.ChangeShapes Go.WideShapes Go.ChangeAt Go.RowKit
open Go.ChangeMaps (open_string shut_string)

theorem law3 (b0 b2 b4 b5 b6 : Bool) (whole frac : ByteArray) (pad exp : Int) (w : World) (m : Int) (ve : Value) (h1 : whole.size ≤ maxLen) (h2 : frac.size ≤ maxLen)
    (hp : 0 ≤ pad ∧ pad ≤ 255) (hx : -9223372036854775808 ≤ exp ∧ exp ≤ 9223372036854775807)
    (hm : w.cell? ⟨0, 0, none⟩ = some (.int .i64 m)) (hve : w.cell? ⟨2, 0, none⟩ = some ve) (hev : ve = .nilIface ∨ ∃ te pe, ve = .iface te pe) :
    Calls Tryd.prog 3 #[.bool b0, .string whole, .bool b2, .string frac, .bool b4, .bool b5, .bool b6, .int .u8 pad, .int .i64 exp] w fun e w' => e = .returned (.bool true) ∧ Below w.heap.size w w' := by
  by_cases hsum : whole.size + frac.size ≤ 1048576
  · cases hw : Pl.allD whole.data.toList with
    | false => exact law3_bad b0 b2 b4 b5 b6 whole frac pad exp w hsum (Or.inl hw)
    | true =>
      cases hf : Pl.allD frac.data.toList with
      | false => exact law3_bad b0 b2 b4 b5 b6 whole frac pad exp w hsum (Or.inr ⟨hw, hf⟩)
      | true =>
        obtain ⟨n, rfl⟩ : ∃ n : Nat, pad = n := ⟨pad.toNat, by omega⟩
        exact law3_good b0 b2 b4 b5 b6 whole frac n exp w m ve hsum hw hf (by omega) hx.1 hx.2 hm hve hev
  · exact law3_big b0 b2 b4 b5 b6 whole frac pad exp w h1 h2 hsum

set_option maxRecDepth 100000 in
theorem lifted3 (os : Os) (started : os.Started) (H : Type) (enc : TypeId × Value → H) :
    ReturnsInHanded {} Tryd.checked os 3 .any (fun w args => (Rows.fnParseDecimalAgainstDigitModelSpec.pre enc Tryd.prog Tryd.f3 Rows.fnParseDecimalAgainstDigitModelRow.domain false w args ∧ laidMetH Tryd.prog laidL w) ∧ sizedMet enc Tryd.prog Tryd.f3 (OpenSpec.ofChange Rows.fnParseDecimalAgainstDigitModelSpec) false w args)
      (Rows.fnParseDecimalAgainstDigitModelSpec.post enc Tryd.prog Tryd.f3 false true false false) := by
  refine returnsInHanded_of_change_and_shaped (C := Tryd.checked) (X := fun w _ => laidMetH Tryd.prog laidL w) (fun _ _ _ hh h => h.of_heap hh) own started (by kernel_rfl) Tryd.func3
    (ChangeSpec.witness_shaped (enc := enc) (C := Tryd.checked) (os := os) (X := fun w _ => laidMetH Tryd.prog laidL w) false (World.laidAll Tryd.prog os laidL) #[.bool false, .string ⟨#[]⟩, .bool false, .string ⟨#[]⟩, .bool false, .bool false, .bool false, .int .u8 0, .int .i64 0] 8 (World.laidAll_os _ _ _)
      (World.shaped_of_ZipB (by kernel_rfl) (by kernel_rfl)) (by kernel_rfl) (by kernel_rfl) (by kernel_rfl) (door_met os _)) ?_
  intro W base args ds gs before hval0 hW hL hsh
  have hval : ∀ (j : Nat) t v, Tryd.f3.params[j]? = some t → args[j]? = some v → Value.okWide Tryd.prog W .any base t v := hval0
  have hW' := hW
  obtain ⟨p, q, hA0, hV, rfl, _, _⟩ := hW
  have hA : DataW.TrodAll enc Tryd.prog W 0 (fun _ => true) true Tryd.f3.params.toList args.toList ds p := hA0
  rw [Tryd.params3] at hA hval
  obtain ⟨v0, vs0, d0, ds0, p0, q0, hargs, rfl, rfl, h0, r0⟩ := trodAll_cons hA
  obtain ⟨v1, vs1, d1, ds1, p1, q1, rfl, rfl, rfl, h1, r1⟩ := trodAll_cons r0
  obtain ⟨v2, vs2, d2, ds2, p2, q2, rfl, rfl, rfl, h2, r2⟩ := trodAll_cons r1
  obtain ⟨v3, vs3, d3, ds3, p3, q3, rfl, rfl, rfl, h3, r3⟩ := trodAll_cons r2
  obtain ⟨v4, vs4, d4, ds4, p4, q4, rfl, rfl, rfl, h4, r4⟩ := trodAll_cons r3
  obtain ⟨v5, vs5, d5, ds5, p5, q5, rfl, rfl, rfl, h5, r5⟩ := trodAll_cons r4
  obtain ⟨v6, vs6, d6, ds6, p6, q6, rfl, rfl, rfl, h6, r6⟩ := trodAll_cons r5
  obtain ⟨v7, vs7, d7, ds7, p7, q7, rfl, rfl, rfl, h7, r7⟩ := trodAll_cons r6
  obtain ⟨v8, vs8, d8, ds8, p8, q8, rfl, rfl, rfl, h8, r8⟩ := trodAll_cons r7
  obtain ⟨rfl, rfl, rfl⟩ := trodAll_nil r8
  obtain rfl : args = #[v0, v1, v2, v3, v4, v5, v6, v7, v8] := by cases args; simp_all
  obtain ⟨rfl, rfl⟩ := trodVars_none hV
  obtain ⟨a0, rfl, rfl, rfl⟩ := open_bool Tryd.underlying4 (hval 0 4 v0 rfl rfl) h0
  obtain ⟨a1, rfl, rfl, rfl, w1⟩ := open_string Tryd.underlying9 (hval 1 9 v1 rfl rfl) h1
  obtain ⟨a2, rfl, rfl, rfl⟩ := open_bool Tryd.underlying4 (hval 2 4 v2 rfl rfl) h2
  obtain ⟨a3, rfl, rfl, rfl, w3⟩ := open_string Tryd.underlying9 (hval 3 9 v3 rfl rfl) h3
  obtain ⟨a4, rfl, rfl, rfl⟩ := open_bool Tryd.underlying4 (hval 4 4 v4 rfl rfl) h4
  obtain ⟨a5, rfl, rfl, rfl⟩ := open_bool Tryd.underlying4 (hval 5 4 v5 rfl rfl) h5
  obtain ⟨a6, rfl, rfl, rfl⟩ := open_bool Tryd.underlying4 (hval 6 4 v6 rfl rfl) h6
  obtain ⟨a7, rfl, rfl, rfl, w7⟩ := open_int Tryd.underlying5 (hval 7 5 v7 rfl rfl) h7
  obtain ⟨a8, rfl, rfl, rfl, w8⟩ := open_int Tryd.underlying2 (hval 8 2 v8 rfl rfl) h8
  clear hA0 hval0
  simp only [List.append_nil] at hW'
  have b7 : 0 ≤ a7 ∧ a7 ≤ 255 := by simpa [Lit.wf, IntKind.min, IntKind.max, IntKind.signed, IntKind.bits] using w7
  have b8 : -9223372036854775808 ≤ a8 ∧ a8 ≤ 9223372036854775807 := by simpa [Lit.wf, IntKind.min, IntKind.max, IntKind.signed, IntKind.bits] using w8
  obtain ⟨m, hm⟩ := max_cell hsh
  obtain ⟨ve, hve, hev⟩ := range_cell hL
  refine (law3 a0 a2 a4 a5 a6 a1 a3 a7 a8 W m ve w1 w3 b7 b8 hm hve hev).mono fun e W' ⟨he, hb⟩ => ?_
  subst he
  exact ⟨_, rfl, _, _, _, [], [], [], hW', trodAll_mk1 (shut_bool Tryd.underlying4 _),
    (trodAll_cons_mk (shut_bool Tryd.underlying4 _) (trodAll_cons_mk (shut_string Tryd.underlying9 w1) (trodAll_cons_mk (shut_bool Tryd.underlying4 _) (trodAll_cons_mk (shut_string Tryd.underlying9 w3) (trodAll_cons_mk (shut_bool Tryd.underlying4 _) (trodAll_cons_mk (shut_bool Tryd.underlying4 _) (trodAll_cons_mk (shut_bool Tryd.underlying4 _) (trodAll_cons_mk (shut_int Tryd.underlying5 w7) (trodAll_cons_mk (shut_int Tryd.underlying2 w8) trodAll_mk0))))))))),
    rfl, hb.frame _, fun h => by cases h⟩

theorem holds3 : Rows.FnParseDecimalAgainstDigitModelSaid :=
  OpenClaim.holds_of_wide 3 Tryd.f3 rfl rfl rfl rfl rfl rfl rfl ⟨rfl, rfl, rfl, rfl, rfl⟩ rfl rfl rfl rfl rfl (by kernel_rfl) Tryd.func3 (by kernel_rfl)
    (of_decide_eq_true (by kernel_rfl)) (by unfold Func.isWrapper; first | (rw [if_pos (by decide +kernel)]; kernel_rfl) | (rw [if_neg (by decide +kernel)]; exact ⟨rfl, rfl⟩))
    (fun os started H enc _ => lifted3 os started H enc)

theorem cardA_holds : Rows.FnParseDecimalAgainstDigitModelCardSaid :=
  Claim7.holds_tied_plain_at .later [] [.data, .data, .data, .data, .called, .called, .pinned] true (true, "5d35b0b1b1aa864f634f18f3fcc714e741fa6023553e622a2753c831e163e5f5") true holds3 (fun _ h => by cases h) (by kernel_rfl) (fun _ h => by cases h) fnParseDecimalAgainstDigitModel_row_tie rfl ⟨rfl, rfl⟩ (by kernel_rfl) rfl
    (fun f fn hf hfn => by
      obtain rfl : f = 3 := Option.some.inj ((show Tryd.prog.funcNamed Rows.fnParseDecimalAgainstDigitModelRow.func = some 3 by kernel_rfl).symm.trans hf) |>.symm
      obtain rfl : fn = Tryd.f3 := (Option.some.inj (Tryd.func3.symm.trans hfn)).symm
      exact ⟨by kernel_rfl, fun j t ht => by
        rw [Tryd.params3] at ht
        have hm : t ∈ [4, 9, 4, 9, 4, 4, 4, 5, 2] := by simpa using Array.mem_of_getElem? ht
        have hall : ([4, 9, 4, 9, 4, 4, 4, 5, 2].all fun u => !Tryd.prog.wantsStandIn u) = true := by kernel_rfl
        exact (show Tryd.prog.wantsStandIn t = false by simpa using List.all_eq_true.1 hall t hm)⟩)
    (by kernel_rfl)
end Go.Proofs.Qxb6600640aDoor
