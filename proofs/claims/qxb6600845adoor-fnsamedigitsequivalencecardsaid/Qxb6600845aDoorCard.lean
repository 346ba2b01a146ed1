/-
  THE CARD OF FnSameDigitsEquivalence.
-/
import Derived.Test.Qxb6600845aDoorTie
import Derived.Test.Qxb6600845aDoorCards
import Derived.Test.Qxb6600845aDoorLaw
import Derived.ProofKit
import Derived.OpenShut
import Derived.Lay
import Derived.SevenTiedAt
import Derived.Stop.Joined
import Derived.Shelf.Vars
import Derived.PinnedBridge
import Derived.Lib.LaidU8
import Derived.Lib.SlBytesRowKit3
namespace Go.Proofs.Qxb6600845aDoor
open Go Go.ChangeShapes Go.WideShapes Go.ChangeAt Go.RowKit

section
variable {H : Type} {enc : TypeId × Value → H}
theorem returnsInHanded_of_change_and_shaped {a : Assume} {C : Checked} {os : Os} {f : FuncId} {fn : Func} {s : ChangeSpec} {conds : List PathCond} {apart fresh handsOn again : Bool} {X : World → Array Value → Prop}
    (hX : ∀ (w w' : World) (args : Array Value), w.heap = w'.heap → X w args → X w' args)
    (own : ownKnob C.prog.godebug = none) (started : os.Started) (noInit : C.prog.inits.idxOf? f = none) (hfn : C.prog.funcs[f]? = some fn)
    (witness : ∃ (w : World) (tape : Tape) (i : Input), w.os = os ∧ (w.forCall tape i).Shaped C.prog ∧ i.vars = [] ∧ Input.okWide C.prog (w.forCall tape i) .any w.heap.size f i ∧
      ((s.pre enc C.prog fn conds apart (w.forCall tape i).memory i.args ∧ X (w.forCall tape i).memory i.args) ∧ sizedMet enc C.prog fn (OpenSpec.ofChange s) apart (w.forCall tape i).memory i.args) ∧ a.holds C.prog (lone (Frame.enter C.prog f i.args .normal) [] (w.forCall tape i)))
    (contract : ∀ (W : World) (base : Nat) (args : Array Value) (ds gs : List (DataW H)) (before : List MemPlace),
      (∀ (j : Nat) t v, fn.params[j]? = some t → args[j]? = some v → Value.okWide C.prog W .any base t v) →
      DataW.Whole enc C.prog fn.params.toList s.vars apart W args.toList ds gs before →
      X W args → W.ShapedOpen C.prog →
      Calls C.prog f args W fun e W' => ∃ v, e = .returned v ∧ s.post enc C.prog fn apart fresh handsOn again W args v W') :
    ReturnsInHanded a C os f .any (fun w args => (s.pre enc C.prog fn conds apart w args ∧ X w args) ∧ sizedMet enc C.prog fn (OpenSpec.ofChange s) apart w args) (s.post enc C.prog fn apart fresh handsOn again) := by
  refine returnsInHanded_of_calls own started noInit witness ?_
  intro w tape i _ hsh _ hok hpre hholds
  obtain ⟨_, _, _, fn', hfn', _, _, _, _, hval⟩ := hok
  have e : fn' = fn := Option.some.inj (hfn'.symm.trans hfn)
  subst e
  obtain ⟨⟨⟨ds, gs, before, hw, hc⟩, hx⟩, hz⟩ := hpre
  have hw' := DataW.Whole.of_heap (w' := w.forCall tape i) (by rfl) hw
  refine (contract (w.forCall tape i) w.heap.size i.args ds gs before hval hw' (hX _ _ _ (by rfl) hx) hsh).mono fun e W' ⟨v, he, hp⟩ => ?_
  subst he
  exact ChangeSpec.post_blind hp
end

theorem own : ownKnob Tryd.prog.godebug = none := by kernel_rfl
theorem laidOut : laidOutB Tryd.prog = true := by kernel_rfl
theorem cells5 : Tryd.prog.cellsOf 5 = 1 := by kernel_rfl
theorem cells51 : Tryd.prog.cellsOf 51 = 256 := by kernel_rfl
theorem cells53 : Tryd.prog.cellsOf 53 = 2 := by kernel_rfl
abbrev laidL : List (String × DataW Unit) := Rows.fnSameDigitsEquivalenceRow.laid
theorem gFirst : Tryd.prog.globalNamed "unicode/utf8.first" = some 1 := by kernel_rfl
theorem gAccept : Tryd.prog.globalNamed "unicode/utf8.acceptRanges" = some 2 := by kernel_rfl
theorem tFirst : (Tryd.prog.globals[1]?).map (·.type) = some 51 := by kernel_rfl
theorem tAccept : (Tryd.prog.globals[2]?).map (·.type) = some 54 := by kernel_rfl
theorem accept_eq : (Rows.laid_unicode_utf8_acceptRanges : DataW Unit) = Lib.acceptData := by kernel_rfl
theorem first_eq : Rows.laid_unicode_utf8_first = Lib.firstData := Pinned.utf8First_eq

/-- The two tables of the decoder, out of the condition. -/
theorem tabs_of {w : World} (h : laidMetH Tryd.prog laidL w) : Lib.Utf8Tabs 1 2 w := by
  rw [MakeChecks.laidMetH_plain _ _ _ (by kernel_rfl)] at h
  have h4 : Lib.VarReads Tryd.prog w "unicode/utf8.acceptRanges" Rows.laid_unicode_utf8_acceptRanges := Lib.laidMet.reads h (.head _)
  have h3 : Lib.VarReads Tryd.prog w "unicode/utf8.first" Rows.laid_unicode_utf8_first := Lib.laidMet.reads h (.tail _ (.head _))
  rw [accept_eq] at h4
  rw [first_eq] at h3
  refine ⟨fun c hc => ?_, fun i hi => ?_⟩
  · obtain ⟨g, t, cs, fuel, p, hg, hty, hvar, hd⟩ := h3
    obtain rfl := Option.some.inj (gFirst.symm.trans hg)
    obtain rfl := Option.some.inj (tFirst.symm.trans hty)
    have hcs := Lib.cells_of_tab Tryd.underlying51 Tryd.underlying5 cells5 cells51 hd
    rw [World.var?_cell hg hvar c, ← Array.getElem?_toList, hcs]
    simp [Lib.firstTab, hc]
  · obtain ⟨g, t, cs, fuel, p, hg, hty, hvar, hd⟩ := h4
    obtain rfl := Option.some.inj (gAccept.symm.trans hg)
    obtain rfl := Option.some.inj (tAccept.symm.trans hty)
    obtain ⟨fuel', d, q, hdi, he⟩ := Lib.array_elem Tryd.underlying54 hd i hi
    simp only [List.getElem?_map, List.getElem?_range hi, Option.map_some, Option.some.injEq] at hdi
    subst hdi
    rw [cells53] at he
    have hcs := Lib.ints_of_struct Tryd.underlying53 (fun j f hj => by
      match j, hj with
      | 0, hj => simp at hj; subst hj; exact ⟨Tryd.underlying5, rfl, cells5⟩
      | 1, hj => simp at hj; subst hj; exact ⟨Tryd.underlying5, rfl, cells5⟩
      | j + 2, hj => simp at hj) (by rw [cells53]; rfl) he
    have e0 := congrArg (·[0]?) hcs
    have e1 := congrArg (·[1]?) hcs
    simp only [List.getElem?_take, List.getElem?_drop] at e0 e1
    constructor
    · rw [World.var?_cell hg hvar (2 * i), ← Array.getElem?_toList]
      simpa [Nat.mul_comm] using e0
    · rw [World.var?_cell hg hvar (2 * i + 1), ← Array.getElem?_toList]
      simpa [Nat.mul_comm] using e1

/-- The variable internal/bytealg.MaxLen holds some int: the world's shape says so. -/
theorem max_cell {W : World} (h : W.ShapedOpen Tryd.prog) : ∃ m, W.cell? ⟨0, 0, none⟩ = some (.int .i64 m) :=
  cell_of_shapedOpen_int (g := 0) (t := 3) (zero := #[.int .i64 0]) (k := .i64) h (of_decide_eq_true (by kernel_rfl)) (by kernel_rfl) rfl (by kernel_rfl) (by kernel_rfl) Tryd.underlying3

theorem door_met (os : Os) (args : Array Value) : laidMetH Tryd.prog laidL ((World.laidAll Tryd.prog os laidL).forCall (fun _ _ => 0) ⟨#[], args, []⟩).memory := by
  rw [MakeChecks.laidMetH_plain _ _ _ (by kernel_rfl)]
  exact laidMet_laidAll _ (by kernel_rfl) (by kernel_rfl)

theorem law (pa pb pc : Option Addr) (na nb nc ca cb cc : Nat) (la lb lc : List UInt8) (w : World) (m : Int) (hE : Env w m)
    (ea : la.length = na) (eb : lb.length = nb) (ec : lc.length = nc) (hSa : SB w (.slice pa na ca) la) (hSb : SB w (.slice pb nb cb) lb) (hSc : SB w (.slice pc nc cc) lc)
    (ha : na ≤ 9223372036854775807) (hb : nb ≤ 9223372036854775807) (hc : nc ≤ 9223372036854775807) :
    Calls Tryd.prog 4 #[.slice pa na ca, .slice pb nb cb, .slice pc nc cc] w fun e w' => e = .returned (.bool true) ∧ Below w.heap.size w w' := by
  by_cases hsum : na + nb + nc ≤ 1048576
  · by_cases h1 : na ≤ 262144
    · by_cases h2 : nb ≤ 262144
      · by_cases h3 : nc ≤ 262144
        · exact law_good pa pb pc na nb nc ca cb cc la lb lc w m hE hsum h1 h2 h3 ea eb ec hSa hSb hSc
        · exact law_early pa pb pc na nb nc ca cb cc w ha hb hc (Or.inr (Or.inr (Or.inr ⟨hsum, h1, h2, by omega⟩)))
      · exact law_early pa pb pc na nb nc ca cb cc w ha hb hc (Or.inr (Or.inr (Or.inl ⟨hsum, h1, by omega⟩)))
    · exact law_early pa pb pc na nb nc ca cb cc w ha hb hc (Or.inr (Or.inl ⟨hsum, by omega⟩))
  · exact law_early pa pb pc na nb nc ca cb cc w ha hb hc (Or.inl hsum)

/-- An argument, opened. -/
theorem opened {H : Type} {enc : TypeId × Value → H} {W : World} {a0 : Option Addr} {n c : Nat} {d0 : DataW H} {p : List MemPlace} (h0 : DataW.Trod enc Tryd.prog W 0 (fun _ => true) true 22 (.slice a0 n c) d0 p) :
    ∃ l : List UInt8, l.length = n ∧ SB W (.slice a0 n c) l ∧ n ≤ 9223372036854775807 := by
  obtain ⟨xs, hx, hc0, hB0, _, hr0, _⟩ := opened_bytes Tryd.underlying22 Tryd.underlying5 cells5 h0
  have hcap := cap_le_max Tryd.underlying22 Tryd.underlying5 cells5 h0
  have hl : (Lib.bytesOf xs).length = n := by rw [Lib.bytesOf_length, hx]
  exact ⟨Lib.bytesOf xs, hl, ⟨_, _, _, rfl, hl, hc0, hcap, hB0.at8 hx hr0⟩, by omega⟩

set_option maxRecDepth 100000 in
theorem lifted (os : Os) (started : os.Started) (H : Type) (enc : TypeId × Value → H) :
    ReturnsInHanded {} Tryd.checked os 4 .any (fun w args => (Rows.fnSameDigitsEquivalenceSpec.pre enc Tryd.prog Tryd.f4 Rows.fnSameDigitsEquivalenceRow.domain false w args ∧ laidMetH Tryd.prog laidL w) ∧ sizedMet enc Tryd.prog Tryd.f4 (OpenSpec.ofChange Rows.fnSameDigitsEquivalenceSpec) false w args)
      (Rows.fnSameDigitsEquivalenceSpec.post enc Tryd.prog Tryd.f4 false true false false) := by
  refine returnsInHanded_of_change_and_shaped (C := Tryd.checked) (X := fun w _ => laidMetH Tryd.prog laidL w) (fun _ _ _ hh h => h.of_heap hh) own started (by kernel_rfl) Tryd.func4
    (ChangeSpec.witness_shaped (enc := enc) (C := Tryd.checked) (os := os) (X := fun w _ => laidMetH Tryd.prog laidL w) false (World.laidAll Tryd.prog os laidL) #[.slice none 0 0, .slice none 0 0, .slice none 0 0] 8 (World.laidAll_os _ _ _)
      (World.shaped_of_ZipB (by kernel_rfl) (by kernel_rfl)) (by kernel_rfl) (by kernel_rfl) (by kernel_rfl) (door_met os _)) ?_
  intro W base args ds gs before hval0 hW hL hsh
  have hval : ∀ (j : Nat) t v, Tryd.f4.params[j]? = some t → args[j]? = some v → Value.okWide Tryd.prog W .any base t v := hval0
  have hW' := hW
  obtain ⟨p, q, hA0, hV, rfl, _, _⟩ := hW
  have hA : DataW.TrodAll enc Tryd.prog W 0 (fun _ => true) true Tryd.f4.params.toList args.toList ds p := hA0
  rw [Tryd.params4] at hA hval
  obtain ⟨v0, vs0, d0, ds0, p0, q0, hargs, rfl, rfl, h0, r0⟩ := trodAll_cons hA
  obtain ⟨v1, vs1, d1, ds1, p1, q1, rfl, rfl, rfl, h1, r1⟩ := trodAll_cons r0
  obtain ⟨v2, vs2, d2, ds2, p2, q2, rfl, rfl, rfl, h2, r2⟩ := trodAll_cons r1
  obtain ⟨rfl, rfl, rfl⟩ := trodAll_nil r2
  obtain rfl : args = #[v0, v1, v2] := by cases args; simp_all
  obtain ⟨rfl, rfl⟩ := trodVars_none hV
  obtain ⟨a0, n0, c0, rfl⟩ := okWide_slice Tryd.underlying22 (hval 0 22 v0 rfl rfl)
  obtain ⟨a1, n1, c1, rfl⟩ := okWide_slice Tryd.underlying22 (hval 1 22 v1 rfl rfl)
  obtain ⟨a2, n2, c2, rfl⟩ := okWide_slice Tryd.underlying22 (hval 2 22 v2 rfl rfl)
  clear hA0 hval0
  simp only [List.append_nil] at hW'
  have hlt : ∀ x ∈ p0 ++ (p1 ++ p2), x.block < W.heap.size := fun x hx => by
    have := hW'.lt x
    simp at this hx
    exact this hx
  obtain ⟨la, e0, s0, b0⟩ := opened h0
  obtain ⟨lb, e1, s1, b1⟩ := opened h1
  obtain ⟨lc, e2, s2, b2⟩ := opened h2
  obtain ⟨m, hm⟩ := max_cell hsh
  have hT := tabs_of hL
  have hE : Env W m := ⟨hT, hm, lt_of_cell (hT.2 0 (by omega)).1⟩
  refine (law a0 a1 a2 n0 n1 n2 c0 c1 c2 la lb lc W m hE e0 e1 e2 s0 s1 s2 b0 b1 b2).mono fun e W' ⟨he, hb⟩ => ?_
  subst he
  have g0 := Below.trod laidOut (by kernel_rfl) (of_decide_eq_true (by kernel_rfl)) h0 hb (fun x hx => hlt x (List.mem_append_left _ hx))
  have g1 := Below.trod laidOut (by kernel_rfl) (of_decide_eq_true (by kernel_rfl)) h1 hb (fun x hx => hlt x (List.mem_append_right _ (List.mem_append_left _ hx)))
  have g2 := Below.trod laidOut (by kernel_rfl) (of_decide_eq_true (by kernel_rfl)) h2 hb (fun x hx => hlt x (List.mem_append_right _ (List.mem_append_right _ hx)))
  exact ⟨_, rfl, _, _, _, [], p0 ++ (p1 ++ (p2 ++ [])), [], hW', trodAll_mk1 (shut_bool Tryd.underlying4 _),
    (trodAll_cons_mk g0 (trodAll_cons_mk g1 (trodAll_cons_mk g2 trodAll_mk0))),
    rfl, hb.frame _, fun h => by cases h⟩

theorem holds : Rows.FnSameDigitsEquivalenceSaid :=
  OpenClaim.holds_of_wide 4 Tryd.f4 rfl rfl rfl rfl rfl rfl rfl ⟨rfl, rfl, rfl, rfl, rfl⟩ rfl rfl rfl rfl rfl (by kernel_rfl) Tryd.func4 (by kernel_rfl)
    (of_decide_eq_true (by kernel_rfl)) (by unfold Func.isWrapper; first | (rw [if_pos (by decide +kernel)]; kernel_rfl) | (rw [if_neg (by decide +kernel)]; exact ⟨rfl, rfl⟩))
    (fun os started H enc _ => lifted os started H enc)

theorem card_holds : Rows.FnSameDigitsEquivalenceCardSaid :=
  Claim7.holds_tied_plain_at .later [] [.data, .pinned] true (true, "4d18ea53f8f2949ec93e88e1cdab0f5fb9a4d055aa0622aad46e248e9ef329e3") false holds (fun _ h => by cases h) (by kernel_rfl) (fun _ h => by cases h) fnSameDigitsEquivalence_row_tie rfl ⟨rfl, rfl⟩ (by kernel_rfl) rfl
    (fun f fn hf hfn => by
      obtain rfl : f = 4 := Option.some.inj ((show Tryd.prog.funcNamed Rows.fnSameDigitsEquivalenceRow.func = some 4 by kernel_rfl).symm.trans hf) |>.symm
      obtain rfl : fn = Tryd.f4 := (Option.some.inj (Tryd.func4.symm.trans hfn)).symm
      exact ⟨by kernel_rfl, fun j t ht => by
        rw [Tryd.params4] at ht
        have hm : t ∈ [22, 22, 22] := by simpa using Array.mem_of_getElem? ht
        have hall : ([22, 22, 22].all fun u => !Tryd.prog.wantsStandIn u) = true := by kernel_rfl
        exact (show Tryd.prog.wantsStandIn t = false by simpa using List.all_eq_true.1 hall t hm)⟩)
    (by kernel_rfl)
end Go.Proofs.Qxb6600845aDoor
