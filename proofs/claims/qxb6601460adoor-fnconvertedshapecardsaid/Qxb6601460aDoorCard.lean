/-
  THE CARD OF FnConvertedShape.
-/
import Derived.Test.Qxb6601460aDoorTie
import Derived.Test.Qxb6601460aDoorCards
import Derived.Test.Qxb6601460aDoorLaw
import Derived.ProofKit
import Derived.OpenShut
import Derived.Lay
import Derived.SevenTiedAt
import Derived.Stop.Joined
import Derived.Shelf.Vars
import Derived.Carry
namespace Go.Proofs.Qxb6601460aDoor
open Go Go.ChangeShapes Go.WideShapes Go.ChangeAt Go.RowKit
open Go.ChangeMaps (open_string shut_string)

section
variable {H : Type} {enc : TypeId × Value → H}
theorem returnsInHanded_of_change_and_shaped {a : Assume} {C : Checked} {os : Os} {f : FuncId} {fn : Func} {s : ChangeSpec} {conds : List PathCond} {apart fresh handsOn again : Bool} {X : World → Array Value → Prop}
    (hX : ∀ (w w' : World) (args : Array Value), w.heap = w'.heap → X w args → X w' args)
    (own : ownKnob C.prog.godebug = none) (started : os.Started) (noInit : C.prog.inits.idxOf? f = none) (hfn : C.prog.funcs[f]? = some fn)
    (witness : ∃ (w : World) (tape : Tape) (i : Input), w.os = os ∧ (w.forCall tape i).Shaped C.prog ∧ i.vars = [] ∧ Input.okWide C.prog (w.forCall tape i) .any w.heap.size f i ∧
      ((s.pre enc C.prog fn conds apart (w.forCall tape i).memory i.args ∧ X (w.forCall tape i).memory i.args) ∧ sizedMet enc C.prog fn (OpenSpec.ofChange s) apart (w.forCall tape i).memory i.args) ∧ a.holds C.prog (lone (Frame.enter C.prog f i.args .normal) [] (w.forCall tape i)))
    (contract : ∀ (W : World) (base : Nat) (args : Array Value) (ds gs : List (DataW H)) (before : List MemPlace),
      (∀ (j : Nat) t v, fn.params[j]? = some t → args[j]? = some v → Value.okWide C.prog W .any base t v) →
      DataW.Whole enc C.prog fn.params.toList s.vars apart W args.toList ds gs before →
      X W args → W.ShapedOpen C.prog →
      Calls C.prog f args W fun e W' => ∃ v, e = .returned v ∧ s.post enc C.prog fn apart fresh handsOn again W args v W') :
    ReturnsInHanded a C os f .any (fun w args => (s.pre enc C.prog fn conds apart w args ∧ X w args) ∧ sizedMet enc C.prog fn (OpenSpec.ofChange s) apart w args) (s.post enc C.prog fn apart fresh handsOn again) := by
  refine returnsInHanded_of_calls own started noInit witness ?_
  intro w tape i _ hsh _ hok hpre hholds
  obtain ⟨_, _, _, fn', hfn', _, _, _, _, hval⟩ := hok
  have e : fn' = fn := Option.some.inj (hfn'.symm.trans hfn)
  subst e
  obtain ⟨⟨⟨ds, gs, before, hw, hc⟩, hx⟩, hz⟩ := hpre
  have hw' := DataW.Whole.of_heap (w' := w.forCall tape i) (by rfl) hw
  refine (contract (w.forCall tape i) w.heap.size i.args ds gs before hval hw' (hX _ _ _ (by rfl) hx) hsh).mono fun e W' ⟨v, he, hp⟩ => ?_
  subst he
  exact ChangeSpec.post_blind hp
end

theorem own : ownKnob Tryd.prog.godebug = none := by kernel_rfl
abbrev laidL : List (String × DataW Unit) := Rows.fnConvertedShapeRow.laid

theorem laidOut : laidOutB Tryd.prog = true := by kernel_rfl
theorem cells2 : Tryd.prog.cellsOf 2 = 1 := by kernel_rfl
theorem cells4 : Tryd.prog.cellsOf 4 = 1 := by kernel_rfl
theorem cells9 : Tryd.prog.cellsOf 9 = 1 := by kernel_rfl
theorem cells23 : Tryd.prog.cellsOf 23 = 10 := by kernel_rfl

/-- The variable internal/bytealg.MaxLen holds some int: the world's shape says so. -/
theorem max_cell {W : World} (h : W.ShapedOpen Tryd.prog) : ∃ m, W.cell? ⟨0, 0, none⟩ = some (.int .i64 m) :=
  cell_of_shapedOpen_int (g := 0) (t := 3) (zero := #[.int .i64 0]) (k := .i64) h (of_decide_eq_true (by kernel_rfl)) (by kernel_rfl) rfl (by kernel_rfl) (by kernel_rfl) Tryd.underlying3

section
variable {H : Type} {enc : TypeId × Value → H} {W : World} {base : Nat} {sp : Nat → Bool} {hd : Bool} {n i : Nat} {cs : List Value} {xs : List (DataW H × List MemPlace)}
theorem str_at (hx : i < xs.length) (h : DataW.trod enc Tryd.prog W base sp hd n 9 ((cs.drop i).take (Tryd.prog.cellsOf 9)) = xs[i]?) : ∃ s : ByteArray, cs[i]? = some (.string s) ∧ s.size ≤ maxLen := by
  rw [List.getElem?_eq_getElem hx] at h
  obtain ⟨s, e, _, hs⟩ := DataW.trod_string Tryd.underlying9 h
  refine ⟨s, ?_, hs⟩
  have e1 := congrArg (·[0]?) e
  simpa [List.getElem?_take, cells9] using e1
theorem bool_at (hx : i < xs.length) (h : DataW.trod enc Tryd.prog W base sp hd n 4 ((cs.drop i).take (Tryd.prog.cellsOf 4)) = xs[i]?) : ∃ s : Bool, cs[i]? = some (.bool s) := by
  rw [List.getElem?_eq_getElem hx] at h
  obtain ⟨s, e, _⟩ := DataW.trod_bool Tryd.underlying4 h
  refine ⟨s, ?_⟩
  have e1 := congrArg (·[0]?) e
  simpa [List.getElem?_take, cells4] using e1
theorem int_at (hx : i < xs.length) (h : DataW.trod enc Tryd.prog W base sp hd n 2 ((cs.drop i).take (Tryd.prog.cellsOf 2)) = xs[i]?) : ∃ s : Int, cs[i]? = some (.int .i64 s) := by
  rw [List.getElem?_eq_getElem hx] at h
  obtain ⟨s, e, _⟩ := DataW.trod_int Tryd.underlying2 h
  refine ⟨s, ?_⟩
  have e1 := congrArg (·[0]?) e
  simpa [List.getElem?_take, cells2] using e1
end
theorem list10 {α : Type} {l : List α} {v0 v1 v2 v3 v4 v5 v6 v7 v8 v9 : α} (h : l.length = 10) (h0 : l[0]? = some v0) (h1 : l[1]? = some v1) (h2 : l[2]? = some v2) (h3 : l[3]? = some v3) (h4 : l[4]? = some v4) (h5 : l[5]? = some v5) (h6 : l[6]? = some v6) (h7 : l[7]? = some v7) (h8 : l[8]? = some v8) (h9 : l[9]? = some v9) :
    l = [v0, v1, v2, v3, v4, v5, v6, v7, v8, v9] := by
  refine List.ext_getElem? fun i => ?_
  match i with
  | 0 => exact h0
  | 1 => exact h1
  | 2 => exact h2
  | 3 => exact h3
  | 4 => exact h4
  | 5 => exact h5
  | 6 => exact h6
  | 7 => exact h7
  | 8 => exact h8
  | 9 => exact h9
  | i + 10 => rw [List.getElem?_eq_none (by omega), List.getElem?_eq_none (by simp)]

/-- A column, opened. -/
theorem open_col {H : Type} {enc : TypeId × Value → H} {W : World} {bs base : Nat} {sp : Nat → Bool} {hd : Bool} {v : Value} {d : DataW H} {p : List MemPlace} (hv : Value.okWide Tryd.prog W .any bs 23 v) (h : DataW.Trod enc Tryd.prog W base sp hd 23 v d p) :
    ∃ c : Col, v = .agg c.cells ∧ c.small := by
  obtain ⟨cs, rfl, hsz⟩ := okWide_struct Tryd.underlying23 hv
  obtain ⟨fuel, hf⟩ := h
  obtain ⟨xs, n, _, _, _, hlen, hfl⟩ := DataW.trod_struct Tryd.underlying23 hf
  have hlen' : xs.length = 10 := hlen
  have hL : cs.toList.length = 10 := by rw [cells23] at hsz; simpa using hsz
  simp only [Value.cells] at hfl
  obtain ⟨s0, e0, k0⟩ := str_at (i := 0) (by omega) (hfl 0 _ rfl)
  obtain ⟨s1, e1, k1⟩ := str_at (i := 1) (by omega) (hfl 1 _ rfl)
  obtain ⟨s2, e2, k2⟩ := str_at (i := 2) (by omega) (hfl 2 _ rfl)
  obtain ⟨s3, e3⟩ := bool_at (i := 3) (by omega) (hfl 3 _ rfl)
  obtain ⟨s4, e4⟩ := bool_at (i := 4) (by omega) (hfl 4 _ rfl)
  obtain ⟨s5, e5⟩ := bool_at (i := 5) (by omega) (hfl 5 _ rfl)
  obtain ⟨s6, e6⟩ := bool_at (i := 6) (by omega) (hfl 6 _ rfl)
  obtain ⟨s7, e7, k7⟩ := str_at (i := 7) (by omega) (hfl 7 _ rfl)
  obtain ⟨s8, e8, k8⟩ := str_at (i := 8) (by omega) (hfl 8 _ rfl)
  obtain ⟨s9, e9⟩ := int_at (i := 9) (by omega) (hfl 9 _ rfl)
  refine ⟨⟨s0, s1, s2, s3, s4, s5, s6, s7, s8, s9⟩, ?_, k0, k1, k2, k7, k8⟩
  rw [← Array.toArray_toList (xs := cs), list10 hL e0 e1 e2 e3 e4 e5 e6 e7 e8 e9]

theorem door_met (os : Os) (args : Array Value) : laidMetH Tryd.prog laidL ((World.laidAll Tryd.prog os laidL).forCall (fun _ _ => 0) ⟨#[], args, []⟩).memory := by
  rw [MakeChecks.laidMetH_plain _ _ _ (by kernel_rfl)]
  exact laidMet_laidAll _ (by kernel_rfl) (by kernel_rfl)

theorem law (v : ByteArray) (a b : Col) (w : World) (m : Int) (hv : v.size ≤ maxLen) (ha : a.small) (hb : b.small) (hm : w.cell? ⟨0, 0, none⟩ = some (.int .i64 m)) :
    Calls Tryd.prog 3 #[.string v, .agg a.cells, .agg b.cells] w fun e w' => e = .returned (.bool true) ∧ Below w.heap.size w w' := by
  by_cases h : v.size + a.bytes + b.bytes ≤ 1048576
  · exact law_good v a b w m h hm
  · exact law_early v a b w hv ha hb h

set_option maxRecDepth 100000 in
theorem lifted (os : Os) (started : os.Started) (H : Type) (enc : TypeId × Value → H) :
    ReturnsInHanded {} Tryd.checked os 3 .any (fun w args => (Rows.fnConvertedShapeSpec.pre enc Tryd.prog Tryd.f3 Rows.fnConvertedShapeRow.domain false w args ∧ laidMetH Tryd.prog laidL w) ∧ sizedMet enc Tryd.prog Tryd.f3 (OpenSpec.ofChange Rows.fnConvertedShapeSpec) false w args)
      (Rows.fnConvertedShapeSpec.post enc Tryd.prog Tryd.f3 false true false false) := by
  refine returnsInHanded_of_change_and_shaped (C := Tryd.checked) (X := fun w _ => laidMetH Tryd.prog laidL w) (fun _ _ _ hh h => h.of_heap hh) own started (by kernel_rfl) Tryd.func3
    (ChangeSpec.witness_shaped (enc := enc) (C := Tryd.checked) (os := os) (X := fun w _ => laidMetH Tryd.prog laidL w) false (World.laidAll Tryd.prog os laidL) #[.string ⟨#[]⟩, .agg (Col.cells ⟨⟨#[]⟩, ⟨#[]⟩, ⟨#[]⟩, false, false, false, false, ⟨#[]⟩, ⟨#[]⟩, 0⟩), .agg (Col.cells ⟨⟨#[]⟩, ⟨#[]⟩, ⟨#[]⟩, false, false, false, false, ⟨#[]⟩, ⟨#[]⟩, 0⟩)] 8 (World.laidAll_os _ _ _)
      (World.shaped_of_ZipB (by kernel_rfl) (by kernel_rfl)) (by kernel_rfl) (by kernel_rfl) (by kernel_rfl) (door_met os _)) ?_
  intro W base args ds gs before hval0 hW _ hsh
  have hval : ∀ (j : Nat) t v, Tryd.f3.params[j]? = some t → args[j]? = some v → Value.okWide Tryd.prog W .any base t v := hval0
  have hW' := hW
  obtain ⟨p, q, hA0, hV, rfl, _, _⟩ := hW
  have hA : DataW.TrodAll enc Tryd.prog W 0 (fun _ => true) true Tryd.f3.params.toList args.toList ds p := hA0
  rw [Tryd.params3] at hA hval
  obtain ⟨v0, vs0, d0, ds0, p0, q0, hargs, rfl, rfl, h0, r0⟩ := trodAll_cons hA
  obtain ⟨v1, vs1, d1, ds1, p1, q1, rfl, rfl, rfl, h1, r1⟩ := trodAll_cons r0
  obtain ⟨v2, vs2, d2, ds2, p2, q2, rfl, rfl, rfl, h2, r2⟩ := trodAll_cons r1
  obtain ⟨rfl, rfl, rfl⟩ := trodAll_nil r2
  obtain rfl : args = #[v0, v1, v2] := by cases args; simp_all
  obtain ⟨rfl, rfl⟩ := trodVars_none hV
  obtain ⟨a0, rfl, rfl, rfl, w0⟩ := open_string Tryd.underlying9 (hval 0 9 v0 rfl rfl) h0
  obtain ⟨a, rfl, wa⟩ := open_col (hval 1 23 v1 rfl rfl) h1
  obtain ⟨b, rfl, wb⟩ := open_col (hval 2 23 v2 rfl rfl) h2
  clear hA0 hval0
  simp only [List.append_nil, List.nil_append] at hW'
  have hlt : ∀ x ∈ p1 ++ p2, x.block < W.heap.size := fun x hx => by
    have := hW'.lt x
    simp at this hx
    exact this hx
  obtain ⟨m, hm⟩ := max_cell hsh
  refine (law a0 a b W m w0 wa wb hm).mono fun e W' ⟨he, hb⟩ => ?_
  subst he
  have g1 := Below.trod laidOut (by kernel_rfl) (of_decide_eq_true (by kernel_rfl)) h1 hb (fun x hx => hlt x (List.mem_append_left _ hx))
  have g2 := Below.trod laidOut (by kernel_rfl) (of_decide_eq_true (by kernel_rfl)) h2 hb (fun x hx => hlt x (List.mem_append_right _ hx))
  exact ⟨_, rfl, _, _, _, [], [] ++ (p1 ++ (p2 ++ [])), [], hW', trodAll_mk1 (shut_bool Tryd.underlying4 _),
    (trodAll_cons_mk (shut_string Tryd.underlying9 w0) (trodAll_cons_mk g1 (trodAll_cons_mk g2 trodAll_mk0))),
    rfl, hb.frame _, fun h => by cases h⟩

theorem holds : Rows.FnConvertedShapeSaid :=
  OpenClaim.holds_of_wide 3 Tryd.f3 rfl rfl rfl rfl rfl rfl rfl ⟨rfl, rfl, rfl, rfl, rfl⟩ rfl rfl rfl rfl rfl (by kernel_rfl) Tryd.func3 (by kernel_rfl)
    (of_decide_eq_true (by kernel_rfl)) (by unfold Func.isWrapper; first | (rw [if_pos (by decide +kernel)]; kernel_rfl) | (rw [if_neg (by decide +kernel)]; exact ⟨rfl, rfl⟩))
    (fun os started H enc _ => lifted os started H enc)

theorem card_holds : Rows.FnConvertedShapeCardSaid :=
  Claim7.holds_tied_plain_at .later [] [.data, .pinned, .pinned] true (true, "3d712e754abe21193fc0168b590c494bfa171a62c20753d83e23b4c13c3294f9") false holds (fun _ h => by cases h) (by kernel_rfl) (fun _ h => by cases h) fnConvertedShape_row_tie rfl ⟨rfl, rfl⟩ (by kernel_rfl) rfl
    (fun f fn hf hfn => by
      obtain rfl : f = 3 := Option.some.inj ((show Tryd.prog.funcNamed Rows.fnConvertedShapeRow.func = some 3 by kernel_rfl).symm.trans hf) |>.symm
      obtain rfl : fn = Tryd.f3 := (Option.some.inj (Tryd.func3.symm.trans hfn)).symm
      exact ⟨by kernel_rfl, fun j t ht => by
        rw [Tryd.params3] at ht
        have hm : t ∈ [9, 23, 23] := by simpa using Array.mem_of_getElem? ht
        have hall : ([9, 23, 23].all fun u => !Tryd.prog.wantsStandIn u) = true := by kernel_rfl
        exact (show Tryd.prog.wantsStandIn t = false by simpa using List.all_eq_true.1 hall t hm)⟩)
    (by kernel_rfl)
end Go.Proofs.Qxb6601460aDoor
