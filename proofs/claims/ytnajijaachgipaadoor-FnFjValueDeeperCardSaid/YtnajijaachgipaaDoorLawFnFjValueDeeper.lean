/- The law FnFjValueDeeper holds for every input: out of its pure statement and the walks. -/
import Derived.Test.YtnajijaachgipaaDoorRows
import Derived.Test.YtnajijaachgipaaDoorB4
import Derived.Test.YtnajijaachgipaaDoorB5
import Derived.WalkKit
import Derived.ProofKit
import Derived.OpenShut
import Derived.ShutString
import Derived.ChangeOld
import Derived.Below
import Derived.SizedLaws
import Derived.Test.YtnajijaachgipaaDoorCards
import Derived.Test.YtnajijaachgipaaDoorTie
import Derived.LaidMore
import Derived.Lay
import Derived.SevenTiedAt
import Derived.Stop.Joined
import Derived.Stop.LaidErr
namespace Go.Proofs.YtnajijaachgipaaDoor.fnFjValueDeeper
open Go.ChangeShapes Go.WideShapes Go.ChangeAt Go.RowKit Go.Proofs.YtnajijaachgipaaDoorW.PrintWords Go.Proofs.YtnajijaachgipaaDoorW.PrintLast
open Go.ChangeMaps (open_string shut_string)
set_option linter.unusedVariables false
set_option linter.unusedSimpArgs false
theorem own : ownKnob Tryd.prog.godebug = none := by kernel_rfl
theorem star : "*" ++ "errors.errorString" = "*errors.errorString" := by decide
/-- The one type of that name. -/
theorem rowError (u : TypeId) (h : Tryd.prog.typeName? 3 u = some "*errors.errorString") : u = 115 :=
  typeName_ptr_named (nm := "errors.errorString") (by rw [star]; kernel_rfl) (by kernel_rfl) (by decide) u (by rw [star]; exact h)
set_option maxRecDepth 100000 in
theorem lifted (os : Os) (started : os.Started) (H : Type) (enc : TypeId × Value → H) :
    ReturnsInHanded {} Tryd.checked os 6 .any (fun w args => (Rows.fnFjValueDeeperSpec.pre enc Tryd.prog Tryd.f6 Rows.fnFjValueDeeperRow.domain false w args ∧ laidMetH Tryd.prog Rows.fnFjValueDeeperRow.laid w) ∧ sizedMet enc Tryd.prog Tryd.f6 (OpenSpec.ofChange Rows.fnFjValueDeeperSpec) false w args) (Rows.fnFjValueDeeperSpec.post enc Tryd.prog Tryd.f6 false true false false) := by
  refine returnsInHanded_of_change_and (C := Tryd.checked) (X := fun w _ => laidMetH Tryd.prog Rows.fnFjValueDeeperRow.laid w) (fun _ _ _ hh h => h.of_heap hh) own started (by kernel_rfl) Tryd.func6
    (ChangeSpec.witness_shaped (enc := enc) (C := Tryd.checked) (os := os) (X := fun w _ => laidMetH Tryd.prog Rows.fnFjValueDeeperRow.laid w) false (World.laidAll Tryd.prog os Rows.fnFjValueDeeperRow.laid) #[.string ByteArray.empty, .int .u16 0, .int .u16 0] 8 (World.laidAll_os _ _ _)
      (World.shaped_of_ZipB (by kernel_rfl) (by kernel_rfl)) (by kernel_rfl) (by kernel_rfl) (by kernel_rfl)
      (by rw [MakeChecks.laidMetH_plain _ _ _ (by kernel_rfl)]; exact laidMet_laidAll _ (by kernel_rfl) (by kernel_rfl))) ?_
  intro W base args ds gs before hval0 hW hcnd hsz0 hL0 _
  have hL : laidMet Tryd.prog [("math/bits.deBruijn32tab", Rows.laid_math_bits_deBruijn32tab), ("math/bits.deBruijn64tab", Rows.laid_math_bits_deBruijn64tab), ("internal/strconv.uint64pow10", Rows.laid_internal_strconv_uint64pow10), ("unicode/utf8.acceptRanges", Rows.laid_unicode_utf8_acceptRanges), ("strconv.ErrRange", Rows.laid_strconv_ErrRange), ("strconv.ErrSyntax", Rows.laid_strconv_ErrSyntax), ("strconv.isGraphic", Rows.laid_strconv_isGraphic), ("strconv.isNotPrint16", Rows.laid_strconv_isNotPrint16), ("strconv.isNotPrint32", Rows.laid_strconv_isNotPrint32), ("strconv.isPrint16", Rows.laid_strconv_isPrint16), ("strconv.isPrint32", Rows.laid_strconv_isPrint32), ("unicode/utf8.first", Rows.laid_unicode_utf8_first)] W := by
    have h := hL0
    rw [MakeChecks.laidMetH_plain _ _ _ (by kernel_rfl)] at h
    exact h
  obtain ⟨ea0, es0, hev0, -, -, -⟩ := laid_sentinel (g := 0) (ti := 54) (tp := 115) (te := 117) (ts := 9) hL.tail.tail.tail.tail.tail (by kernel_rfl) (by kernel_rfl) Tryd.underlying54 rowError Tryd.underlying115 Tryd.underlying117 rfl rfl Tryd.underlying9 (by kernel_rfl) (by kernel_rfl)
  have hT0 : Kd.C Kd.errk W (some ⟨0, 0, none⟩) PT.tabG0.length PT.tabG0 := errk_of (et := 115) (ep := .pointer (some ea0)) (by
    have h0 := World.var?_cell (g := 0) (P := Tryd.prog) (by kernel_rfl) hev0 0
    simpa using h0)
  obtain ⟨ea1, es1, hev1, -, -, -⟩ := laid_sentinel (g := 1) (ti := 54) (tp := 115) (te := 117) (ts := 9) hL.tail.tail.tail.tail (by kernel_rfl) (by kernel_rfl) Tryd.underlying54 rowError Tryd.underlying115 Tryd.underlying117 rfl rfl Tryd.underlying9 (by kernel_rfl) (by kernel_rfl)
  have hT1 : Kd.C Kd.errk W (some ⟨1, 0, none⟩) PT.tabG1.length PT.tabG1 := errk_of (et := 115) (ep := .pointer (some ea1)) (by
    have h0 := World.var?_cell (g := 1) (P := Tryd.prog) (by kernel_rfl) hev1 0
    simpa using h0)
  have hsz : (DataW.weightsEach Tryd.prog (Tryd.f6.params.toList ++ Rows.fnFjValueDeeperSpec.plain.varTypes Tryd.prog) (ds ++ gs)).all (· ≤ reachBytes) = true := hsz0
  have hval : ∀ (j : Nat) t v, Tryd.f6.params[j]? = some t → args[j]? = some v → Value.okWide Tryd.prog W .any base t v := hval0
  have hW' := hW
  obtain ⟨p, q, hA0, hV, rfl, hfz, hnd⟩ := hW
  have hA : DataW.TrodAll enc Tryd.prog W 0 (fun _ => true) true Tryd.f6.params.toList args.toList ds p := hA0
  rw [Tryd.params6] at hA hval hsz
  obtain ⟨v0, vs0, d0, ds0, p0, q0, hargs, rfl, rfl, h0, r0⟩ := trodAll_cons hA
  obtain ⟨v1, vs1, d1, ds1, p1, q1, rfl, rfl, rfl, h1, r1⟩ := trodAll_cons r0
  obtain ⟨v2, vs2, d2, ds2, p2, q2, rfl, rfl, rfl, h2, r2⟩ := trodAll_cons r1
  obtain ⟨rfl, rfl, rfl⟩ := trodAll_nil r2
  obtain rfl : args = #[v0, v1, v2] := by cases args; simp_all
  obtain ⟨rfl, rfl⟩ := trodVars_none hV
  obtain ⟨a0, rfl, rfl, rfl, y0⟩ := open_string Tryd.underlying9 (hval 0 9 v0 rfl rfl) h0
  have w0 : a0.size ≤ 140737488351232 := by
    have z := sized_string hsz (j := 0) (t := 9) rfl rfl
    rw [Array.length_toList] at z
    exact z
  obtain ⟨a1, rfl, rfl, rfl, w1⟩ := open_int Tryd.underlying42 (hval 1 42 v1 rfl rfl) h1
  obtain ⟨a2, rfl, rfl, rfl, w2⟩ := open_int Tryd.underlying42 (hval 2 42 v2 rfl rfl) h2
  clear hA0 hval0 hsz0 hsz
  obtain ⟨k, hk⟩ := Pure.FnFjValueDeeper a0 a1 a2 w0 w1 w2
  refine (PT.laws_FnFjValueDeeper.calls k a0 a1 a2 true W hT0 hT1 hk).mono fun e W' ⟨he, bel0⟩ => ?_
  have bel : Below W.heap.size W W' := bel0
  subst he
  exact ⟨_, rfl, _, _, _, [], _, [], hW', trodAll_mk1 (shut_bool Tryd.underlying4 _), (trodAll_cons_mk (shut_string Tryd.underlying9 y0) (trodAll_cons_mk (shut_int Tryd.underlying42 w1) (trodAll_cons_mk (shut_int Tryd.underlying42 w2) trodAll_mk0))), rfl, bel.frame _, fun h => by cases h⟩
theorem over : Rows.fnFjValueDeeperRow.holds Tryd.pinned (OpenSpec.ofChange Rows.fnFjValueDeeperSpec) :=
  OpenClaim.holds_of_wide 6 Tryd.f6 rfl rfl rfl rfl rfl rfl rfl ⟨rfl, rfl, rfl, rfl, rfl⟩ rfl rfl rfl rfl rfl (by kernel_rfl) Tryd.func6 (by kernel_rfl)
    (of_decide_eq_true (by kernel_rfl)) (by unfold Func.isWrapper; first | (rw [if_pos (by decide +kernel)]; kernel_rfl) | (rw [if_neg (by decide +kernel)]; exact ⟨rfl, rfl⟩))
    (fun os started H enc _ => lifted os started H enc)
theorem proved : Rows.FnFjValueDeeperSaid := over
theorem carded : Rows.FnFjValueDeeperCardSaid :=
  Claim7.holds_tied_plain_at .later [] [.data, .data, .data, .data, .sentinel, .sentinel, .pinned, .pinned, .pinned, .pinned, .pinned, .pinned] true (true, "e11590441152daee1cb581f096299dfd56485287b790c3bb9e7b72cfd2510a0e") true over (fun _ h => by cases h) (by kernel_rfl) (fun _ h => by cases h) fnFjValueDeeper_row_tie rfl ⟨rfl, rfl⟩ (by kernel_rfl) rfl
    (fun f fn hf hfn => by
      obtain rfl : f = 6 := Option.some.inj ((show Tryd.prog.funcNamed "pub-tetrapla/laws.FnFjValueDeeper" = some 6 by kernel_rfl).symm.trans hf) |>.symm
      obtain rfl : fn = Tryd.f6 := (Option.some.inj (Tryd.func6.symm.trans hfn)).symm
      exact ⟨by kernel_rfl, fun j t ht => by
        rw [Tryd.params6] at ht
        have hm : t ∈ [9, 42] := by simpa using Array.mem_of_getElem? ht
        have hall : ([9, 42].all fun u => !Tryd.prog.wantsStandIn u) = true := by kernel_rfl
        exact (show Tryd.prog.wantsStandIn t = false by simpa using List.all_eq_true.1 hall t hm)⟩)
    (by kernel_rfl)
#print axioms carded
end Go.Proofs.YtnajijaachgipaaDoor.fnFjValueDeeper
namespace Go.Proofs.YtnajijaachgipaaDoor
/-- The law, under a short name, for the claim. -/
theorem fnFjValueDeeper_holds : Rows.FnFjValueDeeperCardSaid := fnFjValueDeeper.carded
end Go.Proofs.YtnajijaachgipaaDoor
