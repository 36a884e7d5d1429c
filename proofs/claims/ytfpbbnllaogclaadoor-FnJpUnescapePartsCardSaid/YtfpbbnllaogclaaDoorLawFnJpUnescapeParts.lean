/- The law FnJpUnescapeParts holds for every input: out of its pure statement and the walks. -/
import Derived.Test.YtfpbbnllaogclaaDoorRows
import Derived.Test.YtfpbbnllaogclaaDoorPJx20
import Derived.Test.YtfpbbnllaogclaaDoorPureFnJpUnescapeParts
import Derived.WalkKit
import Derived.ProofKit
import Derived.OpenShut
import Derived.ShutString
import Derived.ChangeOld
import Derived.Below
import Derived.SizedLaws
import Derived.Test.YtfpbbnllaogclaaDoorCards
import Derived.Test.YtfpbbnllaogclaaDoorTie
import Derived.Test.YtfpbbnllaogclaaDoorJTab
import Derived.LaidMore
import Derived.Lay
import Derived.SevenTiedAt
import Derived.Stop.Joined
import Derived.Stop.LaidErr
namespace Go.Proofs.YtfpbbnllaogclaaDoor.fnJpUnescapeParts
open Go.ChangeShapes Go.WideShapes Go.ChangeAt Go.RowKit Go.Proofs.YtfpbbnllaogclaaDoorW.PrintWords Go.Proofs.YtfpbbnllaogclaaDoorW.PrintLast
open Go.ChangeMaps (open_string shut_string)
set_option linter.unusedVariables false
set_option linter.unusedSimpArgs false
theorem own : ownKnob Tryd.prog.godebug = none := by kernel_rfl
set_option maxRecDepth 100000 in
theorem lifted (os : Os) (started : os.Started) (H : Type) (enc : TypeId × Value → H) :
    ReturnsInHanded {} Tryd.checked os 7 .any (fun w args => (Rows.fnJpUnescapePartsSpec.pre enc Tryd.prog Tryd.f7 Rows.fnJpUnescapePartsRow.domain false w args ∧ laidMetH Tryd.prog Rows.fnJpUnescapePartsRow.laid w) ∧ sizedMet enc Tryd.prog Tryd.f7 (OpenSpec.ofChange Rows.fnJpUnescapePartsSpec) false w args) (Rows.fnJpUnescapePartsSpec.post enc Tryd.prog Tryd.f7 false true false false) := by
  refine returnsInHanded_of_change_and (C := Tryd.checked) (X := fun w _ => laidMetH Tryd.prog Rows.fnJpUnescapePartsRow.laid w) (fun _ _ _ hh h => h.of_heap hh) own started (by kernel_rfl) Tryd.func7
    (ChangeSpec.witness_shaped (enc := enc) (C := Tryd.checked) (os := os) (X := fun w _ => laidMetH Tryd.prog Rows.fnJpUnescapePartsRow.laid w) false (World.laidAll Tryd.prog os Rows.fnJpUnescapePartsRow.laid) #[.string ByteArray.empty, .string ByteArray.empty] 8 (World.laidAll_os _ _ _)
      (World.shaped_of_ZipB (by kernel_rfl) (by kernel_rfl)) (by kernel_rfl) (by kernel_rfl) (by kernel_rfl)
      (by rw [MakeChecks.laidMetH_plain _ _ _ (by kernel_rfl)]; exact laidMet_laidAll _ (by kernel_rfl) (by kernel_rfl))) ?_
  intro W base args ds gs before hval0 hW hcnd hsz0 hL0 _
  have hL : laidMet Tryd.prog [("pub-tetrapla/pub/jsonparser.DefaultConfig", Rows.laid_pub_tetrapla_pub_jsonparser_DefaultConfig), ("pub-tetrapla/pub/jsonparser.backslashCharEscapeTable", Rows.laid_pub_tetrapla_pub_jsonparser_backslashCharEscapeTable), ("pub-tetrapla/pub/jsonparser.MalformedStringEscapeError", Rows.laid_pub_tetrapla_pub_jsonparser_MalformedStringEscapeError)] W := by
    have h := hL0
    rw [MakeChecks.laidMetH_plain _ _ _ (by kernel_rfl)] at h
    exact h
  have hT0 : Kd.C Kd.cfgk W (some ⟨0, 0, none⟩) PJ.tabG0.length PJ.tabG0 := J.tab_cfg (by kernel_rfl) (by kernel_rfl) Tryd.underlying108 (by kernel_rfl) (by kernel_rfl) Tryd.underlying4 Tryd.underlying4 Tryd.underlying3 (by kernel_rfl) (Lib.laidMet.reads hL (.head _))
  have hT2 : Kd.C (Kd.int .u8) W (some ⟨2, 0, none⟩) PJ.tabG2.length PJ.tabG2 := J.tab_ints (t := 139) (by kernel_rfl) (by kernel_rfl) Tryd.underlying139 Tryd.underlying5 (by kernel_rfl) (by kernel_rfl) (by decide) (by kernel_rfl) (Lib.laidMet.reads hL (.tail _ (.head _)))
  have hsz : (DataW.weightsEach Tryd.prog (Tryd.f7.params.toList ++ Rows.fnJpUnescapePartsSpec.plain.varTypes Tryd.prog) (ds ++ gs)).all (· ≤ reachBytes) = true := hsz0
  have hval : ∀ (j : Nat) t v, Tryd.f7.params[j]? = some t → args[j]? = some v → Value.okWide Tryd.prog W .any base t v := hval0
  have hW' := hW
  obtain ⟨p, q, hA0, hV, rfl, hfz, hnd⟩ := hW
  have hA : DataW.TrodAll enc Tryd.prog W 0 (fun _ => true) true Tryd.f7.params.toList args.toList ds p := hA0
  rw [Tryd.params7] at hA hval hsz
  obtain ⟨v0, vs0, d0, ds0, p0, q0, hargs, rfl, rfl, h0, r0⟩ := trodAll_cons hA
  obtain ⟨v1, vs1, d1, ds1, p1, q1, rfl, rfl, rfl, h1, r1⟩ := trodAll_cons r0
  obtain ⟨rfl, rfl, rfl⟩ := trodAll_nil r1
  obtain rfl : args = #[v0, v1] := by cases args; simp_all
  obtain ⟨rfl, rfl⟩ := trodVars_none hV
  obtain ⟨a0, rfl, rfl, rfl, y0⟩ := open_string Tryd.underlying9 (hval 0 9 v0 rfl rfl) h0
  have w0 : a0.size ≤ 140737488351232 := by
    have z := sized_string hsz (j := 0) (t := 9) rfl rfl
    rw [Array.length_toList] at z
    exact z
  obtain ⟨a1, rfl, rfl, rfl, y1⟩ := open_string Tryd.underlying9 (hval 1 9 v1 rfl rfl) h1
  have w1 : a1.size ≤ 140737488351232 := by
    have z := sized_string hsz (j := 1) (t := 9) rfl rfl
    rw [Array.length_toList] at z
    exact z
  clear hA0 hval0 hsz0 hsz
  obtain ⟨k, hk⟩ := Pure.FnJpUnescapeParts a0 a1 w0 w1
  refine (PJ.laws_FnJpUnescapeParts.calls k a0 a1 true W hT0 hT2 hk).mono fun e W' ⟨he, bel0⟩ => ?_
  have bel : Below W.heap.size W W' := bel0
  subst he
  exact ⟨_, rfl, _, _, _, [], _, [], hW', trodAll_mk1 (shut_bool Tryd.underlying4 _), (trodAll_cons_mk (shut_string Tryd.underlying9 y0) (trodAll_cons_mk (shut_string Tryd.underlying9 y1) trodAll_mk0)), rfl, bel.frame _, fun h => by cases h⟩
theorem over : Rows.fnJpUnescapePartsRow.holds Tryd.pinned (OpenSpec.ofChange Rows.fnJpUnescapePartsSpec) :=
  OpenClaim.holds_of_wide 7 Tryd.f7 rfl rfl rfl rfl rfl rfl rfl ⟨rfl, rfl, rfl, rfl, rfl⟩ rfl rfl rfl rfl rfl (by kernel_rfl) Tryd.func7 (by kernel_rfl)
    (of_decide_eq_true (by kernel_rfl)) (by unfold Func.isWrapper; first | (rw [if_pos (by decide +kernel)]; kernel_rfl) | (rw [if_neg (by decide +kernel)]; exact ⟨rfl, rfl⟩))
    (fun os started H enc _ => lifted os started H enc)
theorem proved : Rows.FnJpUnescapePartsSaid := over
theorem carded : Rows.FnJpUnescapePartsCardSaid :=
  Claim7.holds_tied_plain_at .later [] [.data, .data, .sentinel] true (true, "ff0114c50c6c339450ca9158ff41d7bf554a52bab8a8982822b0a926ec813c20") true over (fun _ h => by cases h) (by kernel_rfl) (fun _ h => by cases h) fnJpUnescapeParts_row_tie rfl ⟨rfl, rfl⟩ (by kernel_rfl) rfl
    (fun f fn hf hfn => by
      obtain rfl : f = 7 := Option.some.inj ((show Tryd.prog.funcNamed "pub-tetrapla/laws.FnJpUnescapeParts" = some 7 by kernel_rfl).symm.trans hf) |>.symm
      obtain rfl : fn = Tryd.f7 := (Option.some.inj (Tryd.func7.symm.trans hfn)).symm
      exact ⟨by kernel_rfl, fun j t ht => by
        rw [Tryd.params7] at ht
        have hm : t ∈ [9] := by simpa using Array.mem_of_getElem? ht
        have hall : ([9].all fun u => !Tryd.prog.wantsStandIn u) = true := by kernel_rfl
        exact (show Tryd.prog.wantsStandIn t = false by simpa using List.all_eq_true.1 hall t hm)⟩)
    (by kernel_rfl)
#print axioms carded
end Go.Proofs.YtfpbbnllaogclaaDoor.fnJpUnescapeParts
namespace Go.Proofs.YtfpbbnllaogclaaDoor
/-- The law, under a short name, for the claim. -/
theorem fnJpUnescapeParts_holds : Rows.FnJpUnescapePartsCardSaid := fnJpUnescapeParts.carded
end Go.Proofs.YtfpbbnllaogclaaDoor
