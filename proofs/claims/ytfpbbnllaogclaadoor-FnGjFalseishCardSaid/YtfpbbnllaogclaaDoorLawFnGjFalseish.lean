/- The law FnGjFalseish holds for every input: out of its pure statement and the walks. -/
import Derived.Test.YtfpbbnllaogclaaDoorRows
import Derived.Test.YtfpbbnllaogclaaDoorHPure
import Derived.WalkKit
import Derived.ProofKit
import Derived.OpenShut
import Derived.ShutString
import Derived.ChangeOld
import Derived.Below
import Derived.SizedLaws
import Derived.Lib.SmallJoins
import Derived.Lib.LaidU8
import Derived.Test.YtfpbbnllaogclaaDoorCards
import Derived.Test.YtfpbbnllaogclaaDoorTie
import Derived.LaidMore
import Derived.Lay
import Derived.SevenTiedAt
import Derived.Stop.Joined
import Derived.Stop.LaidErr
namespace Go.Proofs.YtfpbbnllaogclaaDoor.fnGjFalseish
open Go.ChangeShapes Go.WideShapes Go.ChangeAt Go.RowKit Go.Joins Go.Deep Go.Proofs.YtfpbbnllaogclaaDoorW.PrintWords Go.Proofs.YtfpbbnllaogclaaDoorW.PrintLast
open Go.ChangeMaps (open_string shut_string)
set_option linter.unusedVariables false
set_option linter.unusedSimpArgs false
theorem array5 {α : Type} {cs : Array α} (h : cs.size = 5) : ∃ c0 c1 c2 c3 c4, cs = #[c0, c1, c2, c3, c4] := by
  obtain ⟨l⟩ := cs
  match l, h with
  | [c0, c1, c2, c3, c4], _ => exact ⟨c0, c1, c2, c3, c4, rfl⟩
section
variable {H : Type} {enc : TypeId × Value → H} {P : Program} {w : World} {base : Nat} {spare : Nat → Bool} {held : Bool}
theorem trod_struct5 {t : TypeId} {f0 f1 f2 f3 f4 : Field} {fuel : Nat} {cs : List Value} {x : DataW H × List MemPlace} (ht : P.underlying t = some (.struct #[f0, f1, f2, f3, f4])) (h : DataW.trod enc P w base spare held fuel t cs = some x) :
    ∃ y0 y1 y2 y3 y4 n, x = (.agg [y0.1, y1.1, y2.1, y3.1, y4.1], y0.2 ++ (y1.2 ++ (y2.2 ++ (y3.2 ++ y4.2)))) ∧ cs.length = P.cellsOf t ∧ DataW.trod enc P w base spare held n f0.type ((cs.drop f0.offset).take (P.cellsOf f0.type)) = some y0 ∧
      DataW.trod enc P w base spare held n f1.type ((cs.drop f1.offset).take (P.cellsOf f1.type)) = some y1 ∧ DataW.trod enc P w base spare held n f2.type ((cs.drop f2.offset).take (P.cellsOf f2.type)) = some y2 ∧
      DataW.trod enc P w base spare held n f3.type ((cs.drop f3.offset).take (P.cellsOf f3.type)) = some y3 ∧ DataW.trod enc P w base spare held n f4.type ((cs.drop f4.offset).take (P.cellsOf f4.type)) = some y4 := by
  obtain ⟨xs, n, _, rfl, hl, hlen, hf⟩ := DataW.trod_struct ht h
  match xs, hlen with
  | [y0, y1, y2, y3, y4], _ => exact ⟨y0, y1, y2, y3, y4, n, by simp, hl, by simpa using hf 0 f0 rfl, by simpa using hf 1 f1 rfl, by simpa using hf 2 f2 rfl, by simpa using hf 3 f3 rfl, by simpa using hf 4 f4 rfl⟩
theorem open_agg5 {r : Reach} {b0 : Nat} {t : TypeId} {f0 f1 f2 f3 f4 : Field} {v : Value} {d : DataW H} {p : List MemPlace} (hs : P.underlying t = some (.struct #[f0, f1, f2, f3, f4])) (hone : oneCellFields P #[f0, f1, f2, f3, f4] = true) (hC : P.cellsOf t = 5)
    (hv : Value.okWide P w r b0 t v) (h : DataW.Trod enc P w base spare held t v d p) :
    ∃ (v0 v1 v2 v3 v4 : Value) (y0 y1 y2 y3 y4 : DataW H × List MemPlace) (n : Nat), v = .agg #[v0, v1, v2, v3, v4] ∧ d = .agg [y0.1, y1.1, y2.1, y3.1, y4.1] ∧ p = y0.2 ++ (y1.2 ++ (y2.2 ++ (y3.2 ++ y4.2))) ∧
      DataW.trod enc P w base spare held n f0.type [v0] = some y0 ∧ DataW.trod enc P w base spare held n f1.type [v1] = some y1 ∧ DataW.trod enc P w base spare held n f2.type [v2] = some y2 ∧ DataW.trod enc P w base spare held n f3.type [v3] = some y3 ∧ DataW.trod enc P w base spare held n f4.type [v4] = some y4 := by
  obtain ⟨cs, rfl, hsz⟩ := okWide_struct hs hv
  obtain ⟨c0, c1, c2, c3, c4, rfl⟩ := array5 (hsz.trans hC)
  obtain ⟨fuel, hf⟩ := h
  obtain ⟨y0, y1, y2, y3, y4, n, hx, _, h0, h1, h2, h3, h4⟩ := trod_struct5 hs hf
  obtain ⟨o0, k0⟩ := hone_of hone 0 f0 rfl
  obtain ⟨o1, k1⟩ := hone_of hone 1 f1 rfl
  obtain ⟨o2, k2⟩ := hone_of hone 2 f2 rfl
  obtain ⟨o3, k3⟩ := hone_of hone 3 f3 rfl
  obtain ⟨o4, k4⟩ := hone_of hone 4 f4 rfl
  simp only [Prod.mk.injEq] at hx
  exact ⟨c0, c1, c2, c3, c4, y0, y1, y2, y3, y4, n, rfl, hx.1, hx.2, by simpa [Value.cells, o0, k0] using h0, by simpa [Value.cells, o1, k1] using h1, by simpa [Value.cells, o2, k2] using h2, by simpa [Value.cells, o3, k3] using h3, by simpa [Value.cells, o4, k4] using h4⟩
theorem shut_agg5 {t : TypeId} {f0 f1 f2 f3 f4 : Field} {v0 v1 v2 v3 v4 : Value} {y0 y1 y2 y3 y4 : DataW H × List MemPlace} (hs : P.underlying t = some (.struct #[f0, f1, f2, f3, f4])) (hone : oneCellFields P #[f0, f1, f2, f3, f4] = true) (hC : P.cellsOf t = 5) {n : Nat}
    (t0 : DataW.trod enc P w base spare held n f0.type [v0] = some y0) (t1 : DataW.trod enc P w base spare held n f1.type [v1] = some y1) (t2 : DataW.trod enc P w base spare held n f2.type [v2] = some y2) (t3 : DataW.trod enc P w base spare held n f3.type [v3] = some y3) (t4 : DataW.trod enc P w base spare held n f4.type [v4] = some y4) :
    DataW.Trod enc P w base spare held t (.agg #[v0, v1, v2, v3, v4]) (.agg [y0.1, y1.1, y2.1, y3.1, y4.1]) (y0.2 ++ (y1.2 ++ (y2.2 ++ (y3.2 ++ y4.2)))) := by
  obtain ⟨o0, k0⟩ := hone_of hone 0 f0 rfl
  obtain ⟨o1, k1⟩ := hone_of hone 1 f1 rfl
  obtain ⟨o2, k2⟩ := hone_of hone 2 f2 rfl
  obtain ⟨o3, k3⟩ := hone_of hone 3 f3 rfl
  obtain ⟨o4, k4⟩ := hone_of hone 4 f4 rfl
  have := trod_struct_mk (enc := enc) (w := w) (base := base) (spare := spare) (held := held) (n := n) (cs := [v0, v1, v2, v3, v4]) (xs := [y0, y1, y2, y3, y4]) hs (by simp [hC]) (by simp [o0, k0, o1, k1, o2, k2, o3, k3, o4, k4, t0, t1, t2, t3, t4])
  exact ⟨_, by simpa [Value.cells] using this⟩
end
theorem trod_float {H : Type} {enc : TypeId × Value → H} {P : Program} {w : World} {base : Nat} {spare : Nat → Bool} {held : Bool} {fuel : Nat} {cs : List Value} {x : DataW H × List MemPlace} {t : TypeId} {k : FloatKind} (ht : P.underlying t = some (.float k)) (h : DataW.trod enc P w base spare held fuel t cs = some x) : ∃ n, cs = [.float k n] ∧ x = (.lit (.float k n), []) ∧ (Lit.float k n).wf = true := by
  cases fuel with
  | zero => simp [DataW.trod] at h
  | succ m =>
    unfold DataW.trod at h
    rw [ht] at h
    split at h <;> simp_all
theorem own : ownKnob Tryd.prog.godebug = none := by kernel_rfl
theorem cells47 : Tryd.prog.cellsOf 47 = 5 := by kernel_rfl
theorem star : "*" ++ "errors.errorString" = "*errors.errorString" := by decide
/-- The one type of that name. -/
theorem row145 (u : TypeId) (h : Tryd.prog.typeName? 3 u = some "*errors.errorString") : u = 145 :=
  typeName_ptr_named (nm := "errors.errorString") (by rw [star]; kernel_rfl) (by kernel_rfl) (by decide) u (by rw [star]; exact h)
set_option maxRecDepth 100000 in
theorem lifted (os : Os) (started : os.Started) (H : Type) (enc : TypeId × Value → H) :
    ReturnsInHanded {} Tryd.checked os 6 .any (fun w args => (Rows.fnGjFalseishSpec.pre enc Tryd.prog Tryd.f6 Rows.fnGjFalseishRow.domain false w args ∧ laidMetH Tryd.prog Rows.fnGjFalseishRow.laid w) ∧ sizedMet enc Tryd.prog Tryd.f6 (OpenSpec.ofChange Rows.fnGjFalseishSpec) false w args) (Rows.fnGjFalseishSpec.post enc Tryd.prog Tryd.f6 false true false false) := by
  refine returnsInHanded_of_change_and (C := Tryd.checked) (X := fun w _ => laidMetH Tryd.prog Rows.fnGjFalseishRow.laid w) (fun _ _ _ hh h => h.of_heap hh) own started (by kernel_rfl) Tryd.func6
    (ChangeSpec.witness_shaped (enc := enc) (C := Tryd.checked) (os := os) (X := fun w _ => laidMetH Tryd.prog Rows.fnGjFalseishRow.laid w) false (World.laidAll Tryd.prog os Rows.fnGjFalseishRow.laid) #[.agg #[.int .i64 0, .string ByteArray.empty, .string ByteArray.empty, .float .f64 0, .bool false]] 8 (World.laidAll_os _ _ _)
      (World.shaped_of_ZipB (by kernel_rfl) (by kernel_rfl)) (by kernel_rfl) (by kernel_rfl) (by kernel_rfl)
      (by rw [MakeChecks.laidMetH_plain _ _ _ (by kernel_rfl)]; exact laidMet_laidAll _ (by kernel_rfl) (by kernel_rfl))) ?_
  intro W base args ds gs before hval0 hW hcnd hsz0 hL0 _
  have hL : laidMet Tryd.prog [("math/bits.deBruijn32tab", Rows.laid_math_bits_deBruijn32tab), ("math/bits.deBruijn64tab", Rows.laid_math_bits_deBruijn64tab), ("internal/strconv.uint64pow10", Rows.laid_internal_strconv_uint64pow10), ("strconv.ErrRange", Rows.laid_strconv_ErrRange), ("strconv.ErrSyntax", Rows.laid_strconv_ErrSyntax)] W := by
    have h := hL0
    rw [MakeChecks.laidMetH_plain _ _ _ (by kernel_rfl)] at h
    exact h
  obtain ⟨ea, es, hev, -, -, -⟩ := laid_sentinel (g := 6) (ti := 73) (tp := 145) (te := 147) (ts := 9) hL.tail.tail.tail.tail (by kernel_rfl) (by kernel_rfl) Tryd.underlying73 row145 Tryd.underlying145 Tryd.underlying147 rfl rfl Tryd.underlying9 (by kernel_rfl) (by kernel_rfl)
  have hv : W.cell? ⟨6, 0, none⟩ = some (.iface 145 (.pointer (some ea))) := by
    have h0 := World.var?_cell (g := 6) (P := Tryd.prog) (by kernel_rfl) hev 0
    simpa using h0
  have hsz : (DataW.weightsEach Tryd.prog (Tryd.f6.params.toList ++ Rows.fnGjFalseishSpec.plain.varTypes Tryd.prog) (ds ++ gs)).all (· ≤ reachBytes) = true := hsz0
  have hval : ∀ (j : Nat) t v, Tryd.f6.params[j]? = some t → args[j]? = some v → Value.okWide Tryd.prog W .any base t v := hval0
  have hW' := hW
  obtain ⟨p, q, hA0, hV, rfl, hfz, hnd⟩ := hW
  have hA : DataW.TrodAll enc Tryd.prog W 0 (fun _ => true) true Tryd.f6.params.toList args.toList ds p := hA0
  rw [Tryd.params6] at hA hval hsz
  obtain ⟨v0, vs0, d0, ds0, p0, q0, hargs, rfl, rfl, h0, r0⟩ := trodAll_cons hA
  obtain ⟨rfl, rfl, rfl⟩ := trodAll_nil r0
  obtain rfl : args = #[v0] := by cases args; simp_all
  obtain ⟨rfl, rfl⟩ := trodVars_none hV
  obtain ⟨c0, c1, c2, c3, c4, y0, y1, y2, y3, y4, m, rfl, rfl, rfl, hy0, hy1, hy2, hy3, hy4⟩ := open_agg5 Tryd.underlying47 (by kernel_rfl) cells47 (hval 0 47 v0 rfl rfl) h0
  have hs2 := hsz
  obtain ⟨T, e0, rfl, wT⟩ := DataW.trod_int Tryd.underlying3 hy0
  obtain ⟨raw, e1, rfl, wr⟩ := DataW.trod_string Tryd.underlying9 hy1
  obtain ⟨s, e2, rfl, ws⟩ := DataW.trod_string Tryd.underlying9 hy2
  obtain ⟨n, e3, rfl, wf⟩ := trod_float Tryd.underlying45 hy3
  obtain ⟨b, e4, rfl⟩ := DataW.trod_bool Tryd.underlying4 hy4
  simp at e0 e1 e2 e3 e4
  subst e0 e1 e2 e3 e4
  have wz : s.size ≤ 140737488351232 := by
    have z := List.all_eq_true.1 hs2 s.data.toList.length (DataW.weights_mem_each (j := 0) (t := 47) rfl rfl _ (by simp [DataW.weights, DataW.weightsEach, Tryd.underlying47]))
    rw [Array.length_toList] at z
    exact of_decide_eq_true z
  obtain ⟨k, r, hk, hr, hP⟩ := _root_.Go.Proofs.YtfpbbnllaogclaaDoor.H.pure s wz
  refine (_root_.Go.Proofs.YtfpbbnllaogclaaDoor.H.law T raw s n b W k r hk hr wz hP 145 _ hv).mono fun e W' ⟨he, bel⟩ => ?_
  subst he
  have back : ∀ sp : Nat → Bool, DataW.Trod enc Tryd.prog W' 0 sp true 47 (.agg #[.int .i64 T, .string raw, .string s, .float .f64 n, .bool b]) (.agg [.lit (.int .i64 T), .lit (.string raw.data.toList), .lit (.string s.data.toList), .lit (.float .f64 n), .lit (.bool b)]) [] := fun sp =>
    shut_agg5 (n := 1) (y0 := (.lit (.int .i64 T), [])) (y1 := (.lit (.string raw.data.toList), [])) (y2 := (.lit (.string s.data.toList), [])) (y3 := (.lit (.float .f64 n), [])) (y4 := (.lit (.bool b), [])) Tryd.underlying47 (by kernel_rfl) cells47
      (by simp [DataW.trod, Tryd.underlying3, wT]) (by simp [DataW.trod, Tryd.underlying9, wr]) (by simp [DataW.trod, Tryd.underlying9, ws]) (by simp [DataW.trod, Tryd.underlying45, wf]) (by simp [DataW.trod, Tryd.underlying4])
  exact ⟨_, rfl, _, _, _, [], _, [], hW', trodAll_mk1 (shut_bool Tryd.underlying4 _), trodAll_mk1 (back _), rfl, bel.frame _, fun h => by cases h⟩
theorem over : Rows.fnGjFalseishRow.holds Tryd.pinned (OpenSpec.ofChange Rows.fnGjFalseishSpec) :=
  OpenClaim.holds_of_wide 6 Tryd.f6 rfl rfl rfl rfl rfl rfl rfl ⟨rfl, rfl, rfl, rfl, rfl⟩ rfl rfl rfl rfl rfl (by kernel_rfl) Tryd.func6 (by kernel_rfl)
    (of_decide_eq_true (by kernel_rfl)) (by unfold Func.isWrapper; first | (rw [if_pos (by decide +kernel)]; kernel_rfl) | (rw [if_neg (by decide +kernel)]; exact ⟨rfl, rfl⟩))
    (fun os started H enc _ => lifted os started H enc)
theorem proved : Rows.FnGjFalseishSaid := over
theorem carded : Rows.FnGjFalseishCardSaid :=
  Claim7.holds_tied_plain_at .later [] [.data, .data, .data, .sentinel, .sentinel] true (true, "ff0114c50c6c339450ca9158ff41d7bf554a52bab8a8982822b0a926ec813c20") true over (fun _ h => by cases h) (by kernel_rfl) (fun _ h => by cases h) fnGjFalseish_row_tie rfl ⟨rfl, rfl⟩ (by kernel_rfl) rfl
    (fun f fn hf hfn => by
      obtain rfl : f = 6 := Option.some.inj ((show Tryd.prog.funcNamed "pub-tetrapla/laws.FnGjFalseish" = some 6 by kernel_rfl).symm.trans hf) |>.symm
      obtain rfl : fn = Tryd.f6 := (Option.some.inj (Tryd.func6.symm.trans hfn)).symm
      exact ⟨by kernel_rfl, fun j t ht => by
        rw [Tryd.params6] at ht
        have hm : t ∈ [47] := by simpa using Array.mem_of_getElem? ht
        have hall : ([47].all fun u => !Tryd.prog.wantsStandIn u) = true := by kernel_rfl
        exact (show Tryd.prog.wantsStandIn t = false by simpa using List.all_eq_true.1 hall t hm)⟩)
    (by kernel_rfl)
#print axioms carded
end Go.Proofs.YtfpbbnllaogclaaDoor.fnGjFalseish
namespace Go.Proofs.YtfpbbnllaogclaaDoor
/-- The law, under a short name, for the claim. -/
theorem fnGjFalseish_holds : Rows.FnGjFalseishCardSaid := fnGjFalseish.carded
end Go.Proofs.YtfpbbnllaogclaaDoor
