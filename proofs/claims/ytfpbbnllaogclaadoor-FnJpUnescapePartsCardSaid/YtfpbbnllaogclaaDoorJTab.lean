/- Package-level arrays of whole numbers, and of structs of whole numbers, that a row lists: what lies in memory. -/
import Derived.Test.YtfpbbnllaogclaaDoorWMore
import Derived.Lib.LaidU8
import Derived.OpenShut
import Derived.Lib.SmallJoins
import Derived.Deep.Fields
import Derived.Test.YtfpbbnllaogclaaDoorWMine
namespace Go.Proofs.YtfpbbnllaogclaaDoor.J
open Go.RowKit Go.Lib Go.Joins Go.Deep Go.Proofs.YtfpbbnllaogclaaDoorW.PrintWords
theorem add0 (g j : Nat) : (⟨g, 0, none⟩ : Addr).add j = ⟨g, j, none⟩ := by
  unfold Addr.add
  split <;> simp_all
theorem tab_ints {P : Program} {W : World} {name : String} {d : DataW Unit} {k : IntKind} {zs : List Int} {g : Nat} {t e : TypeId} {n : Nat}
    (hg : P.globalNamed name = some g) (hty : (P.globals[g]?).map (·.type) = some t) (ht : P.underlying t = some (.array n e)) (he : P.underlying e = some (.int k)) (hce : P.cellsOf e = 1) (hct : P.cellsOf t = n)
    (hl : zs.length ≤ 9223372036854775807) (hd : d = tabData k zs) (h : VarReads P W name d) : Kd.C (Kd.int k) W (some ⟨g, 0, none⟩) zs.length zs := by
  subst hd
  obtain ⟨g', t', cs, fuel, p, hg', ht', hvar, hr⟩ := h
  obtain rfl := Option.some.inj (hg.symm.trans hg')
  obtain rfl := Option.some.inj (hty.symm.trans ht')
  have hcs := cells_of_tab ht he hce hct hr
  have hT : TabIs P W name k zs := by
    unfold TabIs
    rw [hvar, ← hcs]
  refine Kd.C_of_reads (enc := Value.int k) (d := 0) (h1 := fun _ => rfl) ⟨rfl, hl, fun _ => ⟨_, rfl, fun j hj => ?_⟩⟩
  have := hT.cell hg j hj
  rw [add0]
  exact this
theorem tab_structs {α : Type} {d : Kd α} {P : Program} {W : World} {name : String} {D : DataW Unit} {k : IntKind} {xs : List α} {g : Nat} {t e : TypeId} {n : Nat} {fs : Array Field} (toL : α → List Int)
    (hK : ∀ x, d.K W x ((toL x).map (Value.int k))) (hsz : ∀ x, (toL x).length = d.sz)
    (hg : P.globalNamed name = some g) (hty : (P.globals[g]?).map (·.type) = some t) (ht : P.underlying t = some (.array n e)) (he : P.underlying e = some (.struct fs))
    (hf : ∀ (i : Nat) (f : Field), fs[i]? = some f → P.underlying f.type = some (.int k) ∧ f.offset = i ∧ P.cellsOf f.type = 1) (hce : P.cellsOf e = fs.size) (hds : fs.size = d.sz) (hn : n = xs.length)
    (hl : xs.length ≤ 9223372036854775807) (hd : D = .agg (xs.map fun x => .agg ((toL x).map fun z => .lit (.int k z)))) (h : VarReads P W name D) : Kd.C d W (some ⟨g, 0, none⟩) xs.length xs := by
  subst hd
  obtain ⟨g', t', cs, fuel, p, hg', ht', hvar, hr⟩ := h
  obtain rfl := Option.some.inj (hg.symm.trans hg')
  obtain rfl := Option.some.inj (hty.symm.trans ht')
  refine ⟨rfl, hl, fun _ => ⟨_, rfl, fun j x hj => ⟨(toL x).map (Value.int k), by rw [List.length_map, hsz], hK x, fun i u hu => ?_⟩⟩⟩
  have hjl : j < xs.length := (List.getElem?_eq_some_iff.1 hj).1
  obtain ⟨fuel', d', q, hd', hread⟩ := array_elem ht hr j (by omega)
  rw [List.getElem?_map, hj] at hd'
  obtain rfl := Option.some.inj hd'
  have hcs := ints_of_struct he hf hce hread
  have hi : i < d.sz := by
    have := (List.getElem?_eq_some_iff.1 hu).1
    rwa [List.length_map, hsz] at this
  have hc := World.var?_cell hg hvar (j * d.sz + i)
  rw [← hcs, List.getElem?_take, if_pos (by omega), List.getElem?_drop, hce, hds] at hu
  have e : cs[j * d.sz + i]? = some u := by rw [← Array.getElem?_toList]; exact hu
  rw [e] at hc
  rw [add0]
  exact hc
theorem tab_cfg {P : Program} {W : World} {name : String} {g : Nat} {t : TypeId} {f0 f1 f2 : Field} {D : DataW Unit}
    (hg : P.globalNamed name = some g) (hty : (P.globals[g]?).map (·.type) = some t) (hs : P.underlying t = some (.struct #[f0, f1, f2])) (hone : oneCellFields P #[f0, f1, f2] = true) (hC : P.cellsOf t = 3)
    (hb0 : P.underlying f0.type = some .bool) (hb1 : P.underlying f1.type = some .bool) (hi2 : P.underlying f2.type = some (.int .i64)) (hd : D = .agg [.lit (.bool false), .lit (.bool false), .lit (.int .i64 0)]) (h : VarReads P W name D) : Kd.C Kd.cfgk W (some ⟨g, 0, none⟩) 1 [()] := by
  subst hd
  obtain ⟨g', t', cs, fuel, p, hg', ht', hvar, hr⟩ := h
  obtain rfl := Option.some.inj (hg.symm.trans hg')
  obtain rfl := Option.some.inj (hty.symm.trans ht')
  obtain ⟨ys, n', hn', hy, hlen, hyl, hf⟩ := DataW.trod_struct hs hr
  simp only [Prod.mk.injEq, DataW.agg.injEq] at hy
  have hl3 : ys.length = 3 := by rw [hyl]; rfl
  have hcl : cs.toList.length = 3 := by rw [hlen, hC]
  obtain ⟨c0, c1, c2, hce⟩ : ∃ c0 c1 c2, cs.toList = [c0, c1, c2] := by
    match hq : cs.toList, hcl with
    | [a, b, c], _ => exact ⟨a, b, c, rfl⟩
  obtain ⟨y0, y1, y2, hye⟩ : ∃ y0 y1 y2, ys = [y0, y1, y2] := by
    match hq : ys, hl3 with
    | [a, b, c], _ => exact ⟨a, b, c, rfl⟩
  subst hye
  rw [hce] at hf
  have e0 := hf 0 f0 rfl
  have e1 := hf 1 f1 rfl
  have e2 := hf 2 f2 rfl
  obtain ⟨o0, k0⟩ := hone_of hone 0 f0 rfl
  obtain ⟨o1, k1⟩ := hone_of hone 1 f1 rfl
  obtain ⟨o2, k2⟩ := hone_of hone 2 f2 rfl
  rw [o0, k0] at e0
  rw [o1, k1] at e1
  rw [o2, k2] at e2
  simp only [List.map_cons, List.map_nil, List.cons.injEq, and_true] at hy
  obtain ⟨⟨d0, d1, d2⟩, _⟩ := hy
  have e0' : DataW.trod _ P W _ _ _ n' f0.type [c0] = some y0 := e0
  have e1' : DataW.trod _ P W _ _ _ n' f1.type [c1] = some y1 := e1
  have e2' : DataW.trod _ P W _ _ _ n' f2.type [c2] = some y2 := e2
  obtain ⟨b0, v0, x0⟩ := DataW.trod_bool hb0 e0'
  obtain ⟨b1, v1, x1⟩ := DataW.trod_bool hb1 e1'
  obtain ⟨i2, v2, x2, _⟩ := DataW.trod_int hi2 e2'
  simp only [List.cons.injEq, and_true] at v0 v1 v2
  rw [x0] at d0
  rw [x1] at d1
  rw [x2] at d2
  simp only [DataW.lit.injEq, Lit.bool.injEq, Lit.int.injEq, true_and] at d0 d1 d2
  subst v0 v1 v2 d0 d1 d2
  have at_ : ∀ j, cs[j]? = [Value.bool false, .bool false, .int .i64 0][j]? := fun j => by rw [← Array.getElem?_toList, hce]
  have q := fun j => World.var?_cell hg hvar j
  exact cfgk_of ((q 0).trans (at_ 0)) ((q 1).trans (at_ 1)) ((q 2).trans (at_ 2))
end Go.Proofs.YtfpbbnllaogclaaDoor.J
