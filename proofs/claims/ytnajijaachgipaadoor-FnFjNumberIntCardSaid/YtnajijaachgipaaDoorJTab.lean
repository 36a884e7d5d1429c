/- Package-level arrays of whole numbers, and of structs of whole numbers, that a row lists: what lies in memory. -/
import Derived.Test.YtnajijaachgipaaDoorWMore
import Derived.Lib.LaidU8
import Derived.OpenShut
namespace Go.Proofs.YtnajijaachgipaaDoor.J
open Go.RowKit Go.Lib Go.Proofs.YtnajijaachgipaaDoorW.PrintWords
theorem add0 (g j : Nat) : (⟨g, 0, none⟩ : Addr).add j = ⟨g, j, none⟩ := by
  unfold Addr.add
  split <;> simp_all
theorem tab_ints {P : Program} {W : World} {name : String} {d : DataW Unit} {k : IntKind} {zs : List Int} {g : Nat} {t e : TypeId} {n : Nat}
    (hg : P.globalNamed name = some g) (hty : (P.globals[g]?).map (·.type) = some t) (ht : P.underlying t = some (.array n e)) (he : P.underlying e = some (.int k)) (hce : P.cellsOf e = 1) (hct : P.cellsOf t = n)
    (hl : zs.length ≤ 9223372036854775807) (hd : d = tabData k zs) (h : VarReads P W name d) : Kd.C (Kd.int k) W (some ⟨g, 0, none⟩) zs.length zs := by
  subst hd
  obtain ⟨g', t', cs, fuel, p, hg', ht', hvar, hr⟩ := h
  obtain rfl := Option.some.inj (hg.symm.trans hg')
  obtain rfl := Option.some.inj (hty.symm.trans ht')
  have hcs := cells_of_tab ht he hce hct hr
  have hT : TabIs P W name k zs := by
    unfold TabIs
    rw [hvar, ← hcs]
  refine Kd.C_of_reads (enc := Value.int k) (d := 0) (h1 := fun _ => rfl) ⟨rfl, hl, fun _ => ⟨_, rfl, fun j hj => ?_⟩⟩
  have := hT.cell hg j hj
  rw [add0]
  exact this
theorem tab_structs {α : Type} {d : Kd α} {P : Program} {W : World} {name : String} {D : DataW Unit} {k : IntKind} {xs : List α} {g : Nat} {t e : TypeId} {n : Nat} {fs : Array Field} (toL : α → List Int)
    (hK : ∀ x, d.K W x ((toL x).map (Value.int k))) (hsz : ∀ x, (toL x).length = d.sz)
    (hg : P.globalNamed name = some g) (hty : (P.globals[g]?).map (·.type) = some t) (ht : P.underlying t = some (.array n e)) (he : P.underlying e = some (.struct fs))
    (hf : ∀ (i : Nat) (f : Field), fs[i]? = some f → P.underlying f.type = some (.int k) ∧ f.offset = i ∧ P.cellsOf f.type = 1) (hce : P.cellsOf e = fs.size) (hds : fs.size = d.sz) (hn : n = xs.length)
    (hl : xs.length ≤ 9223372036854775807) (hd : D = .agg (xs.map fun x => .agg ((toL x).map fun z => .lit (.int k z)))) (h : VarReads P W name D) : Kd.C d W (some ⟨g, 0, none⟩) xs.length xs := by
  subst hd
  obtain ⟨g', t', cs, fuel, p, hg', ht', hvar, hr⟩ := h
  obtain rfl := Option.some.inj (hg.symm.trans hg')
  obtain rfl := Option.some.inj (hty.symm.trans ht')
  refine ⟨rfl, hl, fun _ => ⟨_, rfl, fun j x hj => ⟨(toL x).map (Value.int k), by rw [List.length_map, hsz], hK x, fun i u hu => ?_⟩⟩⟩
  have hjl : j < xs.length := (List.getElem?_eq_some_iff.1 hj).1
  obtain ⟨fuel', d', q, hd', hread⟩ := array_elem ht hr j (by omega)
  rw [List.getElem?_map, hj] at hd'
  obtain rfl := Option.some.inj hd'
  have hcs := ints_of_struct he hf hce hread
  have hi : i < d.sz := by
    have := (List.getElem?_eq_some_iff.1 hu).1
    rwa [List.length_map, hsz] at this
  have hc := World.var?_cell hg hvar (j * d.sz + i)
  rw [← hcs, List.getElem?_take, if_pos (by omega), List.getElem?_drop, hce, hds] at hu
  have e : cs[j * d.sz + i]? = some u := by rw [← Array.getElem?_toList]; exact hu
  rw [e] at hc
  rw [add0]
  exact hc
end Go.Proofs.YtnajijaachgipaaDoor.J
