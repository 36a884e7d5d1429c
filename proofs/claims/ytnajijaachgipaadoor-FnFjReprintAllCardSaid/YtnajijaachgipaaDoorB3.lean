/- Texts of this claim put together: HFjB, HFjC, HFjP, HFjQ, HFjR, HFjS, HFjT, HFjU, HFjM, JByt, HFjV, HFjW, PRx21, PRx22. -/
import Derived.Test.YtnajijaachgipaaDoorB2
import Derived.Lib.AppendStr
import Derived.Test.YtnajijaachgipaaDoorB0
import Derived.Deep.RegionWith
import Derived.RegionTactic
section
namespace Go.Proofs.YtnajijaachgipaaDoor.H
open Go.RowKit Go.Proofs.YtnajijaachgipaaDoorW.PrintWords Go.Proofs.YtnajijaachgipaaDoorW.PrintLast Go.Proofs.YtnajijaachgipaaDoorW.PrintMore
set_option linter.unusedVariables false
/-- What a new Value of the cache is. -/
structure NewV (Z : Array Value) (E : TypeId) (W W' : World) (g co : Nat) (Bo : Option (Nat × Nat)) (n B c : Nat) : Prop where
 st : CS Z E W' g co (some (B, c)) (n + 1)
 ch : Ch W W' (SK g co Bo (n * Z.size))
 lk : Lk W Bo (n * Z.size) (some (B, c)) ((n + 1) * Z.size)
 zero : ∀ j u, Z[j]? = some u → W'.cell? ⟨B, n * Z.size + j, none⟩ = some u
 copy : ∀ B0 c0, Bo = some (B0, c0) → ∀ j, j < n * Z.size → W'.cell? ⟨B, j, none⟩ = W.cell? ⟨B0, j, none⟩
theorem newV {Z : Array Value} {E : TypeId} {W W1 : World} {g co n N c : Nat} {Bo : Option (Nat × Nat)} {xs : List Value} (h : CS Z E W g co Bo n) (hb : Below W.heap.size W W1) (hN : Bo = some (N, c) ∨ W.heap.size ≤ N) (hx : xs.length = n * Z.size)
  (hcp : ∀ B0 c0, Bo = some (B0, c0) → ∀ j, j < n * Z.size → W.cell? ⟨B0, j, none⟩ = xs[j]?)
  (hh : W1.heap[N]? = some (.cells ((xs ++ Z.toList).toArray ++ Builtin.zeroCells Z (c - (n + 1))) E (0, 0))) (hc : n + 1 ≤ c) (hm : c ≤ maxLen) (m2 : Nat) :
  NewV Z E W ((W1.setCell ⟨g, co, none⟩ (.slice (some ⟨N, 0, none⟩) (n + 1) c)).drewN m2) g co Bo n N c := by
 have hg := h.glt
 have hNg : N ≠ g := by
  rcases hN with e | e
  ·exact h.ne e
  omega
 obtain ⟨arr, ty, e, hv⟩ := h.cell
 have e1 := (hb.block g hg).trans e
 have c1 : Ch W W1 (fun _ _ => False) := Ch.of_below hb _
 have c2 := Ch.set (o := co) e1 (.slice (some ⟨N, 0, none⟩) (n + 1) c)
 have c3 : Ch (W1.setCell ⟨g, co, none⟩ (.slice (some ⟨N, 0, none⟩) (n + 1) c)) ((W1.setCell ⟨g, co, none⟩ (.slice (some ⟨N, 0, none⟩) (n + 1) c)).drewN m2) (fun _ _ => False) := Ch.of_below (pw_below_drewN (Below.refl _ _) m2) _
 have hN2 : (W1.setCell ⟨g, co, none⟩ (.slice (some ⟨N, 0, none⟩) (n + 1) c)).heap[N]? = W1.heap[N]? := by
  rw [setCell_eq_setRow W1 g co arr ty (0, 0) _ e1]
  exact setRow_other _ _ _ _ hNg
 have hco : co < arr.size := (Array.getElem?_eq_some_iff.1 hv).1
 have hsu : (n + 1) * Z.size = n * Z.size + Z.size := Nat.succ_mul n Z.size
 have hxa : (xs ++ Z.toList).length = (n + 1) * Z.size := by rw [List.length_append, hx, Array.length_toList, hsu]
 have st0 : CS Z E (W1.setCell ⟨g, co, none⟩ (.slice (some ⟨N, 0, none⟩) (n + 1) c)) g co (some (N, c)) (n + 1) := by
  refine ⟨⟨arr.setIfInBounds co (.slice (some ⟨N, 0, none⟩) (n + 1) c), ty, ?_, ?_⟩, .inr ⟨N, c, xs ++ Z.toList, rfl, hNg, hc, hm, hxa, hN2.trans hh⟩⟩
  ·rw [setCell_eq_setRow W1 g co arr ty (0, 0) _ e1]
   exact setRow_heap W1 g arr _ ty (0, 0) e1
  simp [hco, cv]
 have hz : ((W1.setCell ⟨g, co, none⟩ (.slice (some ⟨N, 0, none⟩) (n + 1) c)).drewN m2).heap[N]? = _ := (pw_below_drewN (Below.refl (W1.setCell ⟨g, co, none⟩ (.slice (some ⟨N, 0, none⟩) (n + 1) c)).heap.size _) m2).block N (Array.getElem?_eq_some_iff.1 (hN2.trans hh)).1
 have hat : ∀ p, p < (n + 1) * Z.size → ((W1.setCell ⟨g, co, none⟩ (.slice (some ⟨N, 0, none⟩) (n + 1) c)).drewN m2).cell? ⟨N, p, none⟩ = (xs ++ Z.toList)[p]? := fun p hp => by
  rw [cell_of_row _ N _ _ _ (0, 0) (hz.trans (hN2.trans hh)), Array.getElem?_append_left (show p < (xs ++ Z.toList).toArray.size from by rw [List.size_toArray, hxa]; exact hp), List.getElem?_toArray]
 refine ⟨st0.ch c3 (fun h => h) (fun _ _ _ _ _ h => h), ?_, ⟨by omega, fun B' c' e' => ?_⟩, fun j u hu => ?_, fun B0 c0 e0 j hj => ?_⟩
 ·exact (((c1.mono (S1 := SK g co Bo (n * Z.size)) (fun _ _ _ h => h.elim)).comp c2 (fun k p _ h => .inl h)).comp c3 (fun _ _ _ h => h.elim))
 ·obtain ⟨rfl, rfl⟩ := Prod.mk.inj (Option.some.inj e')
  rcases hN with q | q
  ·exact .inl ⟨_, q⟩
  exact .inr q
 ·have hj : j < Z.size := (Array.getElem?_eq_some_iff.1 hu).1
  rw [hat _ (by omega), List.getElem?_append_right (by omega), hx, show n * Z.size + j - n * Z.size = j by omega, Array.getElem?_toList]
  exact hu
 rw [hat _ (by omega), List.getElem?_append_left (by omega), hcp B0 c0 e0 j hj]
/-- The old cells, as a list. -/
theorem CS.cells {Z : Array Value} {E : TypeId} {W : World} {g co n B c : Nat} {xs : List Value} (hx : xs.length = n * Z.size) (hh : W.heap[B]? = some (.cells (xs.toArray ++ Builtin.zeroCells Z (c - n)) E (0, 0))) (j : Nat) (hj : j < n * Z.size) : W.cell? ⟨B, j, none⟩ = xs[j]? := by
 rw [cell_of_row W B j _ E (0, 0) hh, Array.getElem?_append_left (show j < xs.toArray.size from by rw [List.size_toArray, hx]; exact hj), List.getElem?_toArray]
/-- The cells of a new member. -/
def zk : Array Value := #[.string ByteArray.empty, .pointer none]
set_option maxHeartbeats 1000000 in
set_option maxRecDepth 100000 in
theorem getV_room (g co n B c : Nat) (W : World) (h : CS zc 86 W g co (some (B, c)) n) (hn : n < c) :
  Calls Tryd.prog 39 #[.pointer (some ⟨g, co, none⟩)] W fun e W' => e = .returned (.pointer (some ⟨B, n * 5, none⟩)) ∧ NewV zc 86 W W' g co (some (B, c)) n B c := by
 have hc := h.at_
 have hf := h.soft
 simp only [cv] at hc
 have H := Aside0.mk h
 clear h
 have hle : ((n : Int) + 1).toNat = n + 1 := by omega
 have hcm : c ≤ maxLen := by
  rcases H.out.row with ⟨e, _⟩ | ⟨B', c', xs, e, _, _, hm, _⟩
  ·cases e
  obtain ⟨rfl, rfl⟩ := Prod.mk.inj (Option.some.inj e)
  exact hm
 have hw : IntKind.i64.wrap ((n : Int) + 1) = n + 1 := by rw [IntKind.wrap_i64]; simp only [maxLen] at hcm; omega
 have q0 : (0 : Int) ≤ n := by omega
 have q1 : (n : Int) < (n : Int) + 1 := by omega
 have hw2 : IntKind.i64.wrap (n : Int) = n := by rw [IntKind.wrap_i64]; simp only [maxLen] at hcm; omega
 go_enter Tryd.func39, Tryd.ntmps39
 go_wp2
 go_quiet (fail)
 go_wp2
 go_region
 go_wp2
 go_quiet (fail)
 go_wp2
 go_ret
 refine ⟨rfl, ?_⟩
 rcases H.out.row with ⟨e, _⟩ | ⟨B', c', xs, e, hne, hnc, hm, hl, hh⟩
 ·cases e
 obtain ⟨rfl, rfl⟩ := Prod.mk.inj (Option.some.inj e)
 refine newV (xs := xs) H.out (pw_below_drewN (Below.refl _ _) _) (.inl rfl) hl (fun B0 c0 e0 j hj => ?_) ?_ hn hm _
 ·obtain ⟨rfl, rfl⟩ := Prod.mk.inj (Option.some.inj e0)
  exact CS.cells (g := g) (co := co) hl hh j hj
 refine ((pw_below_drewN (Below.refl W.heap.size W) _).block _ (Array.getElem?_eq_some_iff.1 hh).1).trans ?_
 rw [hh, show c - n = (c - (n + 1)) + 1 by omega, zeroCells_succ]
 congr 2
 apply Array.ext'
 simp
section
variable {P : Program} {ops : Array Oper} {rest : List Oper} {o : Oper} {a : Act} {Q : Exit → Act → World → Prop}
/-- One zero element is appended to a row that is full: a new row, zeros behind. -/
theorem wpList_push {W : World} (hgd : o.guard = none) (s x : Operand) (t e : TypeId) (ho : o.op = .call { callee := .builtin .append, args := #[s, x], argTypes := #[t, t] })
  (ht : P.underlying t = some (.slice e)) {i : TypeInfo} {z : Value} {Z : Array Value} {bytes : Nat} (hi : P.info? e = some i) (hz0 : i.zero = some z) (hzc : z.cells = Z) (hz1 : i.size = Z.size) (hz2 : i.bytes = bytes)
  (v : Value) (n : Nat) (xs : List Value) (A : Nat)
  (hv : (v = .slice none 0 0 ∧ n = 0 ∧ xs = []) ∨ (∃ B cur fz, v = .slice (some ⟨B, 0, none⟩) n n ∧ xs.length = n * Z.size ∧ W.heap[B]? = some (.cells cur e fz) ∧ cur.toList.take (n * Z.size) = xs))
  (hs : a.eval s = v) (hx : a.eval x = .slice (some ⟨A, 0, none⟩) 1 1) (hA : ∀ j u, Z.toList[j]? = some u → W.cell? ((⟨A, 0, none⟩ : Addr).add j) = some u)
  (hn : n ≤ 1000000) (hl : (n + 1) * bytes ≤ 140737488355328)
  (h : ∀ N c w1, W.heap.size ≤ N → Below W.heap.size W w1 → w1.heap[N]? = some (.cells ((xs ++ Z.toList).toArray ++ Builtin.zeroCells Z (c - (n + 1))) e (0, 0)) → n + 1 ≤ c → c ≤ maxLen → wpList P ops Q rest (a.put o.dst (.slice (some ⟨N, 0, none⟩) (n + 1) c)) w1) :
  wpList P ops Q (o :: rest) a W := by
 subst hzc hz2
 have hbel : ∀ ob, Below W.heap.size W (W.drew.alloc ob) := fun ob => below_alloc (below_drew1 (Below.refl _ _)) ob
 have hg := fun old => grownCap_ge W (n + 1) old e
 have hgm := fun old => grownCap_le_maxLen W (n + 1) old e (by simp only [maxLen]; omega)
 rcases hv with ⟨rfl, rfl, rfl⟩ | ⟨B, cur, fz, rfl, hlx, hB, htk⟩
 ·have hr := run_append_nil (P := P) W t o.type e i z ht hi hz0 ⟨A, 0, none⟩ 1 1 z.cells.toList (by rw [hz1]; simp) hA (by omega) (by omega) (by omega)
  refine Lib.wpList_append_run W hgd s x t t ho _ _ hs hx _ _ hr (h _ _ _ (Nat.le_refl _) (hbel _) ?_ (hg 0) (hgm 0))
  refine (heap_alloc_new W.drew _).trans ?_
  first | (simp; done) | (congr 2; apply Array.ext'; simp)
 have hold : ∀ j u, xs[j]? = some u → W.cell? ((⟨B, 0, none⟩ : Addr).add j) = some u := fun j u hu => by
  rw [show ((⟨B, 0, none⟩ : Addr).add j) = ⟨B, j, none⟩ by unfold Addr.add; split <;> simp_all, cell_of_row W B j cur e fz hB, ← hu, ← htk, List.getElem?_take]
  have hj : j < xs.length := (List.getElem?_eq_some_iff.1 hu).1
  rw [if_pos (by omega), Array.getElem?_toList]
 have hr := run_append_grow (P := P) W t o.type e i z ht hi hz0 ⟨B, 0, none⟩ n n xs (by rw [hz1]; exact hlx) hold ⟨A, 0, none⟩ 1 1 z.cells.toList (by rw [hz1]; simp) hA (by omega) (by omega) (growslice_fits (by omega) hl)
 refine Lib.wpList_append_run W hgd s x t t ho _ _ hs hx _ _ hr (h _ _ _ (Nat.le_refl _) (hbel _) ?_ (hg n) (hgm n))
 refine (heap_alloc_new W.drew _).trans ?_
 first | (simp; done) | (congr 2; apply Array.ext'; simp)
end
theorem zc_at (w : World) (j : Nat) (u : Value) (h : zc.toList[j]? = some u) : (w.alloc (.cells zc 86)).cell? ((⟨w.heap.size, 0, none⟩ : Addr).add j) = some u := by
 rw [show ((⟨w.heap.size, 0, none⟩ : Addr).add j) = ⟨w.heap.size, j, none⟩ by unfold Addr.add; split <;> simp_all]
 have : (w.alloc (.cells zc 86)).cell? ⟨w.heap.size, j, none⟩ = zc.toList[j]? := by
  simp [World.cell?, World.alloc, -World.alloc_eq]
 rw [this, h]
set_option maxHeartbeats 1000000 in
set_option maxRecDepth 100000 in
theorem getV_full (g co n : Nat) (Bo : Option (Nat × Nat)) (W : World) (h : CS zc 86 W g co Bo n) (hn : n ≤ 1000000) (hB : (Bo = none ∧ n = 0) ∨ ∃ B, Bo = some (B, n)) :
  Calls Tryd.prog 39 #[.pointer (some ⟨g, co, none⟩)] W fun e W' => ∃ B c, e = .returned (.pointer (some ⟨B, n * 5, none⟩)) ∧ NewV zc 86 W W' g co Bo n B c := by
 have hf := h.soft
 have hglt := h.glt
 obtain ⟨V, hV, hc⟩ : ∃ V, V = cv Bo n ∧ W.cell? ⟨g, co, none⟩ = some V := ⟨_, rfl, h.at_⟩
 obtain ⟨xs, hvx⟩ : ∃ xs : List Value, xs.length = n * 5 ∧ ((V = .slice none 0 0 ∧ n = 0 ∧ xs = []) ∨ (∃ B cur fz, V = .slice (some ⟨B, 0, none⟩) n n ∧ B < W.heap.size ∧ W.heap[B]? = some (.cells cur 86 fz) ∧ cur.toList.take (n * 5) = xs)) ∧ (∀ B0 c0, Bo = some (B0, c0) → ∀ j, j < n * zc.size → W.cell? ⟨B0, j, none⟩ = xs[j]?) := by
  rcases h.row with ⟨e, e2⟩ | ⟨B, c, xs, e, hne, hnc, hm, hl, hh⟩
  ·subst e e2
   exact ⟨[], rfl, .inl ⟨hV, rfl, rfl⟩, fun _ _ e => by cases e⟩
  rcases hB with ⟨e', _⟩ | ⟨B', e'⟩
  ·rw [e'] at e; cases e
  rw [e'] at e
  obtain ⟨rfl, rfl⟩ := Prod.mk.inj (Option.some.inj e)
  subst e'
  refine ⟨xs, hl, .inr ⟨_, _, _, hV, (Array.getElem?_eq_some_iff.1 hh).1, hh, ?_⟩, fun B0 c0 e0 j hj => ?_⟩
  rotate_left
  ·obtain ⟨rfl, rfl⟩ := Prod.mk.inj (Option.some.inj e0)
   exact CS.cells (g := g) (co := co) hl hh j hj
  have hz5 : zc.size = 5 := rfl
  rw [hz5] at hl
  rw [Array.toList_append, List.take_append_of_le_length (by simp; omega), List.take_of_length_le (by simp; omega)]
 have hlen : (∃ ad, V = .slice ad n n) := by
  rcases hvx.2.1 with ⟨e, e2, _⟩ | ⟨B, _, _, e, _⟩
  ·exact ⟨none, by rw [e, e2]⟩
  exact ⟨_, e⟩
 obtain ⟨ad, rfl⟩ := hlen
 have H := Aside0.mk h
 have HX := Aside0.mk hvx
 clear h hvx hV hB
 have q0 : (0 : Int) ≤ n := by omega
 have q1 : (n : Int) < (n : Int) + 1 := by omega
 have qn : ¬ ((n : Int) < n) := by omega
 have hw2 : IntKind.i64.wrap (n : Int) = n := by rw [IntKind.wrap_i64]; omega
 obtain ⟨i0, hi, hz0, hz1, hz2⟩ := info_parts (P := Tryd.prog) (e := 86) (z := .agg zc) (size := 5) (bytes := 80) (by kernel_rfl)
 go_enter Tryd.func39, Tryd.ntmps39
 go_wp2
 go_quiet (fail)
 go_wp2_with (at_builtin; refine wpList_push rfl _ _ 48 86 rfl Tryd.underlying48 hi hz0 (Z := zc) rfl hz1 hz2 (.slice ad n n) n xs W.heap.size ?c1 rfl rfl ?c2 hn (by omega) ?_)
 case c1 =>
  rcases HX.out.2.1 with ⟨e, e2, e3⟩ | ⟨B, cur, fz, e, hlt, hh, ht⟩
  ·exact .inl ⟨e, e2, e3⟩
  exact .inr ⟨B, cur, fz, e, HX.out.1, (Below.heap_alloc _ _ B hlt).trans hh, ht⟩
 case c2 => exact zc_at _
 intro N c w1 hN hb1 hh1 hc1 hm1
 have hb : Below W.heap.size W w1 := (below_alloc (pw_below_drewN (Below.refl _ _) _) _).trans (hb1.mono (by simp))
 have hcw : w1.cell? ⟨g, co, none⟩ = some (.slice ad n n) := (World.cell?_of_block (hb.block g hglt)).trans hc
 have hfw : w1.frozen? ⟨g, co, none⟩ = false := (World.frozen?_of_block (hb.block g hglt)).trans hf
 have hN' : W.heap.size ≤ N := by have : W.heap.size ≤ N := Nat.le_trans (by simp) hN; exact this
 have HB := Aside0.mk hb
 have HH := Aside0.mk hh1
 clear hb hb1 hh1 hN
 go_wp2
 go_quiet (fail)
 go_wp2
 go_ret
 exact ⟨N, c, rfl, newV H.out HB.out (.inr hN') HX.out.1 HX.out.2.2 HH.out hc1 hm1 _⟩
theorem getV (g co n : Nat) (Bo : Option (Nat × Nat)) (W : World) (h : CS zc 86 W g co Bo n) (hn : n ≤ 1000000) :
  Calls Tryd.prog 39 #[.pointer (some ⟨g, co, none⟩)] W fun e W' => ∃ B c, e = .returned (.pointer (some ⟨B, n * 5, none⟩)) ∧ NewV zc 86 W W' g co Bo n B c := by
 rcases h.row with ⟨e, e2⟩ | ⟨B, c, xs, e, hne, hnc, hm, hl, hh⟩
 ·exact getV_full g co n Bo W h hn (.inl ⟨e, e2⟩)
 rcases Nat.lt_or_ge n c with q | q
 ·subst e
  exact (getV_room g co n B c W h q).mono fun e w' hq => ⟨B, c, hq.1, hq.2⟩
 have : n = c := by omega
 subst this
 exact getV_full g co n Bo W h hn (.inr ⟨B, e⟩)
set_option maxHeartbeats 1000000 in
set_option maxRecDepth 100000 in
theorem getK_room (g co n B c : Nat) (W : World) (h : CS zk 108 W g co (some (B, c)) n) (hn : n < c) :
  Calls Tryd.prog 94 #[.pointer (some ⟨g, co, none⟩)] W fun e W' => e = .returned (.pointer (some ⟨B, n * 2, none⟩)) ∧ NewV zk 108 W W' g co (some (B, c)) n B c := by
 have hc := h.at_
 have hf := h.soft
 simp only [cv] at hc
 have H := Aside0.mk h
 clear h
 have hle : ((n : Int) + 1).toNat = n + 1 := by omega
 have hcm : c ≤ maxLen := by
  rcases H.out.row with ⟨e, _⟩ | ⟨B', c', xs, e, _, _, hm, _⟩
  ·cases e
  obtain ⟨rfl, rfl⟩ := Prod.mk.inj (Option.some.inj e)
  exact hm
 have hw : IntKind.i64.wrap ((n : Int) + 1) = n + 1 := by rw [IntKind.wrap_i64]; simp only [maxLen] at hcm; omega
 have q0 : (0 : Int) ≤ n := by omega
 have q1 : (n : Int) < (n : Int) + 1 := by omega
 have hw2 : IntKind.i64.wrap (n : Int) = n := by rw [IntKind.wrap_i64]; simp only [maxLen] at hcm; omega
 go_enter Tryd.func94, Tryd.ntmps94
 go_wp2
 go_quiet (fail)
 go_wp2
 go_region
 go_wp2
 go_quiet (fail)
 go_wp2
 go_ret
 refine ⟨rfl, ?_⟩
 rcases H.out.row with ⟨e, _⟩ | ⟨B', c', xs, e, hne, hnc, hm, hl, hh⟩
 ·cases e
 obtain ⟨rfl, rfl⟩ := Prod.mk.inj (Option.some.inj e)
 refine newV (xs := xs) H.out (pw_below_drewN (Below.refl _ _) _) (.inl rfl) hl (fun B0 c0 e0 j hj => ?_) ?_ hn hm _
 ·obtain ⟨rfl, rfl⟩ := Prod.mk.inj (Option.some.inj e0)
  exact CS.cells (g := g) (co := co) hl hh j hj
 refine ((pw_below_drewN (Below.refl W.heap.size W) _).block _ (Array.getElem?_eq_some_iff.1 hh).1).trans ?_
 rw [hh, show c - n = (c - (n + 1)) + 1 by omega, zeroCells_succ]
 congr 2
 apply Array.ext'
 simp
theorem zk_at (w : World) (j : Nat) (u : Value) (h : zk.toList[j]? = some u) : (w.alloc (.cells zk 108)).cell? ((⟨w.heap.size, 0, none⟩ : Addr).add j) = some u := by
 rw [show ((⟨w.heap.size, 0, none⟩ : Addr).add j) = ⟨w.heap.size, j, none⟩ by unfold Addr.add; split <;> simp_all]
 have : (w.alloc (.cells zk 108)).cell? ⟨w.heap.size, j, none⟩ = zk.toList[j]? := by
  simp [World.cell?, World.alloc, -World.alloc_eq]
 rw [this, h]
set_option maxHeartbeats 1000000 in
set_option maxRecDepth 100000 in
theorem getK_full (g co n : Nat) (Bo : Option (Nat × Nat)) (W : World) (h : CS zk 108 W g co Bo n) (hn : n ≤ 1000000) (hB : (Bo = none ∧ n = 0) ∨ ∃ B, Bo = some (B, n)) :
  Calls Tryd.prog 94 #[.pointer (some ⟨g, co, none⟩)] W fun e W' => ∃ B c, e = .returned (.pointer (some ⟨B, n * 2, none⟩)) ∧ NewV zk 108 W W' g co Bo n B c := by
 have hf := h.soft
 have hglt := h.glt
 obtain ⟨V, hV, hc⟩ : ∃ V, V = cv Bo n ∧ W.cell? ⟨g, co, none⟩ = some V := ⟨_, rfl, h.at_⟩
 obtain ⟨xs, hvx⟩ : ∃ xs : List Value, xs.length = n * 2 ∧ ((V = .slice none 0 0 ∧ n = 0 ∧ xs = []) ∨ (∃ B cur fz, V = .slice (some ⟨B, 0, none⟩) n n ∧ B < W.heap.size ∧ W.heap[B]? = some (.cells cur 108 fz) ∧ cur.toList.take (n * 2) = xs)) ∧ (∀ B0 c0, Bo = some (B0, c0) → ∀ j, j < n * zk.size → W.cell? ⟨B0, j, none⟩ = xs[j]?) := by
  rcases h.row with ⟨e, e2⟩ | ⟨B, c, xs, e, hne, hnc, hm, hl, hh⟩
  ·subst e e2
   exact ⟨[], rfl, .inl ⟨hV, rfl, rfl⟩, fun _ _ e => by cases e⟩
  rcases hB with ⟨e', _⟩ | ⟨B', e'⟩
  ·rw [e'] at e; cases e
  rw [e'] at e
  obtain ⟨rfl, rfl⟩ := Prod.mk.inj (Option.some.inj e)
  subst e'
  refine ⟨xs, hl, .inr ⟨_, _, _, hV, (Array.getElem?_eq_some_iff.1 hh).1, hh, ?_⟩, fun B0 c0 e0 j hj => ?_⟩
  rotate_left
  ·obtain ⟨rfl, rfl⟩ := Prod.mk.inj (Option.some.inj e0)
   exact CS.cells (g := g) (co := co) hl hh j hj
  have hzz : zk.size = 2 := rfl
  rw [hzz] at hl
  rw [Array.toList_append, List.take_append_of_le_length (by simp; omega), List.take_of_length_le (by simp; omega)]
 have hlen : (∃ ad, V = .slice ad n n) := by
  rcases hvx.2.1 with ⟨e, e2, _⟩ | ⟨B, _, _, e, _⟩
  ·exact ⟨none, by rw [e, e2]⟩
  exact ⟨_, e⟩
 obtain ⟨ad, rfl⟩ := hlen
 have H := Aside0.mk h
 have HX := Aside0.mk hvx
 clear h hvx hV hB
 have q0 : (0 : Int) ≤ n := by omega
 have q1 : (n : Int) < (n : Int) + 1 := by omega
 have qn : ¬ ((n : Int) < n) := by omega
 have hw2 : IntKind.i64.wrap (n : Int) = n := by rw [IntKind.wrap_i64]; omega
 obtain ⟨i0, hi, hz0, hz1, hz2⟩ := info_parts (P := Tryd.prog) (e := 108) (z := .agg zk) (size := 2) (bytes := 24) (by kernel_rfl)
 go_enter Tryd.func94, Tryd.ntmps94
 go_wp2
 go_quiet (fail)
 go_wp2_with (at_builtin; refine wpList_push rfl _ _ 81 108 rfl Tryd.underlying81 hi hz0 (Z := zk) rfl hz1 hz2 (.slice ad n n) n xs W.heap.size ?c1 rfl rfl ?c2 hn (by omega) ?_)
 case c1 =>
  rcases HX.out.2.1 with ⟨e, e2, e3⟩ | ⟨B, cur, fz, e, hlt, hh, ht⟩
  ·exact .inl ⟨e, e2, e3⟩
  exact .inr ⟨B, cur, fz, e, HX.out.1, (Below.heap_alloc _ _ B hlt).trans hh, ht⟩
 case c2 => exact zk_at _
 intro N c w1 hN hb1 hh1 hc1 hm1
 have hb : Below W.heap.size W w1 := (below_alloc (pw_below_drewN (Below.refl _ _) _) _).trans (hb1.mono (by simp))
 have hcw : w1.cell? ⟨g, co, none⟩ = some (.slice ad n n) := (World.cell?_of_block (hb.block g hglt)).trans hc
 have hfw : w1.frozen? ⟨g, co, none⟩ = false := (World.frozen?_of_block (hb.block g hglt)).trans hf
 have hN' : W.heap.size ≤ N := by have : W.heap.size ≤ N := Nat.le_trans (by simp) hN; exact this
 have HB := Aside0.mk hb
 have HH := Aside0.mk hh1
 clear hb hb1 hh1 hN
 go_wp2
 go_quiet (fail)
 go_wp2
 go_ret
 exact ⟨N, c, rfl, newV H.out HB.out (.inr hN') HX.out.1 HX.out.2.2 HH.out hc1 hm1 _⟩
theorem getK (g co n : Nat) (Bo : Option (Nat × Nat)) (W : World) (h : CS zk 108 W g co Bo n) (hn : n ≤ 1000000) :
  Calls Tryd.prog 94 #[.pointer (some ⟨g, co, none⟩)] W fun e W' => ∃ B c, e = .returned (.pointer (some ⟨B, n * 2, none⟩)) ∧ NewV zk 108 W W' g co Bo n B c := by
 rcases h.row with ⟨e, e2⟩ | ⟨B, c, xs, e, hne, hnc, hm, hl, hh⟩
 ·exact getK_full g co n Bo W h hn (.inl ⟨e, e2⟩)
 rcases Nat.lt_or_ge n c with q | q
 ·subst e
  exact (getK_room g co n B c W h q).mono fun e w' hq => ⟨B, c, hq.1, hq.2⟩
 have : n = c := by omega
 subst this
 exact getK_full g co n Bo W h hn (.inr ⟨B, e⟩)
end Go.Proofs.YtnajijaachgipaaDoor.H
end
section
namespace Go.Proofs.YtnajijaachgipaaDoor.H
open Go.RowKit Go.Proofs.YtnajijaachgipaaDoorW.PrintWords Go.Proofs.YtnajijaachgipaaDoorW.PrintLast Go.Proofs.YtnajijaachgipaaDoorW.PrintMore
set_option linter.unusedVariables false
/-- From one state of the cache to another. -/
structure PS (W0 W : World) (g co : Nat) (Bo : Option (Nat × Nat)) (n : Nat) (B1 : Option (Nat × Nat)) (n1 : Nat) : Prop where
 ch : Ch W0 W (SK g co Bo (n * 5))
 cs : CS zc 86 W g co B1 n1
 lk : Lk W0 Bo (n * 5) B1 (n1 * 5)
/-- The places of what has been made on the way. -/
def Nw (W0 W : World) (g : Nat) (Bo : Option (Nat × Nat)) (n : Nat) (B1 : Option (Nat × Nat)) (n1 : Nat) (b o : Nat) : Prop := ¬ Old W0 g Bo (n * 5) b o ∧ Old W g B1 (n1 * 5) b o
section
variable {W W0 W1 W2 : World} {g co n n1 n2 b o : Nat} {Bo B1 B2 : Option (Nat × Nat)} {S : Nat → Nat → Prop}
theorem PS.refl (h : CS zc 86 W g co Bo n) : PS W W g co Bo n Bo n := ⟨Ch.refl _ _, h, Lk.refl _ _ _⟩
theorem PS.trans (h : PS W0 W1 g co Bo n B1 n1) (k : PS W1 W2 g co B1 n1 B2 n2) : PS W0 W2 g co Bo n B2 n2 :=
 ⟨h.ch.comp k.ch h.lk.sub, k.cs, h.lk.trans k.lk h.ch.size⟩
theorem PS.below (h : PS W0 W1 g co Bo n B1 n1) (hb : Below W1.heap.size W1 W2) : PS W0 W2 g co Bo n B1 n1 :=
 ⟨h.ch.comp (Ch.of_below hb (fun _ _ => False)) (fun _ _ _ h => h.elim), h.cs.ch (Ch.of_below hb (fun _ _ => False)) id (fun _ _ _ _ _ => id), h.lk⟩
theorem PS.new {B c : Nat} (h : PS W0 W1 g co Bo n B1 n1) (k : NewV zc 86 W1 W2 g co B1 n1 B c) : PS W0 W2 g co Bo n (some (B, c)) (n1 + 1) :=
 h.trans ⟨k.ch, k.st, k.lk⟩
theorem PS.write {cur : Array Value} {ty : TypeId} (h : PS W0 W1 g co Bo n B1 n1) (hn : ¬ Old W0 g Bo (n * 5) b o) (ho : Old W1 g B1 (n1 * 5) b o) (hc : W1.heap[b]? = some (.cells cur ty (0, 0))) (v : Value) :
  PS W0 (W1.setCell ⟨b, o, none⟩ v) g co Bo n B1 n1 := by
 refine ⟨h.ch.comp (Ch.set hc v) ?_, h.cs.ch (Ch.set hc v) ?_ ?_, h.lk⟩
 ·rintro k p hk ⟨rfl, rfl⟩
  exact .inr (not_old hk ho.2.1 hn)
 ·rintro ⟨e, _⟩
  exact ho.2.1 e.symm
 rintro B c e p hp ⟨rfl, rfl⟩
 have := ho.2.2 c e
 have hz : zc.size = 5 := rfl
 rw [hz] at hp
 omega
theorem CS.same {Z : Array Value} {E : TypeId} (h : CS Z E W g co Bo n) (hg : W1.heap[g]? = W.heap[g]?) (hB : ∀ B c, Bo = some (B, c) → W1.heap[B]? = W.heap[B]?) : CS Z E W1 g co Bo n := by
 obtain ⟨⟨arr, ty, e, hv⟩, hr⟩ := h
 refine ⟨⟨arr, ty, hg.trans e, hv⟩, ?_⟩
 rcases hr with hn | ⟨B, c, xs, eB, hne, hnc, hcm, hl, hh⟩
 ·exact .inl hn
 exact .inr ⟨B, c, xs, eB, hne, hnc, hcm, hl, (hB B c eB).trans hh⟩
theorem PS.grown {row : Option Nat} (h : PS W0 W1 g co Bo n B1 n1) (hg : W1.grownBy W2 row) (hr : ∀ r, row = some r → W0.heap.size ≤ r ∧ r ≠ g ∧ ∀ c, B1 ≠ some (r, c)) : PS W0 W2 g co Bo n B1 n1 := by
 refine ⟨h.ch.grown hg (fun r e => (hr r e).1), h.cs.same (hg.block g h.cs.glt ?_) (fun B c e => hg.block B (h.cs.blt e) ?_), h.lk⟩
 ·intro e
  exact (hr g e.symm).2.1 rfl
 intro e'
 exact (hr B e'.symm).2.2 c e
/-- A place of a Value that has just been made. -/
theorem NewV.old {B c j : Nat} (h : NewV zc 86 W W1 g co Bo n B c) (hj : j < 5) : ¬ Old W g Bo (n * 5) B (n * 5 + j) ∧ Old W1 g (some (B, c)) ((n + 1) * 5) B (n * 5 + j) := by
 refine ⟨fun ho => ?_, h.st.blt rfl, h.st.ne rfl, fun c' e => by omega⟩
 rcases h.lk.2 B c rfl with ⟨c', e⟩ | hle
 ·have := ho.2.2 c' e; omega
 have := ho.1; omega
theorem NewV.form {B c : Nat} (h : NewV zc 86 W W1 g co Bo n B c) : ∃ cur, W1.heap[B]? = some (.cells cur 86 (0, 0)) ∧ ∀ j, j < 5 → n * 5 + j < cur.size := by
 rcases h.st.row with ⟨e, _⟩ | ⟨B', c', xs, e, _, hnc, _, hl, hh⟩
 ·cases e
 obtain ⟨rfl, rfl⟩ := Prod.mk.inj (Option.some.inj e)
 have hz : zc.size = 5 := rfl
 rw [hz] at hl
 exact ⟨_, hh, fun j hj => by rw [Array.size_append, List.size_toArray, hl]; omega⟩
theorem cell_setCell {cur : Array Value} {ty : TypeId} (hc : W.heap[b]? = some (.cells cur ty (0, 0))) (v : Value) (k p : Nat) : (W.setCell ⟨b, o, none⟩ v).cell? ⟨k, p, none⟩ = if k = b ∧ p = o ∧ o < cur.size then some v else W.cell? ⟨k, p, none⟩ := by
 by_cases hk : k < W.heap.size
 ·by_cases e : k = b ∧ p = o
  ·obtain ⟨rfl, rfl⟩ := e
   rw [setCell_eq_setRow W k p cur ty (0, 0) v hc, cell_of_row _ k p _ ty (0, 0) (setRow_heap W k cur _ ty (0, 0) hc), cell_of_row _ k p _ ty (0, 0) hc]
   by_cases q : p < cur.size
   ·rw [if_pos ⟨rfl, rfl, q⟩]; simp [q]
   rw [if_neg (fun h => q h.2.2)]; simp [q]
  rw [if_neg (fun h => e ⟨h.1, h.2.1⟩)]
  exact (Ch.set hc v).cell k p hk e
 have hb : b < W.heap.size := (Array.getElem?_eq_some_iff.1 hc).1
 rw [if_neg (fun h => by omega)]
 refine World.cell?_of_block ?_
 show (W.setCell ⟨b, o, none⟩ v).heap[k]? = W.heap[k]?
 rw [setCell_eq_setRow W b o cur ty (0, 0) v hc]
 exact setRow_other _ _ _ _ (by omega)
/-- A Value of the cache is given its text and its kind. -/
theorem leaf_done {B c m : Nat} {k : Int} {s : ByteArray} (h0 : PS W0 W g co Bo n B1 n1) (h : NewV zc 86 W W1 g co B1 n1 B c) (h1 : k ≠ 1) (h2 : k ≠ 2) :
  PS W0 (((W1.setCell ⟨B, n1 * 5 + 4, none⟩ (.int .i64 k)).setCell ⟨B, n1 * 5 + 3, none⟩ (.string s)).drewN m) g co Bo n (some (B, c)) (n1 + 1) ∧
  Lies (((W1.setCell ⟨B, n1 * 5 + 4, none⟩ (.int .i64 k)).setCell ⟨B, n1 * 5 + 3, none⟩ (.string s)).drewN m) (Nw W0 (((W1.setCell ⟨B, n1 * 5 + 4, none⟩ (.int .i64 k)).setCell ⟨B, n1 * 5 + 3, none⟩ (.string s)).drewN m) g Bo n (some (B, c)) (n1 + 1)) B (n1 * 5) (.mk k s [] []) := by
 obtain ⟨cur, hc, hcs⟩ := h.form
 have a0 := h0.new h
 have no : ∀ j, j < 5 → ¬ Old W0 g Bo (n * 5) B (n1 * 5 + j) := fun j hj ho => (h.old hj).1 (ho.step h0.lk h0.ch.size)
 have a1 := a0.write (no 4 (by omega)) (h.old (by omega)).2 hc (.int .i64 k)
 obtain ⟨cur2, hc2, hs2⟩ := (Ch.set (o := n1 * 5 + 4) hc (.int .i64 k)).form B (h.st.blt rfl) cur _ hc
 have a2 := a1.write (no 3 (by omega)) ((h.old (j := 3) (by omega)).2.step (Lk.refl _ _ _) (Ch.set hc _).size) hc2 (.string s)
 have hbX : ∀ X : World, Below X.heap.size X (X.drewN m) := fun X => pw_below_drewN (Below.refl _ _) m
 have hb := hbX ((W1.setCell ⟨B, n1 * 5 + 4, none⟩ (.int .i64 k)).setCell ⟨B, n1 * 5 + 3, none⟩ (.string s))
 have a3 := a2.below hb
 have hBl : B < ((W1.setCell ⟨B, n1 * 5 + 4, none⟩ (.int .i64 k)).setCell ⟨B, n1 * 5 + 3, none⟩ (.string s)).heap.size := (a2.cs.blt rfl)
 have hold : ∀ j, j < 5 → Old (((W1.setCell ⟨B, n1 * 5 + 4, none⟩ (.int .i64 k)).setCell ⟨B, n1 * 5 + 3, none⟩ (.string s)).drewN m) g (some (B, c)) ((n1 + 1) * 5) B (n1 * 5 + j) := fun j hj => ⟨Nat.lt_of_lt_of_le hBl hb.size, a3.cs.ne rfl, fun _ _ => by omega⟩
 refine ⟨a3, .leaf h1 h2 ?_ ⟨no 3 (by omega), hold 3 (by omega)⟩ ?_ ⟨no 4 (by omega), hold 4 (by omega)⟩⟩
 ·rw [World.cell?_of_block (hb.block B hBl), cell_setCell hc2, if_pos ⟨rfl, rfl, by rw [hs2]; exact hcs 3 (by omega)⟩]
 rw [World.cell?_of_block (hb.block B hBl), cell_setCell hc2, if_neg (by omega), cell_setCell hc, if_pos ⟨rfl, rfl, hcs 4 (by omega)⟩]
end
end Go.Proofs.YtnajijaachgipaaDoor.H
end
section
namespace Go.Proofs.YtnajijaachgipaaDoor.PR
open Go.RowKit Go.Proofs.YtnajijaachgipaaDoorW.PrintWords Go.Proofs.YtnajijaachgipaaDoorW.PrintLast Go.Proofs.YtnajijaachgipaaDoorW.PrintMore Go.Proofs.YtnajijaachgipaaDoor.H
set_option linter.unusedVariables false
set_option linter.unusedSimpArgs false
namespace FJ
def sk (k : Nat) (s : ByteArray) : Option ByteArray := (fastjson_skipWS.f k s).bind fun t => if t.size ≤ s.size then some t else none
def rs (k : Nat) (s : ByteArray) : Option (ByteArray × ByteArray × Option Int) := (fastjson_parseRawString.f k s).bind fun r => if r.2.1.size ≤ s.size then some r else none
def rk (k : Nat) (s : ByteArray) : Option (ByteArray × ByteArray × Option Int) := (fastjson_parseRawKey.f k s).bind fun r => if r.2.1.size ≤ s.size then some r else none
def rn (k : Nat) (s : ByteArray) : Option (ByteArray × ByteArray × Option Int) := (fastjson_parseRawNumber.f k s).bind fun r => if r.2.2.isSome = true ∨ r.2.1.size < s.size then some r else none
def rest (s : ByteArray) (n : Nat) : ByteArray := s.extract n s.size
def lit (k : Int) (s : ByteArray) : FT := .mk k s [] []
abbrev Res := Option (FT × ByteArray)
def word (s : ByteArray) (w : List UInt8) (k : Int) (no : Option Res) : Option Res := if (s.size : Int) < w.length then no else if (s.extract 0 w.length).toList = w then some (some (lit k ByteArray.empty, rest s w.length)) else no
def leaf (k : Int) (r : ByteArray × ByteArray × Option Int) : Res := if r.2.2.isSome = true then none else some (lit k r.1, r.2.1)
mutual
def pV : Nat → ByteArray → Int → Option Res
 | 0, _, _ => none
 | k + 1, s, d =>
  if s.size = 0 then some none else if 300 < d + 1 then some none else
  if bt s 0 = 123 then pO k (rest s 1) (d + 1) else
  if bt s 0 = 91 then pA k (rest s 1) (d + 1) else
  if bt s 0 = 34 then (rs k (rest s 1)).bind fun r => some (leaf 7 r) else
  if bt s 0 = 116 then word s [116, 114, 117, 101] 5 (some none) else
  if bt s 0 = 102 then word s [102, 97, 108, 115, 101] 6 (some none) else
  if bt s 0 = 110 then word s [110, 117, 108, 108] 0 (if 3 ≤ s.size then (fastjson_zzFold.f k (s.extract 0 3) ⟨#[110, 97, 110]⟩).bind fun b => some (if b = true then some (lit 4 (s.extract 0 3), rest s 3) else none) else some none) else
  (rn k s).bind fun r => some (leaf 4 r)
def pA : Nat → ByteArray → Int → Option Res
 | 0, _, _ => none
 | k + 1, s, d => (sk k s).bind fun s => if s.size = 0 then some none else if bt s 0 = 93 then some (some (.mk 2 ByteArray.empty [] [], rest s 1)) else pAl k s d []
def pAl : Nat → ByteArray → Int → List FT → Option Res
 | 0, _, _, _ => none
 | k + 1, s, d, ts => (sk k s).bind fun s => (pV k s d).bind fun r => match r with
  | none => some none
  | some x => (sk k x.2).bind fun s => if s.size = 0 then some none else if bt s 0 = 44 then pAl k (rest s 1) d (ts ++ [x.1]) else if bt s 0 = 93 then some (some (.mk 2 ByteArray.empty [] (ts ++ [x.1]), rest s 1)) else some none
def pO : Nat → ByteArray → Int → Option Res
 | 0, _, _ => none
 | k + 1, s, d => (sk k s).bind fun s => if s.size = 0 then some none else if bt s 0 = 125 then some (some (.mk 1 ByteArray.empty [] [], rest s 1)) else pOl k s d [] []
def pOl : Nat → ByteArray → Int → List ByteArray → List FT → Option Res
 | 0, _, _, _, _ => none
 | k + 1, s, d, ks, ts => (sk k s).bind fun s => if s.size = 0 then some none else if bt s 0 = 34 then (rk k (rest s 1)).bind fun r => if r.2.2.isSome = true then some none else
   (sk k r.2.1).bind fun s => if s.size = 0 then some none else if bt s 0 = 58 then (sk k (rest s 1)).bind fun s => (pV k s d).bind fun q => match q with
    | none => some none
    | some x => (sk k x.2).bind fun s => if s.size = 0 then some none else if bt s 0 = 44 then pOl k (rest s 1) d (ks ++ [r.1]) (ts ++ [x.1]) else if bt s 0 = 125 then some (some (.mk 1 ByteArray.empty (ks ++ [r.1]) (ts ++ [x.1]), rest s 1)) else some none
   else some none else some none
end
/-- What a call leaves. -/
def Post (W : World) (g co : Nat) (Bo : Option (Nat × Nat)) (n m : Nat) : Res → Ending → World → Prop
 | none, e, W' => ∃ (t : ByteArray) (et : Nat) (ep : Value), e = .returned (.tuple #[.pointer none, .string t, .iface et ep]) ∧ Ch W W' (SK g co Bo (n * 5))
 | some x, e, W' => ∃ (b o : Nat) (B' : Option (Nat × Nat)) (n' : Nat), e = .returned (.tuple #[.pointer (some ⟨b, o, none⟩), .string x.2, .nilIface]) ∧ PS W W' g co Bo n B' n' ∧ n' + x.2.size ≤ m ∧ Lies W' (Nw W W' g Bo n B' n') b o x.1
def VC (k : Nat) : Prop := ∀ (s : ByteArray) (d : Int) (r : Res), pV k s d = some r → 0 ≤ d → d ≤ 300 → ∀ (W : World) (g co : Nat) (Bo : Option (Nat × Nat)) (n : Nat), CS zc 86 W g co Bo n → n + s.size ≤ 200000 →
 Calls Tryd.prog 49 #[.pointer (some ⟨g, co, none⟩), .string s, .int .i64 d] W (Post W g co Bo n (n + s.size) r)
def AC (k : Nat) : Prop := ∀ (s : ByteArray) (d : Int) (r : Res), pA k s d = some r → 1 ≤ d → d ≤ 300 → ∀ (W : World) (g co : Nat) (Bo : Option (Nat × Nat)) (n : Nat), CS zc 86 W g co Bo n → n + s.size + 1 ≤ 200000 →
 Calls Tryd.prog 72 #[.pointer (some ⟨g, co, none⟩), .string s, .int .i64 d] W (Post W g co Bo n (n + s.size + 1) r)
def OC (k : Nat) : Prop := ∀ (s : ByteArray) (d : Int) (r : Res), pO k s d = some r → 1 ≤ d → d ≤ 300 → ∀ (W : World) (g co : Nat) (Bo : Option (Nat × Nat)) (n : Nat), CS zc 86 W g co Bo n → n + s.size + 1 ≤ 200000 →
 Calls Tryd.prog 71 #[.pointer (some ⟨g, co, none⟩), .string s, .int .i64 d] W (Post W g co Bo n (n + s.size + 1) r)
theorem errNew (a : ByteArray) (w : World) : Calls Tryd.prog 41 #[.string a] w fun e w' => ∃ (et : Nat) (ep : Value), e = .returned (.iface et ep) ∧ Below w.heap.size w w' :=
 (errors_New.calls a (some 0) w rfl).mono fun _ _ h => h
theorem nul {s : ByteArray} (h : s.size ≠ 0) : ((s.size : Int) == 0) = false ∧ 1 ≤ (s.size : Int) ∧ ((0 < s.size) = True) ∧ ((0 < (s.size : Int)) = True) ∧ (∀ h : 0 < s.size, ((s[0]'h).toNat : Int) = bt s 0) :=
 ⟨beq_eq_false_iff_ne.2 (by omega), by omega, eq_true (by omega), eq_true (by omega), bt_at s 0⟩
theorem size_rest (s : ByteArray) (n : Nat) : (rest s n).size = s.size - n := by simp [rest]
theorem Post.err {W W' : World} {g co n m : Nat} {Bo : Option (Nat × Nat)} {t : ByteArray} {ep : Value} {et : Nat} (h : Ch W W' (SK g co Bo (n * 5))) : Post W g co Bo n m none (.returned (.tuple #[.pointer none, .string t, .iface et ep])) W' := ⟨t, et, ep, rfl, h⟩
set_option maxHeartbeats 2000000 in
set_option maxRecDepth 100000 in
theorem val_empty (s : ByteArray) (d : Int) (h : s.size = 0) (W : World) (g co : Nat) (Bo : Option (Nat × Nat)) (n m : Nat) :
  Calls Tryd.prog 49 #[.pointer (some ⟨g, co, none⟩), .string s, .int .i64 d] W (Post W g co Bo n m none) := by
 have e0 : ((s.size : Int) == 0) = true := beq_iff_eq.2 (by omega)
 go_enter Tryd.func49, Tryd.ntmps49
 go_wp2_with (go_at_call 41; refine (errNew _ _).mono ?_; rintro e w1 ⟨et, ep, rfl, hb⟩)
 go_ret3
 exact Post.err (Ch.of_below hb _)
set_option maxHeartbeats 2000000 in
set_option maxRecDepth 100000 in
theorem val_deep (s : ByteArray) (d : Int) (h : s.size ≠ 0) (hd : d = 300) (W : World) (g co : Nat) (Bo : Option (Nat × Nat)) (n m : Nat) :
  Calls Tryd.prog 49 #[.pointer (some ⟨g, co, none⟩), .string s, .int .i64 d] W (Post W g co Bo n m none) := by
 subst hd
 obtain ⟨e0, e1, e2, e3, e4⟩ := nul h
 go_enter Tryd.func49, Tryd.ntmps49
 go_wp2_with (go_at_call 41; refine (errNew _ _).mono ?_; rintro e w1 ⟨et, ep, rfl, hb⟩)
 go_ret3
 exact Post.err (Ch.of_below hb _)
theorem cutr (s : ByteArray) (i : Int) (n : Nat) (hi : i = n) (hn : n ≤ s.size) (W : World) : (Instr.slice 9 (.string s) (some (.int .i64 i)) none none).run Tryd.prog W = .ok (.string (rest s n)) W := by
 have := run_slice_string_l (P := Tryd.prog) W 9 s Tryd.underlying9 .i64 i (by omega) (by omega)
 rw [this, hi, Int.toNat_natCast]; rfl
theorem cuth (s : ByteArray) (i : Int) (n : Nat) (hi : i = n) (hn : n ≤ s.size) (W : World) : (Instr.slice 9 (.string s) none (some (.int .i64 i)) none).run Tryd.prog W = .ok (.string (s.extract 0 n)) W := by
 have := run_slice_string_h (P := Tryd.prog) W 9 s Tryd.underlying9 .i64 i (by omega) (by omega)
 rw [this, hi, Int.toNat_natCast]
theorem raw_ok {k : Nat} {s a b : ByteArray} (h : rs k s = some (a, b, none)) (w : World) : Calls Tryd.prog 73 #[.string s] w fun e w' => e = .returned (.tuple #[.string a, .string b, .nilIface]) ∧ Below w.heap.size w w' := by
 obtain ⟨q, hq, hx⟩ := Option.bind_eq_some_iff.mp h
 split at hx
 ·obtain rfl := Option.some.inj hx
  exact (fastjson_parseRawString.calls k s a b none w hq).mono fun e w' ⟨_, _, he, hb⟩ => ⟨he, hb⟩
 cases hx
theorem raw_err {k : Nat} {s a b : ByteArray} {x : Int} (h : rs k s = some (a, b, some x)) (w : World) : Calls Tryd.prog 73 #[.string s] w fun e w' => ∃ (et : Nat) (ep : Value), e = .returned (.tuple #[.string a, .string b, .iface et ep]) ∧ Below w.heap.size w w' := by
 obtain ⟨q, hq, hx⟩ := Option.bind_eq_some_iff.mp h
 split at hx
 ·obtain rfl := Option.some.inj hx
  exact (fastjson_parseRawString.calls k s a b (some x) w hq).mono fun e w' ⟨et, ep, he, hb⟩ => ⟨et, ep, he, hb⟩
 cases hx
theorem num_ok {k : Nat} {s a b : ByteArray} (h : rn k s = some (a, b, none)) (w : World) : Calls Tryd.prog 75 #[.string s] w fun e w' => e = .returned (.tuple #[.string a, .string b, .nilIface]) ∧ Below w.heap.size w w' := by
 obtain ⟨q, hq, hx⟩ := Option.bind_eq_some_iff.mp h
 split at hx
 ·obtain rfl := Option.some.inj hx
  exact (fastjson_parseRawNumber.calls k s a b none w hq).mono fun e w' ⟨_, _, he, hb⟩ => ⟨he, hb⟩
 cases hx
theorem num_err {k : Nat} {s a b : ByteArray} {x : Int} (h : rn k s = some (a, b, some x)) (w : World) : Calls Tryd.prog 75 #[.string s] w fun e w' => ∃ (et : Nat) (ep : Value), e = .returned (.tuple #[.string a, .string b, .iface et ep]) ∧ Below w.heap.size w w' := by
 obtain ⟨q, hq, hx⟩ := Option.bind_eq_some_iff.mp h
 split at hx
 ·obtain rfl := Option.some.inj hx
  exact (fastjson_parseRawNumber.calls k s a b (some x) w hq).mono fun e w' ⟨et, ep, he, hb⟩ => ⟨et, ep, he, hb⟩
 cases hx
theorem newv_at {W W1 : World} {g co n B c : Nat} {Bo : Option (Nat × Nat)} (h : NewV zc 86 W W1 g co Bo n B c) : W1.cell? ⟨B, n * 5 + 4, none⟩ = some (.int .i64 0) ∧ W1.frozen? ⟨B, n * 5 + 4, none⟩ = false ∧ W1.cell? ⟨B, n * 5 + 3, none⟩ = some (.string ByteArray.empty) ∧ W1.frozen? ⟨B, n * 5 + 3, none⟩ = false ∧ B < W1.heap.size := by
 obtain ⟨cur, hc, _⟩ := h.form
 exact ⟨h.zero 4 _ rfl, by simp [World.frozen?, hc], h.zero 3 _ rfl, by simp [World.frozen?, hc], h.st.blt rfl⟩
set_option maxHeartbeats 2000000 in
set_option maxRecDepth 100000 in
theorem val_str_ok (k : Nat) (s a b : ByteArray) (d : Int) (h : s.size ≠ 0) (h0 : 0 ≤ d) (hd : d < 300) (hc : bt s 0 = 34) (hr : rs k (rest s 1) = some (a, b, none)) (W : World) (g co : Nat) (Bo : Option (Nat × Nat)) (n : Nat) (hC : CS zc 86 W g co Bo n) (hn : n ≤ 200000) :
  Calls Tryd.prog 49 #[.pointer (some ⟨g, co, none⟩), .string s, .int .i64 d] W fun e W' => ∃ (B c : Nat), e = .returned (.tuple #[.pointer (some ⟨B, n * 5, none⟩), .string b, .nilIface]) ∧ PS W W' g co Bo n (some (B, c)) (n + 1) ∧ Lies W' (Nw W W' g Bo n (some (B, c)) (n + 1)) B (n * 5) (lit 7 a) := by
 obtain ⟨e0, e1, e2, e3, e4⟩ := nul h
 have k1 : (bt s 0 == 123) = false := beq_eq_false_iff_ne.2 (by omega)
 have k2 : (bt s 0 == 91) = false := beq_eq_false_iff_ne.2 (by omega)
 have k3 : (bt s 0 == 34) = true := beq_iff_eq.2 hc
 have hw : IntKind.i64.wrap (d + 1) = d + 1 := by rw [IntKind.wrap_i64]; omega
 have hd1 : decide (300 < d + 1) = false := decide_eq_false (by omega)
 have hcs := cutr s 1 1 rfl (by omega)
 have HR := Aside0.mk hr
 have HC := Aside0.mk hC
 have HN : Aside0 (n ≤ 1000000) := ⟨by omega⟩
 clear hr hC hc
 obtain ⟨q, hq⟩ : ∃ q, q = n * 5 := ⟨_, rfl⟩
 have HQ := Aside0.mk hq
 rw [← hq]
 clear hq hn hd h0
 go_enter Tryd.func49, Tryd.ntmps49
 go_wp2_with (first
  | (go_at_call 73; refine (raw_ok HR.out _).mono ?_; rintro e w1 ⟨rfl, hb⟩; have HP := Aside0.mk ((PS.refl HC.out).below hb); clear hb)
  | (go_at_call 39; refine (getV g co n Bo _ HP.out.cs HN.out).mono ?_; rintro e w2 ⟨B, c, rfl, hv⟩; have HV := Aside0.mk hv; obtain ⟨c4, f4, c3, f3, hlt⟩ := newv_at hv; clear hv; rw [← HQ.out] at c4 f4 c3 f3 ⊢))
 go_ret3
 have hd3 := leaf_done (m := 0) (k := 7) (s := a) HP.out HV.out (by decide) (by decide)
 rw [← HQ.out] at hd3
 exact ⟨B, c, rfl, hd3⟩
set_option maxHeartbeats 2000000 in
set_option maxRecDepth 100000 in
theorem val_num_ok (k : Nat) (s a b : ByteArray) (d : Int) (h : s.size ≠ 0) (h0 : 0 ≤ d) (hd : d < 300) (hc : ¬ (bt s 0 = 123 ∨ bt s 0 = 91 ∨ bt s 0 = 34 ∨ bt s 0 = 116 ∨ bt s 0 = 102 ∨ bt s 0 = 110)) (hr : rn k s = some (a, b, none)) (W : World) (g co : Nat) (Bo : Option (Nat × Nat)) (n : Nat) (hC : CS zc 86 W g co Bo n) (hn : n ≤ 200000) :
  Calls Tryd.prog 49 #[.pointer (some ⟨g, co, none⟩), .string s, .int .i64 d] W fun e W' => ∃ (B c : Nat), e = .returned (.tuple #[.pointer (some ⟨B, n * 5, none⟩), .string b, .nilIface]) ∧ PS W W' g co Bo n (some (B, c)) (n + 1) ∧ Lies W' (Nw W W' g Bo n (some (B, c)) (n + 1)) B (n * 5) (lit 4 a) := by
 obtain ⟨e0, e1, e2, e3, e4⟩ := nul h
 have k1 : (bt s 0 == 123) = false := beq_eq_false_iff_ne.2 (by omega)
 have k2 : (bt s 0 == 91) = false := beq_eq_false_iff_ne.2 (by omega)
 have k3 : (bt s 0 == 34) = false := beq_eq_false_iff_ne.2 (by omega)
 have k4 : (bt s 0 == 116) = false := beq_eq_false_iff_ne.2 (by omega)
 have k5 : (bt s 0 == 102) = false := beq_eq_false_iff_ne.2 (by omega)
 have k6 : (bt s 0 == 110) = false := beq_eq_false_iff_ne.2 (by omega)
 have hw : IntKind.i64.wrap (d + 1) = d + 1 := by rw [IntKind.wrap_i64]; omega
 have hd1 : decide (300 < d + 1) = false := decide_eq_false (by omega)
 have HR := Aside0.mk hr
 have HC := Aside0.mk hC
 have HN : Aside0 (n ≤ 1000000) := ⟨by omega⟩
 clear hr hC hc
 obtain ⟨q, hq⟩ : ∃ q, q = n * 5 := ⟨_, rfl⟩
 have HQ := Aside0.mk hq
 rw [← hq]
 clear hq hn hd h0
 go_enter Tryd.func49, Tryd.ntmps49
 go_wp2_with (first
  | (go_at_call 75; refine (num_ok HR.out _).mono ?_; rintro e w1 ⟨rfl, hb⟩; have HP := Aside0.mk ((PS.refl HC.out).below hb); clear hb)
  | (go_at_call 39; refine (getV g co n Bo _ HP.out.cs HN.out).mono ?_; rintro e w2 ⟨B, c, rfl, hv⟩; have HV := Aside0.mk hv; obtain ⟨c4, f4, c3, f3, hlt⟩ := newv_at hv; clear hv; rw [← HQ.out] at c4 f4 c3 f3 ⊢))
 go_ret3
 have hd3 := leaf_done (m := 0) (k := 4) (s := a) HP.out HV.out (by decide) (by decide)
 rw [← HQ.out] at hd3
 exact ⟨B, c, rfl, hd3⟩
set_option maxHeartbeats 2000000 in
set_option maxRecDepth 100000 in
theorem val_str_err (k : Nat) (s a b : ByteArray) (x d : Int) (h : s.size ≠ 0) (h0 : 0 ≤ d) (hd : d < 300) (hc : bt s 0 = 34) (hr : rs k (rest s 1) = some (a, b, some x)) (W : World) (g co : Nat) (Bo : Option (Nat × Nat)) (n : Nat) (m : Nat) :
  Calls Tryd.prog 49 #[.pointer (some ⟨g, co, none⟩), .string s, .int .i64 d] W (Post W g co Bo n m none) := by
 obtain ⟨e0, e1, e2, e3, e4⟩ := nul h
 have k1 : (bt s 0 == 123) = false := beq_eq_false_iff_ne.2 (by omega)
 have k2 : (bt s 0 == 91) = false := beq_eq_false_iff_ne.2 (by omega)
 have k3 : (bt s 0 == 34) = true := beq_iff_eq.2 hc
 have hw : IntKind.i64.wrap (d + 1) = d + 1 := by rw [IntKind.wrap_i64]; omega
 have hd1 : decide (300 < d + 1) = false := decide_eq_false (by omega)
 have hcs := cutr s 1 1 rfl (by omega)
 have HR := Aside0.mk hr
 clear hr hc hd h0
 go_enter Tryd.func49, Tryd.ntmps49
 go_wp2_with (first
  | (go_at_call 73; refine (raw_err HR.out _).mono ?_; rintro e w1 ⟨et, ep, rfl, hb⟩; have HB := Aside0.mk hb; clear hb)
  | (go_at_call 41; refine (errNew _ _).mono ?_; rintro e w2 ⟨et2, ep2, rfl, hb2⟩))
 go_ret3
 exact Post.err (Ch.of_below (HB.out.trans (hb2.mono HB.out.size)) _)
set_option maxHeartbeats 2000000 in
set_option maxRecDepth 100000 in
theorem val_num_err (k : Nat) (s a b : ByteArray) (x d : Int) (h : s.size ≠ 0) (h0 : 0 ≤ d) (hd : d < 300) (hc : ¬ (bt s 0 = 123 ∨ bt s 0 = 91 ∨ bt s 0 = 34 ∨ bt s 0 = 116 ∨ bt s 0 = 102 ∨ bt s 0 = 110)) (hr : rn k s = some (a, b, some x)) (W : World) (g co : Nat) (Bo : Option (Nat × Nat)) (n : Nat) (m : Nat) :
  Calls Tryd.prog 49 #[.pointer (some ⟨g, co, none⟩), .string s, .int .i64 d] W (Post W g co Bo n m none) := by
 obtain ⟨e0, e1, e2, e3, e4⟩ := nul h
 have k1 : (bt s 0 == 123) = false := beq_eq_false_iff_ne.2 (by omega)
 have k2 : (bt s 0 == 91) = false := beq_eq_false_iff_ne.2 (by omega)
 have k3 : (bt s 0 == 34) = false := beq_eq_false_iff_ne.2 (by omega)
 have k4 : (bt s 0 == 116) = false := beq_eq_false_iff_ne.2 (by omega)
 have k5 : (bt s 0 == 102) = false := beq_eq_false_iff_ne.2 (by omega)
 have k6 : (bt s 0 == 110) = false := beq_eq_false_iff_ne.2 (by omega)
 have hw : IntKind.i64.wrap (d + 1) = d + 1 := by rw [IntKind.wrap_i64]; omega
 have hd1 : decide (300 < d + 1) = false := decide_eq_false (by omega)
 have HR := Aside0.mk hr
 clear hr hc hd h0
 go_enter Tryd.func49, Tryd.ntmps49
 go_wp2_with (first
  | (go_at_call 75; refine (num_err HR.out _).mono ?_; rintro e w1 ⟨et, ep, rfl, hb⟩; have HB := Aside0.mk hb; clear hb)
  | (go_at_call 41; refine (errNew _ _).mono ?_; rintro e w2 ⟨et2, ep2, rfl, hb2⟩))
 go_ret3
 exact Post.err (Ch.of_below (HB.out.trans (hb2.mono HB.out.size)) _)
/-- A Value of its own block. -/
theorem boxed {W W1 : World} {g co n N : Nat} {Bo : Option (Nat × Nat)} {k : Int} (hC : CS zc 86 W g co Bo n) (hb : Below W.heap.size W W1) (hN : W.heap.size ≤ N) (hh : W1.heap[N]? = some (.cells #[.slice none 0 0, .bool false, .slice none 0 0, .string ByteArray.empty, .int .i64 k] 86 (0, 0))) (h1 : k ≠ 1) (h2 : k ≠ 2) :
  PS W W1 g co Bo n Bo n ∧ Lies W1 (Nw W W1 g Bo n Bo n) N 0 (lit k ByteArray.empty) := by
 have hlt : N < W1.heap.size := (Array.getElem?_eq_some_iff.1 hh).1
 have hg := hC.glt
 have hnw : ∀ j, Nw W W1 g Bo n Bo n N j := fun j => ⟨fun ho => by have := ho.1; omega, hlt, by omega, fun c e => by have := hC.blt e; omega⟩
 refine ⟨(PS.refl hC).below hb, .leaf h1 h2 ?_ (hnw _) ?_ (hnw _)⟩
 ·rw [cell_of_row W1 N _ _ _ (0, 0) hh]; rfl
 rw [cell_of_row W1 N _ _ _ (0, 0) hh]; rfl
set_option maxHeartbeats 2000000 in
set_option maxRecDepth 100000 in
theorem val_true_ok (s : ByteArray) (d : Int) (h : s.size ≠ 0) (h0 : 0 ≤ d) (hd : d < 300) (hc : bt s 0 = 116) (h4 : 4 ≤ s.size) (hq : (s.extract 0 4).toList = [116, 114, 117, 101]) (W : World) (g co : Nat) (Bo : Option (Nat × Nat)) (n : Nat) (hC : CS zc 86 W g co Bo n) :
  Calls Tryd.prog 49 #[.pointer (some ⟨g, co, none⟩), .string s, .int .i64 d] W fun e W' => ∃ N : Nat, e = .returned (.tuple #[.pointer (some ⟨N, 0, none⟩), .string (rest s 4), .nilIface]) ∧ PS W W' g co Bo n Bo n ∧ Lies W' (Nw W W' g Bo n Bo n) N 0 (lit 5 ByteArray.empty) := by
 obtain ⟨e0, e1, e2, e3, e4⟩ := nul h
 have k1 : (bt s 0 == 123) = false := beq_eq_false_iff_ne.2 (by omega)
 have k2 : (bt s 0 == 91) = false := beq_eq_false_iff_ne.2 (by omega)
 have k3 : (bt s 0 == 34) = false := beq_eq_false_iff_ne.2 (by omega)
 have k4 : (bt s 0 == 116) = true := beq_iff_eq.2 hc
 have hw : IntKind.i64.wrap (d + 1) = d + 1 := by rw [IntKind.wrap_i64]; omega
 have hd1 : decide (300 < d + 1) = false := decide_eq_false (by omega)
 have hl1 : decide ((s.size : Int) < 4) = false := decide_eq_false (by omega)
 have hcr := cutr s 4 4 rfl (by omega)
 have hch := cuth s 4 4 rfl (by omega)
 have hql : ((s.extract 0 4).toList == ([116, 114, 117, 101] : List UInt8)) = true := beq_iff_eq.2 hq
 have HC := Aside0.mk hC
 clear hC hc hd h0 hq
 go_enter Tryd.func49, Tryd.ntmps49
 go_wp2
 go_region
 go_wp2
 go_ret3
 exact ⟨W.heap.size, rfl, boxed HC.out (pw_below_drewN (below_alloc (Below.refl _ _) _) _) (Nat.le_refl _) (heap_alloc_new W _) (by decide) (by decide)⟩
set_option maxHeartbeats 2000000 in
set_option maxRecDepth 100000 in
theorem val_false_ok (s : ByteArray) (d : Int) (h : s.size ≠ 0) (h0 : 0 ≤ d) (hd : d < 300) (hc : bt s 0 = 102) (h4 : 5 ≤ s.size) (hq : (s.extract 0 5).toList = [102, 97, 108, 115, 101]) (W : World) (g co : Nat) (Bo : Option (Nat × Nat)) (n : Nat) (hC : CS zc 86 W g co Bo n) :
  Calls Tryd.prog 49 #[.pointer (some ⟨g, co, none⟩), .string s, .int .i64 d] W fun e W' => ∃ N : Nat, e = .returned (.tuple #[.pointer (some ⟨N, 0, none⟩), .string (rest s 5), .nilIface]) ∧ PS W W' g co Bo n Bo n ∧ Lies W' (Nw W W' g Bo n Bo n) N 0 (lit 6 ByteArray.empty) := by
 obtain ⟨e0, e1, e2, e3, e4⟩ := nul h
 have k1 : (bt s 0 == 123) = false := beq_eq_false_iff_ne.2 (by omega)
 have k2 : (bt s 0 == 91) = false := beq_eq_false_iff_ne.2 (by omega)
 have k3 : (bt s 0 == 34) = false := beq_eq_false_iff_ne.2 (by omega)
 have k10 : (bt s 0 == 116) = false := beq_eq_false_iff_ne.2 (by omega)
 have k4 : (bt s 0 == 102) = true := beq_iff_eq.2 hc
 have hw : IntKind.i64.wrap (d + 1) = d + 1 := by rw [IntKind.wrap_i64]; omega
 have hd1 : decide (300 < d + 1) = false := decide_eq_false (by omega)
 have hl1 : decide ((s.size : Int) < 5) = false := decide_eq_false (by omega)
 have hcr := cutr s 5 5 rfl (by omega)
 have hch := cuth s 5 5 rfl (by omega)
 have hql : ((s.extract 0 5).toList == ([102, 97, 108, 115, 101] : List UInt8)) = true := beq_iff_eq.2 hq
 have HC := Aside0.mk hC
 clear hC hc hd h0 hq
 go_enter Tryd.func49, Tryd.ntmps49
 go_wp2
 go_region
 go_wp2
 go_ret3
 exact ⟨W.heap.size, rfl, boxed HC.out (pw_below_drewN (below_alloc (Below.refl _ _) _) _) (Nat.le_refl _) (heap_alloc_new W _) (by decide) (by decide)⟩
set_option maxHeartbeats 2000000 in
set_option maxRecDepth 100000 in
theorem val_null_ok (s : ByteArray) (d : Int) (h : s.size ≠ 0) (h0 : 0 ≤ d) (hd : d < 300) (hc : bt s 0 = 110) (h4 : 4 ≤ s.size) (hq : (s.extract 0 4).toList = [110, 117, 108, 108]) (W : World) (g co : Nat) (Bo : Option (Nat × Nat)) (n : Nat) (hC : CS zc 86 W g co Bo n) :
  Calls Tryd.prog 49 #[.pointer (some ⟨g, co, none⟩), .string s, .int .i64 d] W fun e W' => ∃ N : Nat, e = .returned (.tuple #[.pointer (some ⟨N, 0, none⟩), .string (rest s 4), .nilIface]) ∧ PS W W' g co Bo n Bo n ∧ Lies W' (Nw W W' g Bo n Bo n) N 0 (lit 0 ByteArray.empty) := by
 obtain ⟨e0, e1, e2, e3, e4⟩ := nul h
 have k1 : (bt s 0 == 123) = false := beq_eq_false_iff_ne.2 (by omega)
 have k2 : (bt s 0 == 91) = false := beq_eq_false_iff_ne.2 (by omega)
 have k3 : (bt s 0 == 34) = false := beq_eq_false_iff_ne.2 (by omega)
 have k10 : (bt s 0 == 116) = false := beq_eq_false_iff_ne.2 (by omega)
 have k11 : (bt s 0 == 102) = false := beq_eq_false_iff_ne.2 (by omega)
 have k4 : (bt s 0 == 110) = true := beq_iff_eq.2 hc
 have hw : IntKind.i64.wrap (d + 1) = d + 1 := by rw [IntKind.wrap_i64]; omega
 have hd1 : decide (300 < d + 1) = false := decide_eq_false (by omega)
 have hl1 : decide ((s.size : Int) < 4) = false := decide_eq_false (by omega)
 have hcr := cutr s 4 4 rfl (by omega)
 have hch := cuth s 4 4 rfl (by omega)
 have hql : ((s.extract 0 4).toList == ([110, 117, 108, 108] : List UInt8)) = true := beq_iff_eq.2 hq
 have HC := Aside0.mk hC
 clear hC hc hd h0 hq
 go_enter Tryd.func49, Tryd.ntmps49
 go_wp2
 go_region
 go_wp2
 go_ret3
 exact ⟨W.heap.size, rfl, boxed HC.out (pw_below_drewN (below_alloc (Below.refl _ _) _) _) (Nat.le_refl _) (heap_alloc_new W _) (by decide) (by decide)⟩
set_option maxHeartbeats 2000000 in
set_option maxRecDepth 100000 in
theorem val_true_short (s : ByteArray) (d : Int) (h : s.size ≠ 0) (h0 : 0 ≤ d) (hd : d < 300) (hc : bt s 0 = 116) (h4 : s.size < 4) (W : World) (g co : Nat) (Bo : Option (Nat × Nat)) (n m : Nat) :
  Calls Tryd.prog 49 #[.pointer (some ⟨g, co, none⟩), .string s, .int .i64 d] W (Post W g co Bo n m none) := by
 obtain ⟨e0, e1, e2, e3, e4⟩ := nul h
 have k1 : (bt s 0 == 123) = false := beq_eq_false_iff_ne.2 (by omega)
 have k2 : (bt s 0 == 91) = false := beq_eq_false_iff_ne.2 (by omega)
 have k3 : (bt s 0 == 34) = false := beq_eq_false_iff_ne.2 (by omega)
 have k4 : (bt s 0 == 116) = true := beq_iff_eq.2 hc
 have hw : IntKind.i64.wrap (d + 1) = d + 1 := by rw [IntKind.wrap_i64]; omega
 have hd1 : decide (300 < d + 1) = false := decide_eq_false (by omega)
 have hl1 : decide ((s.size : Int) < 4) = true := decide_eq_true (by omega)
 clear hc hd h0
 go_enter Tryd.func49, Tryd.ntmps49
 go_wp2_with (go_at_call 41; refine (errNew _ _).mono ?_; rintro e w1 ⟨et, ep, rfl, hb⟩)
 go_ret3
 exact Post.err (Ch.of_below hb _)
set_option maxHeartbeats 2000000 in
set_option maxRecDepth 100000 in
theorem val_true_diff (s : ByteArray) (d : Int) (h : s.size ≠ 0) (h0 : 0 ≤ d) (hd : d < 300) (hc : bt s 0 = 116) (h4 : 4 ≤ s.size) (hq : (s.extract 0 4).toList ≠ [116, 114, 117, 101]) (W : World) (g co : Nat) (Bo : Option (Nat × Nat)) (n m : Nat) :
  Calls Tryd.prog 49 #[.pointer (some ⟨g, co, none⟩), .string s, .int .i64 d] W (Post W g co Bo n m none) := by
 obtain ⟨e0, e1, e2, e3, e4⟩ := nul h
 have k1 : (bt s 0 == 123) = false := beq_eq_false_iff_ne.2 (by omega)
 have k2 : (bt s 0 == 91) = false := beq_eq_false_iff_ne.2 (by omega)
 have k3 : (bt s 0 == 34) = false := beq_eq_false_iff_ne.2 (by omega)
 have k4 : (bt s 0 == 116) = true := beq_iff_eq.2 hc
 have hw : IntKind.i64.wrap (d + 1) = d + 1 := by rw [IntKind.wrap_i64]; omega
 have hd1 : decide (300 < d + 1) = false := decide_eq_false (by omega)
 have hl1 : decide ((s.size : Int) < 4) = false := decide_eq_false (by omega)
 have hch := cuth s 4 4 rfl (by omega)
 have hql : ((s.extract 0 4).toList == ([116, 114, 117, 101] : List UInt8)) = false := beq_eq_false_iff_ne.2 hq
 clear hc hd h0
 go_enter Tryd.func49, Tryd.ntmps49
 go_wp2_with (go_at_call 41; refine (errNew _ _).mono ?_; rintro e w1 ⟨et, ep, rfl, hb⟩)
 go_ret3
 exact Post.err (Ch.of_below hb _)
set_option maxHeartbeats 2000000 in
set_option maxRecDepth 100000 in
theorem val_false_short (s : ByteArray) (d : Int) (h : s.size ≠ 0) (h0 : 0 ≤ d) (hd : d < 300) (hc : bt s 0 = 102) (h4 : s.size < 5) (W : World) (g co : Nat) (Bo : Option (Nat × Nat)) (n m : Nat) :
  Calls Tryd.prog 49 #[.pointer (some ⟨g, co, none⟩), .string s, .int .i64 d] W (Post W g co Bo n m none) := by
 obtain ⟨e0, e1, e2, e3, e4⟩ := nul h
 have k1 : (bt s 0 == 123) = false := beq_eq_false_iff_ne.2 (by omega)
 have k2 : (bt s 0 == 91) = false := beq_eq_false_iff_ne.2 (by omega)
 have k3 : (bt s 0 == 34) = false := beq_eq_false_iff_ne.2 (by omega)
 have k10 : (bt s 0 == 116) = false := beq_eq_false_iff_ne.2 (by omega)
 have k4 : (bt s 0 == 102) = true := beq_iff_eq.2 hc
 have hw : IntKind.i64.wrap (d + 1) = d + 1 := by rw [IntKind.wrap_i64]; omega
 have hd1 : decide (300 < d + 1) = false := decide_eq_false (by omega)
 have hl1 : decide ((s.size : Int) < 5) = true := decide_eq_true (by omega)
 clear hc hd h0
 go_enter Tryd.func49, Tryd.ntmps49
 go_wp2_with (go_at_call 41; refine (errNew _ _).mono ?_; rintro e w1 ⟨et, ep, rfl, hb⟩)
 go_ret3
 exact Post.err (Ch.of_below hb _)
set_option maxHeartbeats 2000000 in
set_option maxRecDepth 100000 in
theorem val_false_diff (s : ByteArray) (d : Int) (h : s.size ≠ 0) (h0 : 0 ≤ d) (hd : d < 300) (hc : bt s 0 = 102) (h4 : 5 ≤ s.size) (hq : (s.extract 0 5).toList ≠ [102, 97, 108, 115, 101]) (W : World) (g co : Nat) (Bo : Option (Nat × Nat)) (n m : Nat) :
  Calls Tryd.prog 49 #[.pointer (some ⟨g, co, none⟩), .string s, .int .i64 d] W (Post W g co Bo n m none) := by
 obtain ⟨e0, e1, e2, e3, e4⟩ := nul h
 have k1 : (bt s 0 == 123) = false := beq_eq_false_iff_ne.2 (by omega)
 have k2 : (bt s 0 == 91) = false := beq_eq_false_iff_ne.2 (by omega)
 have k3 : (bt s 0 == 34) = false := beq_eq_false_iff_ne.2 (by omega)
 have k10 : (bt s 0 == 116) = false := beq_eq_false_iff_ne.2 (by omega)
 have k4 : (bt s 0 == 102) = true := beq_iff_eq.2 hc
 have hw : IntKind.i64.wrap (d + 1) = d + 1 := by rw [IntKind.wrap_i64]; omega
 have hd1 : decide (300 < d + 1) = false := decide_eq_false (by omega)
 have hl1 : decide ((s.size : Int) < 5) = false := decide_eq_false (by omega)
 have hch := cuth s 5 5 rfl (by omega)
 have hql : ((s.extract 0 5).toList == ([102, 97, 108, 115, 101] : List UInt8)) = false := beq_eq_false_iff_ne.2 hq
 clear hc hd h0
 go_enter Tryd.func49, Tryd.ntmps49
 go_wp2_with (go_at_call 41; refine (errNew _ _).mono ?_; rintro e w1 ⟨et, ep, rfl, hb⟩)
 go_ret3
 exact Post.err (Ch.of_below hb _)
set_option maxHeartbeats 2000000 in
set_option maxRecDepth 100000 in
theorem val_n_lt3 (k : Nat) (s : ByteArray) (d : Int) (h : s.size ≠ 0) (h0 : 0 ≤ d) (hd : d < 300) (hc : bt s 0 = 110) (h4 : s.size < 3) (W : World) (g co : Nat) (Bo : Option (Nat × Nat)) (n m : Nat) :
  Calls Tryd.prog 49 #[.pointer (some ⟨g, co, none⟩), .string s, .int .i64 d] W (Post W g co Bo n m none) := by
 obtain ⟨e0, e1, e2, e3, e4⟩ := nul h
 have k1 : (bt s 0 == 123) = false := beq_eq_false_iff_ne.2 (by omega)
 have k2 : (bt s 0 == 91) = false := beq_eq_false_iff_ne.2 (by omega)
 have k3 : (bt s 0 == 34) = false := beq_eq_false_iff_ne.2 (by omega)
 have k10 : (bt s 0 == 116) = false := beq_eq_false_iff_ne.2 (by omega)
 have k11 : (bt s 0 == 102) = false := beq_eq_false_iff_ne.2 (by omega)
 have k4 : (bt s 0 == 110) = true := beq_iff_eq.2 hc
 have hw : IntKind.i64.wrap (d + 1) = d + 1 := by rw [IntKind.wrap_i64]; omega
 have hd1 : decide (300 < d + 1) = false := decide_eq_false (by omega)
 have hl1 : decide ((s.size : Int) < 4) = true := decide_eq_true (by omega)
 have hl3 : decide (3 ≤ (s.size : Int)) = false := decide_eq_false (by omega)
 clear hc hd h0
 go_enter Tryd.func49, Tryd.ntmps49
 go_wp2_with (go_at_call 41; refine (errNew _ _).mono ?_; rintro e w1 ⟨et, ep, rfl, hb⟩)
 go_ret3
 exact Post.err (Ch.of_below hb _)
set_option maxHeartbeats 2000000 in
set_option maxRecDepth 100000 in
theorem val_n_short_no (k : Nat) (s : ByteArray) (d : Int) (h : s.size ≠ 0) (h0 : 0 ≤ d) (hd : d < 300) (hc : bt s 0 = 110) (h3 : 3 ≤ s.size) (h4 : s.size < 4) (hf : fastjson_zzFold.f k (s.extract 0 3) (⟨#[110, 97, 110]⟩ : ByteArray) = some false) (W : World) (g co : Nat) (Bo : Option (Nat × Nat)) (n m : Nat) :
  Calls Tryd.prog 49 #[.pointer (some ⟨g, co, none⟩), .string s, .int .i64 d] W (Post W g co Bo n m none) := by
 obtain ⟨e0, e1, e2, e3, e4⟩ := nul h
 have k1 : (bt s 0 == 123) = false := beq_eq_false_iff_ne.2 (by omega)
 have k2 : (bt s 0 == 91) = false := beq_eq_false_iff_ne.2 (by omega)
 have k3 : (bt s 0 == 34) = false := beq_eq_false_iff_ne.2 (by omega)
 have k10 : (bt s 0 == 116) = false := beq_eq_false_iff_ne.2 (by omega)
 have k11 : (bt s 0 == 102) = false := beq_eq_false_iff_ne.2 (by omega)
 have k4 : (bt s 0 == 110) = true := beq_iff_eq.2 hc
 have hw : IntKind.i64.wrap (d + 1) = d + 1 := by rw [IntKind.wrap_i64]; omega
 have hd1 : decide (300 < d + 1) = false := decide_eq_false (by omega)
 have hl1 : decide ((s.size : Int) < 4) = true := decide_eq_true (by omega)
 have hl3 : decide (3 ≤ (s.size : Int)) = true := decide_eq_true (by omega)
 have hch := cuth s 3 3 rfl (by omega)
 have HF := Aside0.mk hf
 clear hc hd h0 hf
 go_enter Tryd.func49, Tryd.ntmps49
 go_wp2_with (first
  | (go_at_call 74; refine (fastjson_zzFold.calls k (s.extract 0 3) (⟨#[110, 97, 110]⟩ : ByteArray) false _ HF.out).mono ?_; rintro e w1 ⟨rfl, ⟨nd, rfl⟩⟩; have HB := Aside0.mk (pw_below_drewN (Below.refl W.heap.size W) nd))
  | (go_at_call 41; refine (errNew _ _).mono ?_; rintro e w2 ⟨et, ep, rfl, hb⟩))
 go_ret3
 exact Post.err (Ch.of_below (HB.out.trans (hb.mono HB.out.size)) _)
set_option maxHeartbeats 2000000 in
set_option maxRecDepth 100000 in
theorem val_n_short_yes (k : Nat) (s : ByteArray) (d : Int) (h : s.size ≠ 0) (h0 : 0 ≤ d) (hd : d < 300) (hc : bt s 0 = 110) (h3 : 3 ≤ s.size) (h4 : s.size < 4) (hf : fastjson_zzFold.f k (s.extract 0 3) (⟨#[110, 97, 110]⟩ : ByteArray) = some true) (W : World) (g co : Nat) (Bo : Option (Nat × Nat)) (n : Nat) (hC : CS zc 86 W g co Bo n) (hn : n ≤ 200000) :
  Calls Tryd.prog 49 #[.pointer (some ⟨g, co, none⟩), .string s, .int .i64 d] W fun e W' => ∃ (B c : Nat), e = .returned (.tuple #[.pointer (some ⟨B, n * 5, none⟩), .string (rest s 3), .nilIface]) ∧ PS W W' g co Bo n (some (B, c)) (n + 1) ∧ Lies W' (Nw W W' g Bo n (some (B, c)) (n + 1)) B (n * 5) (lit 4 (s.extract 0 3)) := by
 obtain ⟨e0, e1, e2, e3, e4⟩ := nul h
 have k1 : (bt s 0 == 123) = false := beq_eq_false_iff_ne.2 (by omega)
 have k2 : (bt s 0 == 91) = false := beq_eq_false_iff_ne.2 (by omega)
 have k3 : (bt s 0 == 34) = false := beq_eq_false_iff_ne.2 (by omega)
 have k10 : (bt s 0 == 116) = false := beq_eq_false_iff_ne.2 (by omega)
 have k11 : (bt s 0 == 102) = false := beq_eq_false_iff_ne.2 (by omega)
 have k4 : (bt s 0 == 110) = true := beq_iff_eq.2 hc
 have hw : IntKind.i64.wrap (d + 1) = d + 1 := by rw [IntKind.wrap_i64]; omega
 have hd1 : decide (300 < d + 1) = false := decide_eq_false (by omega)
 have hl1 : decide ((s.size : Int) < 4) = true := decide_eq_true (by omega)
 have hl3 : decide (3 ≤ (s.size : Int)) = true := decide_eq_true (by omega)
 have hch := cuth s 3 3 rfl (by omega)
 have hcr := cutr s 3 3 rfl (by omega)
 have HF := Aside0.mk hf
 have HC := Aside0.mk hC
 have HN : Aside0 (n ≤ 1000000) := ⟨by omega⟩
 clear hf hC hc
 obtain ⟨q, hq_⟩ : ∃ q, q = n * 5 := ⟨_, rfl⟩
 have HQ := Aside0.mk hq_
 rw [← hq_]
 clear hq_ hn hd h0
 go_enter Tryd.func49, Tryd.ntmps49
 go_wp2_with (first
  | (go_at_call 74; refine (fastjson_zzFold.calls k (s.extract 0 3) (⟨#[110, 97, 110]⟩ : ByteArray) true _ HF.out).mono ?_; rintro e w1 ⟨rfl, ⟨nd, rfl⟩⟩; have HP := Aside0.mk ((PS.refl HC.out).below (pw_below_drewN (Below.refl W.heap.size W) nd)))
  | (go_at_call 39; refine (getV g co n Bo _ HP.out.cs HN.out).mono ?_; rintro e w2 ⟨B, c, rfl, hv⟩; have HV := Aside0.mk hv; obtain ⟨c4, f4, c3, f3, hlt⟩ := newv_at hv; clear hv; rw [← HQ.out] at c4 f4 c3 f3 ⊢))
 go_quiet (fail)
 go_wp2
 go_ret3
 have hd3 := leaf_done (m := nq) (k := 4) (s := s.extract 0 3) HP.out HV.out (by decide) (by decide)
 rw [← HQ.out] at hd3
 exact ⟨B, c, rfl, hd3⟩
set_option maxHeartbeats 2000000 in
set_option maxRecDepth 100000 in
theorem val_n_diff_no (k : Nat) (s : ByteArray) (d : Int) (h : s.size ≠ 0) (h0 : 0 ≤ d) (hd : d < 300) (hc : bt s 0 = 110) (h4 : 4 ≤ s.size) (hq : (s.extract 0 4).toList ≠ [110, 117, 108, 108]) (hf : fastjson_zzFold.f k (s.extract 0 3) (⟨#[110, 97, 110]⟩ : ByteArray) = some false) (W : World) (g co : Nat) (Bo : Option (Nat × Nat)) (n m : Nat) :
  Calls Tryd.prog 49 #[.pointer (some ⟨g, co, none⟩), .string s, .int .i64 d] W (Post W g co Bo n m none) := by
 obtain ⟨e0, e1, e2, e3, e4⟩ := nul h
 have k1 : (bt s 0 == 123) = false := beq_eq_false_iff_ne.2 (by omega)
 have k2 : (bt s 0 == 91) = false := beq_eq_false_iff_ne.2 (by omega)
 have k3 : (bt s 0 == 34) = false := beq_eq_false_iff_ne.2 (by omega)
 have k10 : (bt s 0 == 116) = false := beq_eq_false_iff_ne.2 (by omega)
 have k11 : (bt s 0 == 102) = false := beq_eq_false_iff_ne.2 (by omega)
 have k4 : (bt s 0 == 110) = true := beq_iff_eq.2 hc
 have hw : IntKind.i64.wrap (d + 1) = d + 1 := by rw [IntKind.wrap_i64]; omega
 have hd1 : decide (300 < d + 1) = false := decide_eq_false (by omega)
 have hl1 : decide ((s.size : Int) < 4) = false := decide_eq_false (by omega)
 have hch4 := cuth s 4 4 rfl (by omega)
 have hql : ((s.extract 0 4).toList == ([110, 117, 108, 108] : List UInt8)) = false := beq_eq_false_iff_ne.2 hq
 have hl3 : decide (3 ≤ (s.size : Int)) = true := decide_eq_true (by omega)
 have hch := cuth s 3 3 rfl (by omega)
 have HF := Aside0.mk hf
 clear hc hd h0 hf
 go_enter Tryd.func49, Tryd.ntmps49
 go_wp2_with (first
  | (go_at_call 74; refine (fastjson_zzFold.calls k (s.extract 0 3) (⟨#[110, 97, 110]⟩ : ByteArray) false _ HF.out).mono ?_; rintro e w1 ⟨rfl, ⟨nd, rfl⟩⟩; have HB := Aside0.mk (pw_below_drewN (Below.refl W.heap.size W) nd))
  | (go_at_call 41; refine (errNew _ _).mono ?_; rintro e w2 ⟨et, ep, rfl, hb⟩))
 go_ret3
 exact Post.err (Ch.of_below (HB.out.trans (hb.mono HB.out.size)) _)
set_option maxHeartbeats 2000000 in
set_option maxRecDepth 100000 in
theorem val_n_diff_yes (k : Nat) (s : ByteArray) (d : Int) (h : s.size ≠ 0) (h0 : 0 ≤ d) (hd : d < 300) (hc : bt s 0 = 110) (h4 : 4 ≤ s.size) (hq : (s.extract 0 4).toList ≠ [110, 117, 108, 108]) (hf : fastjson_zzFold.f k (s.extract 0 3) (⟨#[110, 97, 110]⟩ : ByteArray) = some true) (W : World) (g co : Nat) (Bo : Option (Nat × Nat)) (n : Nat) (hC : CS zc 86 W g co Bo n) (hn : n ≤ 200000) :
  Calls Tryd.prog 49 #[.pointer (some ⟨g, co, none⟩), .string s, .int .i64 d] W fun e W' => ∃ (B c : Nat), e = .returned (.tuple #[.pointer (some ⟨B, n * 5, none⟩), .string (rest s 3), .nilIface]) ∧ PS W W' g co Bo n (some (B, c)) (n + 1) ∧ Lies W' (Nw W W' g Bo n (some (B, c)) (n + 1)) B (n * 5) (lit 4 (s.extract 0 3)) := by
 obtain ⟨e0, e1, e2, e3, e4⟩ := nul h
 have k1 : (bt s 0 == 123) = false := beq_eq_false_iff_ne.2 (by omega)
 have k2 : (bt s 0 == 91) = false := beq_eq_false_iff_ne.2 (by omega)
 have k3 : (bt s 0 == 34) = false := beq_eq_false_iff_ne.2 (by omega)
 have k10 : (bt s 0 == 116) = false := beq_eq_false_iff_ne.2 (by omega)
 have k11 : (bt s 0 == 102) = false := beq_eq_false_iff_ne.2 (by omega)
 have k4 : (bt s 0 == 110) = true := beq_iff_eq.2 hc
 have hw : IntKind.i64.wrap (d + 1) = d + 1 := by rw [IntKind.wrap_i64]; omega
 have hd1 : decide (300 < d + 1) = false := decide_eq_false (by omega)
 have hl1 : decide ((s.size : Int) < 4) = false := decide_eq_false (by omega)
 have hch4 := cuth s 4 4 rfl (by omega)
 have hql : ((s.extract 0 4).toList == ([110, 117, 108, 108] : List UInt8)) = false := beq_eq_false_iff_ne.2 hq
 have hl3 : decide (3 ≤ (s.size : Int)) = true := decide_eq_true (by omega)
 have hch := cuth s 3 3 rfl (by omega)
 have hcr := cutr s 3 3 rfl (by omega)
 have HF := Aside0.mk hf
 have HC := Aside0.mk hC
 have HN : Aside0 (n ≤ 1000000) := ⟨by omega⟩
 clear hf hC hc
 obtain ⟨q, hq_⟩ : ∃ q, q = n * 5 := ⟨_, rfl⟩
 have HQ := Aside0.mk hq_
 rw [← hq_]
 clear hq_ hn hd h0
 go_enter Tryd.func49, Tryd.ntmps49
 go_wp2_with (first
  | (go_at_call 74; refine (fastjson_zzFold.calls k (s.extract 0 3) (⟨#[110, 97, 110]⟩ : ByteArray) true _ HF.out).mono ?_; rintro e w1 ⟨rfl, ⟨nd, rfl⟩⟩; have HP := Aside0.mk ((PS.refl HC.out).below (pw_below_drewN (Below.refl W.heap.size W) nd)))
  | (go_at_call 39; refine (getV g co n Bo _ HP.out.cs HN.out).mono ?_; rintro e w2 ⟨B, c, rfl, hv⟩; have HV := Aside0.mk hv; obtain ⟨c4, f4, c3, f3, hlt⟩ := newv_at hv; clear hv; rw [← HQ.out] at c4 f4 c3 f3 ⊢))
 go_quiet (fail)
 go_wp2
 go_ret3
 have hd3 := leaf_done (m := nq) (k := 4) (s := s.extract 0 3) HP.out HV.out (by decide) (by decide)
 rw [← HQ.out] at hd3
 exact ⟨B, c, rfl, hd3⟩
set_option maxHeartbeats 2000000 in
set_option maxRecDepth 100000 in
theorem val_obj_none (k : Nat) (IH : OC k) (s : ByteArray) (d : Int) (h : s.size ≠ 0) (h0 : 0 ≤ d) (hd : d < 300) (hc : bt s 0 = 123) (hr : pO k (rest s 1) (d + 1) = some none) (W : World) (g co : Nat) (Bo : Option (Nat × Nat)) (n : Nat) (hC : CS zc 86 W g co Bo n) (hn : n + s.size ≤ 200000) :
  Calls Tryd.prog 49 #[.pointer (some ⟨g, co, none⟩), .string s, .int .i64 d] W (Post W g co Bo n (n + s.size) none) := by
 obtain ⟨e0, e1, e2, e3, e4⟩ := nul h
 have k4 : (bt s 0 == 123) = true := beq_iff_eq.2 hc
 have hw : IntKind.i64.wrap (d + 1) = d + 1 := by rw [IntKind.wrap_i64]; omega
 have hd1 : decide (300 < d + 1) = false := decide_eq_false (by omega)
 have hcs := cutr s 1 1 rfl (by omega)
 have hsz : n + (rest s 1).size + 1 = n + s.size := by rw [size_rest]; omega
 have HC := Aside0.mk (IH (rest s 1) (d + 1) _ hr (by omega) (by omega) W g co Bo n hC (by omega))
 rw [hsz] at HC
 clear hr hC hc h0 hd hn hsz IH
 go_enter Tryd.func49, Tryd.ntmps49
 go_wp2_with (first
  | (go_at_call 71; refine HC.out.mono ?_; rintro e w1 ⟨t1, et, ep, rfl, hb⟩; have HB := Aside0.mk hb; clear hb)
  | (go_at_call 41; refine (errNew _ _).mono ?_; rintro e w2 ⟨et2, ep2, rfl, hb2⟩))
 go_ret3
 exact Post.err (HB.out.comp (Ch.of_below hb2 (fun _ _ => False)) (fun _ _ _ h => h.elim))
set_option maxHeartbeats 2000000 in
set_option maxRecDepth 100000 in
theorem val_obj_some (k : Nat) (IH : OC k) (s : ByteArray) (d : Int) (x : FT × ByteArray) (h : s.size ≠ 0) (h0 : 0 ≤ d) (hd : d < 300) (hc : bt s 0 = 123) (hr : pO k (rest s 1) (d + 1) = some (some x)) (W : World) (g co : Nat) (Bo : Option (Nat × Nat)) (n : Nat) (hC : CS zc 86 W g co Bo n) (hn : n + s.size ≤ 200000) :
  Calls Tryd.prog 49 #[.pointer (some ⟨g, co, none⟩), .string s, .int .i64 d] W (Post W g co Bo n (n + s.size) (some x)) := by
 obtain ⟨e0, e1, e2, e3, e4⟩ := nul h
 have k4 : (bt s 0 == 123) = true := beq_iff_eq.2 hc
 have hw : IntKind.i64.wrap (d + 1) = d + 1 := by rw [IntKind.wrap_i64]; omega
 have hd1 : decide (300 < d + 1) = false := decide_eq_false (by omega)
 have hcs := cutr s 1 1 rfl (by omega)
 have hsz : n + (rest s 1).size + 1 = n + s.size := by rw [size_rest]; omega
 have HC := Aside0.mk (IH (rest s 1) (d + 1) _ hr (by omega) (by omega) W g co Bo n hC (by omega))
 rw [hsz] at HC
 clear hr hC hc h0 hd hn hsz IH
 go_enter Tryd.func49, Tryd.ntmps49
 go_wp2_with (go_at_call 71; refine HC.out.mono ?_; rintro e w1 ⟨b1, o1, B1, n1, rfl, hb⟩; have HB := Aside0.mk hb; clear hb)
 go_ret3
 exact ⟨b1, o1, B1, n1, rfl, HB.out⟩
set_option maxHeartbeats 2000000 in
set_option maxRecDepth 100000 in
theorem val_arr_none (k : Nat) (IH : AC k) (s : ByteArray) (d : Int) (h : s.size ≠ 0) (h0 : 0 ≤ d) (hd : d < 300) (hc : bt s 0 = 91) (hr : pA k (rest s 1) (d + 1) = some none) (W : World) (g co : Nat) (Bo : Option (Nat × Nat)) (n : Nat) (hC : CS zc 86 W g co Bo n) (hn : n + s.size ≤ 200000) :
  Calls Tryd.prog 49 #[.pointer (some ⟨g, co, none⟩), .string s, .int .i64 d] W (Post W g co Bo n (n + s.size) none) := by
 obtain ⟨e0, e1, e2, e3, e4⟩ := nul h
 have k10 : (bt s 0 == 123) = false := beq_eq_false_iff_ne.2 (by omega)
 have k4 : (bt s 0 == 91) = true := beq_iff_eq.2 hc
 have hw : IntKind.i64.wrap (d + 1) = d + 1 := by rw [IntKind.wrap_i64]; omega
 have hd1 : decide (300 < d + 1) = false := decide_eq_false (by omega)
 have hcs := cutr s 1 1 rfl (by omega)
 have hsz : n + (rest s 1).size + 1 = n + s.size := by rw [size_rest]; omega
 have HC := Aside0.mk (IH (rest s 1) (d + 1) _ hr (by omega) (by omega) W g co Bo n hC (by omega))
 rw [hsz] at HC
 clear hr hC hc h0 hd hn hsz IH
 go_enter Tryd.func49, Tryd.ntmps49
 go_wp2_with (first
  | (go_at_call 72; refine HC.out.mono ?_; rintro e w1 ⟨t1, et, ep, rfl, hb⟩; have HB := Aside0.mk hb; clear hb)
  | (go_at_call 41; refine (errNew _ _).mono ?_; rintro e w2 ⟨et2, ep2, rfl, hb2⟩))
 go_ret3
 exact Post.err (HB.out.comp (Ch.of_below hb2 (fun _ _ => False)) (fun _ _ _ h => h.elim))
set_option maxHeartbeats 2000000 in
set_option maxRecDepth 100000 in
theorem val_arr_some (k : Nat) (IH : AC k) (s : ByteArray) (d : Int) (x : FT × ByteArray) (h : s.size ≠ 0) (h0 : 0 ≤ d) (hd : d < 300) (hc : bt s 0 = 91) (hr : pA k (rest s 1) (d + 1) = some (some x)) (W : World) (g co : Nat) (Bo : Option (Nat × Nat)) (n : Nat) (hC : CS zc 86 W g co Bo n) (hn : n + s.size ≤ 200000) :
  Calls Tryd.prog 49 #[.pointer (some ⟨g, co, none⟩), .string s, .int .i64 d] W (Post W g co Bo n (n + s.size) (some x)) := by
 obtain ⟨e0, e1, e2, e3, e4⟩ := nul h
 have k10 : (bt s 0 == 123) = false := beq_eq_false_iff_ne.2 (by omega)
 have k4 : (bt s 0 == 91) = true := beq_iff_eq.2 hc
 have hw : IntKind.i64.wrap (d + 1) = d + 1 := by rw [IntKind.wrap_i64]; omega
 have hd1 : decide (300 < d + 1) = false := decide_eq_false (by omega)
 have hcs := cutr s 1 1 rfl (by omega)
 have hsz : n + (rest s 1).size + 1 = n + s.size := by rw [size_rest]; omega
 have HC := Aside0.mk (IH (rest s 1) (d + 1) _ hr (by omega) (by omega) W g co Bo n hC (by omega))
 rw [hsz] at HC
 clear hr hC hc h0 hd hn hsz IH
 go_enter Tryd.func49, Tryd.ntmps49
 go_wp2_with (go_at_call 72; refine HC.out.mono ?_; rintro e w1 ⟨b1, o1, B1, n1, rfl, hb⟩; have HB := Aside0.mk hb; clear hb)
 go_ret3
 exact ⟨b1, o1, B1, n1, rfl, HB.out⟩
end FJ
end Go.Proofs.YtnajijaachgipaaDoor.PR
end
section
namespace Go.Proofs.YtnajijaachgipaaDoor.PR
open Go.RowKit Go.Proofs.YtnajijaachgipaaDoorW.PrintWords Go.Proofs.YtnajijaachgipaaDoorW.PrintLast Go.Proofs.YtnajijaachgipaaDoorW.PrintMore Go.Proofs.YtnajijaachgipaaDoor.H
set_option linter.unusedVariables false
set_option linter.unusedSimpArgs false
namespace FJ
theorem rs_size {k : Nat} {s a b : ByteArray} {o : Option Int} (h : rs k s = some (a, b, o)) : b.size ≤ s.size := by
 obtain ⟨q, hq, hx⟩ := Option.bind_eq_some_iff.mp h
 split at hx
 ·rename_i hc; obtain rfl := Option.some.inj hx; exact hc
 cases hx
theorem rn_size {k : Nat} {s a b : ByteArray} (h : rn k s = some (a, b, none)) : b.size < s.size := by
 obtain ⟨q, hq, hx⟩ := Option.bind_eq_some_iff.mp h
 split at hx
 ·rename_i hc; obtain rfl := Option.some.inj hx; simpa using hc
 cases hx
theorem word_cases {s : ByteArray} {w : List UInt8} {k : Int} {no : Option Res} {r : Res} (h : word s w k no = some r) : (s.size < w.length ∧ no = some r) ∨ (w.length ≤ s.size ∧ (s.extract 0 w.length).toList = w ∧ r = some (lit k ByteArray.empty, rest s w.length)) ∨ (w.length ≤ s.size ∧ (s.extract 0 w.length).toList ≠ w ∧ no = some r) := by
 unfold word at h
 split at h
 ·rename_i hc; exact .inl ⟨by omega, h⟩
 rename_i hc
 split at h
 ·rename_i hd; exact .inr (.inl ⟨by omega, hd, (Option.some.inj h).symm⟩)
 rename_i hd; exact .inr (.inr ⟨by omega, hd, h⟩)
theorem val_step (k : Nat) (A : AC k) (O : OC k) : VC (k + 1) := by
 intro s d r h h0 hd W g co Bo n hC hn
 unfold pV at h
 by_cases hs : s.size = 0
 ·rw [if_pos hs] at h
  obtain rfl := Option.some.inj h
  exact val_empty s d hs W g co Bo n _
 rw [if_neg hs] at h
 by_cases hdd : 300 < d + 1
 ·rw [if_pos hdd] at h
  obtain rfl := Option.some.inj h
  exact val_deep s d hs (by omega) W g co Bo n _
 rw [if_neg hdd] at h
 by_cases c1 : bt s 0 = 123
 ·rw [if_pos c1] at h
  cases r with
  | none => exact val_obj_none k O s d hs h0 (by omega) c1 h W g co Bo n hC hn
  | some x => exact val_obj_some k O s d x hs h0 (by omega) c1 h W g co Bo n hC hn
 rw [if_neg c1] at h
 by_cases c2 : bt s 0 = 91
 ·rw [if_pos c2] at h
  cases r with
  | none => exact val_arr_none k A s d hs h0 (by omega) c2 h W g co Bo n hC hn
  | some x => exact val_arr_some k A s d x hs h0 (by omega) c2 h W g co Bo n hC hn
 rw [if_neg c2] at h
 by_cases c3 : bt s 0 = 34
 ·rw [if_pos c3] at h
  obtain ⟨⟨a, b, o⟩, hr, hx⟩ := Option.bind_eq_some_iff.mp h
  obtain rfl := Option.some.inj hx
  cases o with
  | none =>
   have := rs_size hr
   rw [size_rest] at this
   exact (val_str_ok k s a b d hs h0 (by omega) c3 hr W g co Bo n hC (by omega)).mono fun e w' ⟨B, c, he, hp, hl⟩ => ⟨B, n * 5, some (B, c), n + 1, he, hp, (by show n + 1 + b.size ≤ _; omega), hl⟩
  | some x => exact val_str_err k s a b x d hs h0 (by omega) c3 hr W g co Bo n _
 rw [if_neg c3] at h
 by_cases c4 : bt s 0 = 116
 ·rw [if_pos c4] at h
  rcases word_cases h with ⟨h4, e⟩ | ⟨h4, hq, e⟩ | ⟨h4, hq, e⟩
  ·obtain rfl := Option.some.inj e
   exact val_true_short s d hs h0 (by omega) c4 h4 W g co Bo n _
  ·subst e
   exact (val_true_ok s d hs h0 (by omega) c4 h4 hq W g co Bo n hC).mono fun e w' ⟨N, he, hp, hl⟩ => ⟨N, 0, Bo, n, he, hp, (by show n + (rest s 4).size ≤ _; rw [size_rest]; omega), hl⟩
  obtain rfl := Option.some.inj e
  exact val_true_diff s d hs h0 (by omega) c4 h4 hq W g co Bo n _
 rw [if_neg c4] at h
 by_cases c5 : bt s 0 = 102
 ·rw [if_pos c5] at h
  rcases word_cases h with ⟨h4, e⟩ | ⟨h4, hq, e⟩ | ⟨h4, hq, e⟩
  ·obtain rfl := Option.some.inj e
   exact val_false_short s d hs h0 (by omega) c5 h4 W g co Bo n _
  ·subst e
   exact (val_false_ok s d hs h0 (by omega) c5 h4 hq W g co Bo n hC).mono fun e w' ⟨N, he, hp, hl⟩ => ⟨N, 0, Bo, n, he, hp, (by show n + (rest s 5).size ≤ _; rw [size_rest]; omega), hl⟩
  obtain rfl := Option.some.inj e
  exact val_false_diff s d hs h0 (by omega) c5 h4 hq W g co Bo n _
 rw [if_neg c5] at h
 by_cases c6 : bt s 0 = 110
 ·rw [if_pos c6] at h
  have no : ∀ {r : Res}, (if 3 ≤ s.size then (fastjson_zzFold.f k (s.extract 0 3) (⟨#[110, 97, 110]⟩ : ByteArray)).bind fun b => some (if b = true then some (lit 4 (s.extract 0 3), rest s 3) else none) else some none) = some r →
    (s.size < 3 ∧ r = none) ∨ (3 ≤ s.size ∧ fastjson_zzFold.f k (s.extract 0 3) (⟨#[110, 97, 110]⟩ : ByteArray) = some false ∧ r = none) ∨ (3 ≤ s.size ∧ fastjson_zzFold.f k (s.extract 0 3) (⟨#[110, 97, 110]⟩ : ByteArray) = some true ∧ r = some (lit 4 (s.extract 0 3), rest s 3)) := by
   intro r e
   split at e
   ·rename_i h3
    obtain ⟨b, hb, hx⟩ := Option.bind_eq_some_iff.mp e
    obtain rfl := Option.some.inj hx
    cases b with
    | false => exact .inr (.inl ⟨h3, hb, rfl⟩)
    | true => exact .inr (.inr ⟨h3, hb, rfl⟩)
   exact .inl ⟨by omega, (Option.some.inj e).symm⟩
  have yes : ∀ {W' : World} {e : Ending}, (∃ (B c : Nat), e = .returned (.tuple #[.pointer (some ⟨B, n * 5, none⟩), .string (rest s 3), .nilIface]) ∧ PS W W' g co Bo n (some (B, c)) (n + 1) ∧ Lies W' (Nw W W' g Bo n (some (B, c)) (n + 1)) B (n * 5) (lit 4 (s.extract 0 3))) → 3 ≤ s.size → Post W g co Bo n (n + s.size) (some (lit 4 (s.extract 0 3), rest s 3)) e W' :=
   fun ⟨B, c, he, hp, hl⟩ h3 => ⟨B, n * 5, some (B, c), n + 1, he, hp, (by show n + 1 + (rest s 3).size ≤ _; rw [size_rest]; omega), hl⟩
  rcases word_cases h with ⟨h4, e⟩ | ⟨h4, hq, e⟩ | ⟨h4, hq, e⟩
  ·rcases no e with ⟨h3, rfl⟩ | ⟨h3, hf, rfl⟩ | ⟨h3, hf, rfl⟩
   ·exact val_n_lt3 k s d hs h0 (by omega) c6 h3 W g co Bo n _
   ·exact val_n_short_no k s d hs h0 (by omega) c6 h3 h4 hf W g co Bo n _
   exact (val_n_short_yes k s d hs h0 (by omega) c6 h3 h4 hf W g co Bo n hC (by omega)).mono fun e w' hq => yes hq h3
  ·subst e
   exact (val_null_ok s d hs h0 (by omega) c6 h4 hq W g co Bo n hC).mono fun e w' ⟨N, he, hp, hl⟩ => ⟨N, 0, Bo, n, he, hp, (by show n + (rest s 4).size ≤ _; rw [size_rest]; omega), hl⟩
  have h4' : 4 ≤ s.size := h4
  rcases no e with ⟨h3, rfl⟩ | ⟨h3, hf, rfl⟩ | ⟨h3, hf, rfl⟩
  ·omega
  ·exact val_n_diff_no k s d hs h0 (by omega) c6 h4 hq hf W g co Bo n _
  exact (val_n_diff_yes k s d hs h0 (by omega) c6 h4 hq hf W g co Bo n hC (by omega)).mono fun e w' hq => yes hq h3
 rw [if_neg c6] at h
 obtain ⟨⟨a, b, o⟩, hr, hx⟩ := Option.bind_eq_some_iff.mp h
 obtain rfl := Option.some.inj hx
 cases o with
 | none =>
  have := rn_size hr
  exact (val_num_ok k s a b d hs h0 (by omega) (by omega) hr W g co Bo n hC (by omega)).mono fun e w' ⟨B, c, he, hp, hl⟩ => ⟨B, n * 5, some (B, c), n + 1, he, hp, (by show n + 1 + b.size ≤ _; omega), hl⟩
 | some x => exact val_num_err k s a b x d hs h0 (by omega) (by omega) hr W g co Bo n _
end FJ
end Go.Proofs.YtnajijaachgipaaDoor.PR
end
section
namespace Go.Proofs.YtnajijaachgipaaDoor.H
open Go.RowKit Go.Proofs.YtnajijaachgipaaDoorW.PrintWords Go.Proofs.YtnajijaachgipaaDoorW.PrintLast Go.Proofs.YtnajijaachgipaaDoorW.PrintMore
set_option linter.unusedVariables false
def ptr (p : Nat × Nat) : Value := .pointer (some ⟨p.1, p.2, none⟩)
/-- Where the elements' trees may lie. -/
def Kd_ (W0 W : World) (g : Nat) (Bo : Option (Nat × Nat)) (n : Nat) (B1 : Option (Nat × Nat)) (n1 ba oa : Nat) (v : Value) (b o : Nat) : Prop := Nw W0 W g Bo n B1 n1 b o ∧ ¬ (b = ba ∧ oa ≤ o ∧ o < oa + 5) ∧ some b ≠ v.ownBlock
structure AI (W0 W : World) (g co : Nat) (Bo : Option (Nat × Nat)) (n : Nat) (B1 : Option (Nat × Nat)) (n1 ba oa : Nat) (v : Value) (ps : List (Nat × Nat)) (ts : List FT) : Prop where
 st : PS W0 W g co Bo n B1 n1
 new : ∀ j, j < 5 → ¬ Old W0 g Bo (n * 5) ba (oa + j)
 old : ∀ j, j < 5 → Old W g B1 (n1 * 5) ba (oa + j)
 form : ∃ cur, W.heap[ba]? = some (.cells cur 86 (0, 0)) ∧ oa + 5 ≤ cur.size
 c4 : W.cell? ⟨ba, oa + 4, none⟩ = some (.int .i64 2)
 c2 : W.cell? ⟨ba, oa + 2, none⟩ = some v
 hl : ps.length = ts.length
 own : W.ownsRow W0.heap.size 56 1 v ts.length (ps.map ptr)
 blk : ∀ A, v.ownBlock = some A → A ≠ g ∧ A ≠ ba ∧ ∀ c, B1 ≠ some (A, c)
 kids : ∀ (j : Nat) (p : Nat × Nat) (t : FT), ps[j]? = some p → ts[j]? = some t → Lies W (Kd_ W0 W g Bo n B1 n1 ba oa v) p.1 p.2 t
section
variable {W W0 W1 W2 : World} {g co n n1 n2 ba oa : Nat} {Bo B1 B2 : Option (Nat × Nat)} {v v1 : Value} {ps : List (Nat × Nat)} {ts : List FT}
theorem AI.alt (h : AI W0 W g co Bo n B1 n1 ba oa v ps ts) : ∀ A, v.ownBlock = some A → W0.heap.size ≤ A ∧ A < W.heap.size := fun A e => h.own.lt A e
theorem AI.balt (h : AI W0 W g co Bo n B1 n1 ba oa v ps ts) : ba < W.heap.size := by
 obtain ⟨cur, e, _⟩ := h.form
 exact (Array.getElem?_eq_some_iff.1 e).1
theorem own_same {base e size m : Nat} {xs : List Value} (h : W.ownsRow base e size v m xs) (hb : ∀ A, v.ownBlock = some A → W1.heap[A]? = W.heap[A]?) : W1.ownsRow base e size v m xs := by
 refine ⟨h.1, ?_⟩
 rcases h.2 with hn | ⟨A, cap, cur, rfl, hbs, hg, rest⟩
 ·exact .inl hn
 exact .inr ⟨A, cap, cur, rfl, hbs, (hb A rfl).trans hg, rest⟩
theorem AI.child {b o : Nat} {t : FT} (h : AI W0 W1 g co Bo n B1 n1 ba oa v ps ts) (k : PS W1 W2 g co B1 n1 B2 n2) (hl : Lies W2 (Nw W1 W2 g B1 n1 B2 n2) b o t) :
  AI W0 W2 g co Bo n B2 n2 ba oa v ps ts ∧ Lies W2 (Kd_ W0 W2 g Bo n B2 n2 ba oa v) b o t := by
 have hst := h.st.trans k
 have hA : ∀ A, v.ownBlock = some A → ∀ o, Old W1 g B1 (n1 * 5) A o := fun A e o => ⟨(h.alt A e).2, (h.blk A e).1, fun c e2 => absurd e2 ((h.blk A e).2.2 c)⟩
 obtain ⟨cur, hc, hcs⟩ := h.form
 obtain ⟨cur', hc', hs'⟩ := k.ch.form ba h.balt cur _ hc
 refine ⟨⟨hst, h.new, fun j hj => (h.old j hj).step k.lk k.ch.size, ⟨cur', hc', by omega⟩, ((h.old 4 (by omega)).keep k.ch).trans h.c4, ((h.old 2 (by omega)).keep k.ch).trans h.c2, h.hl, own_same h.own (fun A e => k.ch.block A (h.alt A e).2 (fun o => (hA A e o).not)), fun A e => ⟨(h.blk A e).1, (h.blk A e).2.1, fun c e2 => ?_⟩, fun j p t hp ht => ?_⟩, ?_⟩
 ·rcases k.lk.2 A c e2 with ⟨c', e3⟩ | hle
  ·exact (h.blk A e).2.2 c' e3
  have := (h.alt A e).2; omega
 ·refine (h.kids j p t hp ht).frame (fun b o hq => ⟨⟨hq.1.1, hq.1.2.step k.lk k.ch.size⟩, hq.2⟩) (fun b o hq => hq.1.2.keep k.ch)
 refine hl.frame (fun b o hq => ⟨⟨fun ho => hq.1 (ho.step h.st.lk h.st.ch.size), hq.2⟩, ?_, fun e => hq.1 (hA b e.symm o)⟩) (fun b o hq => rfl)
 rintro ⟨rfl, h1, h2⟩
 have := h.old (o - oa) (by omega)
 rw [show oa + (o - oa) = o by omega] at this
 exact hq.1 this
theorem AI.below (h : AI W0 W1 g co Bo n B1 n1 ba oa v ps ts) (hb : Below W1.heap.size W1 W2) : AI W0 W2 g co Bo n B1 n1 ba oa v ps ts := by
 have k : PS W1 W2 g co B1 n1 B1 n1 := (PS.refl h.st.cs).below hb
 have hA : ∀ A, v.ownBlock = some A → ∀ o, Old W1 g B1 (n1 * 5) A o := fun A e o => ⟨(h.alt A e).2, (h.blk A e).1, fun c e2 => absurd e2 ((h.blk A e).2.2 c)⟩
 obtain ⟨cur, hc, hcs⟩ := h.form
 exact ⟨h.st.below hb, h.new, fun j hj => (h.old j hj).step k.lk k.ch.size, ⟨cur, (hb.block ba h.balt).trans hc, hcs⟩, ((h.old 4 (by omega)).keep k.ch).trans h.c4, ((h.old 2 (by omega)).keep k.ch).trans h.c2, h.hl, own_same h.own (fun A e => hb.block A (h.alt A e).2), h.blk, fun j p t hp ht => (h.kids j p t hp ht).frame (fun b o hq => ⟨⟨hq.1.1, hq.1.2.step k.lk k.ch.size⟩, hq.2⟩) (fun b o hq => hq.1.2.keep k.ch)⟩
/-- One element more. -/
theorem AI.push {b o : Nat} {t : FT} (h : AI W0 W1 g co Bo n B1 n1 ba oa v ps ts) (hk : Lies W1 (Kd_ W0 W1 g Bo n B1 n1 ba oa v) b o t)
  (hown : W2.ownsRow W0.heap.size 56 1 v1 (ts.length + 1) (ps.map ptr ++ [ptr (b, o)])) (hg : W1.grownBy W2 v.ownBlock) (hat : v1.ownBlock = v.ownBlock ∨ ∃ A, v1.ownBlock = some A ∧ W1.heap.size ≤ A) :
  AI W0 (W2.setCell ⟨ba, oa + 2, none⟩ v1) g co Bo n B1 n1 ba oa v1 (ps ++ [(b, o)]) (ts ++ [t]) := by
 have hba := h.balt
 have hgl := h.st.cs.glt
 obtain ⟨cur, hc, hcs⟩ := h.form
 have hne : ∀ k, k < W1.heap.size → (some k = v.ownBlock → False) → W2.heap[k]? = W1.heap[k]? := fun k hk hn => hg.block k hk (fun e => hn e)
 have hc2 : W2.heap[ba]? = some (.cells cur 86 (0, 0)) := (hne ba hba (fun e => (h.blk ba e.symm).2.1 rfl)).trans hc
 have hst : PS W0 W2 g co Bo n B1 n1 := h.st.grown hg (fun r e => ⟨(h.alt r e).1, (h.blk r e).1, (h.blk r e).2.2⟩)
 have hold : ∀ b o, Old W1 g B1 (n1 * 5) b o → Old W2 g B1 (n1 * 5) b o := fun b o ho => ho.step (Lk.refl _ _ _) hg.size
 have hst2 := hst.write (h.new 2 (by omega)) (hold _ _ (h.old 2 (by omega))) hc2 v1
 have hset := cell_setCell (b := ba) (o := oa + 2) hc2 v1
 have hsz := (Ch.set (o := oa + 2) hc2 v1).size
 have hv1 : ∀ A, v1.ownBlock = some A → A ≠ g ∧ A ≠ ba ∧ ∀ c, B1 ≠ some (A, c) := fun A e => by
  rcases hat with q | ⟨A', q, hle⟩
  ·exact h.blk A (q ▸ e)
  rw [q] at e
  obtain rfl := Option.some.inj e
  exact ⟨by omega, by omega, fun c e2 => by have := h.st.cs.blt e2; omega⟩
 have hfr : ∀ b o, Kd_ W0 W1 g Bo n B1 n1 ba oa v b o → Kd_ W0 (W2.setCell ⟨ba, oa + 2, none⟩ v1) g Bo n B1 n1 ba oa v1 b o := fun b o hq => by
  refine ⟨⟨hq.1.1, (hold b o hq.1.2).step (Lk.refl _ _ _) hsz⟩, hq.2.1, fun e => ?_⟩
  rcases hat with q | ⟨A', q, hle⟩
  ·exact hq.2.2 (e.trans q)
  rw [q] at e
  obtain rfl := Option.some.inj e
  have := hq.1.2.1
  omega
 have hcl : ∀ b o, Kd_ W0 W1 g Bo n B1 n1 ba oa v b o → (W2.setCell ⟨ba, oa + 2, none⟩ v1).cell? ⟨b, o, none⟩ = W1.cell? ⟨b, o, none⟩ := fun b o hq => by
  rw [hset, if_neg (fun e => hq.2.1 ⟨e.1, by omega, by omega⟩)]
  exact World.cell?_of_block (hne b hq.1.2.1 (fun e => hq.2.2 e))
 refine ⟨hst2, h.new, fun j hj => (hold _ _ (h.old j hj)).step (Lk.refl _ _ _) hsz, ?_, ?_, ?_, by simp [h.hl], ?_, hv1, fun j p t' hp ht => ?_⟩
 ·obtain ⟨cur', e', s'⟩ := (Ch.set (o := oa + 2) hc2 v1).form ba (Array.getElem?_eq_some_iff.1 hc2).1 cur _ hc2
  exact ⟨cur', e', by omega⟩
 ·rw [hset, if_neg (by omega)]
  exact (World.cell?_of_block (hne ba hba (fun e => (h.blk ba e.symm).2.1 rfl))).trans h.c4
 ·rw [hset, if_pos ⟨rfl, rfl, by omega⟩]
 ·have := own_same (W1 := W2.setCell ⟨ba, oa + 2, none⟩ v1) hown (fun A e => by
   rw [setCell_eq_setRow W2 ba (oa + 2) cur _ (0, 0) v1 hc2]
   exact setRow_other _ _ _ _ (hv1 A e).2.1)
  simpa using this
 by_cases hj : j < ps.length
 ·rw [List.getElem?_append_left hj] at hp
  rw [List.getElem?_append_left (by rw [← h.hl]; exact hj)] at ht
  exact (h.kids j p t' hp ht).frame hfr hcl
 rw [List.getElem?_append_right (by omega)] at hp
 rw [List.getElem?_append_right (by rw [← h.hl]; omega)] at ht
 have e1 : j - ps.length = 0 := by
  rcases Nat.eq_zero_or_pos (j - ps.length) with q | q
  ·exact q
  rw [List.getElem?_eq_none (by simp; omega)] at hp; cases hp
 rw [e1] at hp
 rw [← h.hl, e1] at ht
 obtain rfl := Option.some.inj hp
 obtain rfl := Option.some.inj ht
 exact hk.frame hfr hcl
theorem AI.soft (h : AI W0 W g co Bo n B1 n1 ba oa v ps ts) : W.frozen? ⟨ba, oa + 2, none⟩ = false := by
 obtain ⟨cur, e, _⟩ := h.form
 simp [World.frozen?, e]
theorem AI.far (h : AI W0 W g co Bo n B1 n1 ba oa v ps ts) (hg : W.grownBy W2 v.ownBlock) : W2.cell? ⟨ba, oa + 2, none⟩ = some v ∧ W2.frozen? ⟨ba, oa + 2, none⟩ = false := by
 have hb : W2.heap[ba]? = W.heap[ba]? := hg.block ba h.balt (fun e => (h.blk ba e.symm).2.1 rfl)
 exact ⟨(World.cell?_of_block hb).trans h.c2, (World.frozen?_of_block hb).trans h.soft⟩
/-- The array, done. -/
theorem AI.done (h : AI W0 W g co Bo n B1 n1 ba oa v ps ts) : Lies W (Nw W0 W g Bo n B1 n1) ba oa (.mk 2 ByteArray.empty [] ts) := by
 have hnw : ∀ j, j < 5 → Nw W0 W g Bo n B1 n1 ba (oa + j) := fun j hj => ⟨h.new j hj, h.old j hj⟩
 have hv : ∃ ad, ((v = .slice none 0 0 ∧ ts = []) ∨ ∃ c, v = .slice (some ⟨ad, 0, none⟩) ts.length c) ∧ (∀ (j : Nat) (p : Nat × Nat), ps[j]? = some p → W.cell? ⟨ad, j, none⟩ = some (.pointer (some ⟨p.1, p.2, none⟩)) ∧ Nw W0 W g Bo n B1 n1 ad j) := by
  rcases h.own.2 with ⟨e, e2⟩ | ⟨A, cap, cur, e, hb, hh, hnc, hcm, hcs, htk⟩
  ·have : ts = [] := List.eq_nil_of_length_eq_zero e2
   have hp0 : ps = [] := List.eq_nil_of_length_eq_zero (h.hl.trans e2)
   subst hp0
   exact ⟨0, .inl ⟨e, this⟩, fun j p hp => by simp at hp⟩
  refine ⟨A, .inr ⟨cap, e⟩, fun j p hp => ?_⟩
  have hA := h.alt A (by rw [e]; rfl)
  have hB := h.blk A (by rw [e]; rfl)
  have hj : j < ps.length := (List.getElem?_eq_some_iff.1 hp).1
  refine ⟨?_, fun ho => by have := ho.1; omega, hA.2, hB.1, fun c e2 => absurd e2 (hB.2.2 c)⟩
  rw [cell_of_row W A j cur _ (0, 0) hh]
  have hx := congrArg (fun l => l[j]?) htk
  simp only [List.getElem?_take_of_lt (show j < ts.length * 1 by rw [← h.hl]; omega), List.getElem?_map, hp, Option.map_some, Array.getElem?_toList] at hx
  exact hx
 obtain ⟨ad, hv, he⟩ := hv
 exact .arr h.c4 (hnw 4 (by omega)) h.c2 (hnw 2 (by omega)) hv h.hl he (fun j p t hp ht => (h.kids j p t hp ht).frame (fun b o hq => hq.1) (fun _ _ _ => rfl))
end
end Go.Proofs.YtnajijaachgipaaDoor.H
end
section
namespace Go.Proofs.YtnajijaachgipaaDoor.PR
open Go.RowKit Go.Proofs.YtnajijaachgipaaDoorW.PrintWords Go.Proofs.YtnajijaachgipaaDoorW.PrintLast Go.Proofs.YtnajijaachgipaaDoorW.PrintMore Go.Proofs.YtnajijaachgipaaDoor.H
set_option linter.unusedVariables false
set_option linter.unusedSimpArgs false
namespace FJ
theorem sk_calls {k : Nat} {s t : ByteArray} (h : sk k s = some t) (w : World) : Calls Tryd.prog 47 #[.string s] w fun e w' => e = .returned (.string t) ∧ ∃ m, w' = w.drewN m := by
 obtain ⟨q, hq, hx⟩ := Option.bind_eq_some_iff.mp h
 split at hx
 ·obtain rfl := Option.some.inj hx
  exact (fastjson_skipWS.calls k s q w hq).mono fun e w' ⟨he, m, hm⟩ => ⟨he, m, hm⟩
 cases hx
theorem sk_size {k : Nat} {s t : ByteArray} (h : sk k s = some t) : t.size ≤ s.size := by
 obtain ⟨q, hq, hx⟩ := Option.bind_eq_some_iff.mp h
 split at hx
 ·rename_i hc; obtain rfl := Option.some.inj hx; exact hc
 cases hx
theorem ptr_one (p : Nat × Nat) : ∀ u ∈ [ptr p], u.oneCell' = true := by
 intro u hu
 simp only [List.mem_singleton] at hu
 subst hu
 rfl
theorem info_ptr : (Tryd.prog.info? 56).map (fun i => (i.zero, i.size, i.bytes)) = some (some (.pointer none), 1, 8) := by kernel_rfl
theorem own_slice {w : World} {base e m : Nat} {v : Value} {xs : List Value} (h : w.ownsRow base e 1 v (m + 1) xs) : ∃ A c : Nat, v = .slice (some ⟨A, 0, none⟩) (m + 1) c := by
 rcases h.2 with ⟨_, e⟩ | ⟨A, c, _, e, _⟩
 ·omega
 exact ⟨A, c, e⟩
theorem drN (W : World) (m : Nat) : Below W.heap.size W (W.drewN m) := pw_below_drewN (Below.refl _ _) m
set_option maxHeartbeats 2000000 in
set_option maxRecDepth 100000 in
theorem arr_empty (k : Nat) (s t : ByteArray) (d : Int) (hs : sk k s = some t) (h : t.size = 0) (W : World) (g co : Nat) (Bo : Option (Nat × Nat)) (n m : Nat) :
  Calls Tryd.prog 72 #[.pointer (some ⟨g, co, none⟩), .string s, .int .i64 d] W (Post W g co Bo n m none) := by
 have e0 : ((t.size : Int) == 0) = true := beq_iff_eq.2 (by omega)
 have HS := Aside0.mk hs
 clear hs
 go_enter Tryd.func72, Tryd.ntmps72
 go_wp2_with (first
  | (go_at_call 47; with_reducible refine (sk_calls HS.out _).mono ?_; rintro e w1 ⟨rfl, m1, rfl⟩; have HB := Aside0.mk (drN W m1))
  | (go_at_call 41; refine (errNew _ _).mono ?_; rintro e w2 ⟨et, ep, rfl, hb⟩))
 go_ret3
 exact Post.err (Ch.of_below (HB.out.trans (hb.mono HB.out.size)) _)
/-- The cells of a new Value that an array's beginning touches. -/
theorem newv_arr {W W1 : World} {g co n B c : Nat} {Bo : Option (Nat × Nat)} (h : NewV zc 86 W W1 g co Bo n B c) : W1.cell? ⟨B, n * 5 + 4, none⟩ = some (.int .i64 0) ∧ W1.frozen? ⟨B, n * 5 + 4, none⟩ = false ∧ W1.cell? ⟨B, n * 5 + 2, none⟩ = some (.slice none 0 0) ∧ W1.frozen? ⟨B, n * 5 + 2, none⟩ = false ∧ B < W1.heap.size := by
 obtain ⟨cur, hc, _⟩ := h.form
 exact ⟨h.zero 4 _ rfl, by simp [World.frozen?, hc], h.zero 2 _ rfl, by simp [World.frozen?, hc], h.st.blt rfl⟩
/-- An array that has just begun. -/
theorem AI.begin {W W1 W2 : World} {g co n n1 B c : Nat} {Bo B1 : Option (Nat × Nat)} (h0 : PS W W1 g co Bo n B1 n1) (h : NewV zc 86 W1 W2 g co B1 n1 B c) :
  AI W ((W2.setCell ⟨B, n1 * 5 + 4, none⟩ (.int .i64 2)).setCell ⟨B, n1 * 5 + 2, none⟩ (.slice none 0 0)) g co Bo n (some (B, c)) (n1 + 1) B (n1 * 5) (.slice none 0 0) [] [] := by
 obtain ⟨cur, hc, hcs⟩ := h.form
 have a0 := h0.new h
 have no : ∀ j, j < 5 → ¬ Old W g Bo (n * 5) B (n1 * 5 + j) := fun j hj ho => (h.old hj).1 (ho.step h0.lk h0.ch.size)
 have a1 := a0.write (no 4 (by omega)) (h.old (by omega)).2 hc (.int .i64 2)
 have c1 := Ch.set (o := n1 * 5 + 4) hc (.int .i64 2)
 obtain ⟨cur2, hc2, hs2⟩ := c1.form B (h.st.blt rfl) cur _ hc
 have a2 := a1.write (no 2 (by omega)) ((h.old (j := 2) (by omega)).2.step (Lk.refl _ _ _) c1.size) hc2 (.slice none 0 0)
 have c2 := Ch.set (o := n1 * 5 + 2) hc2 (.slice none 0 0)
 obtain ⟨cur3, hc3, hs3⟩ := c2.form B (Array.getElem?_eq_some_iff.1 hc2).1 cur2 _ hc2
 refine ⟨a2, no, fun j hj => ((h.old hj).2.step (Lk.refl _ _ _) c1.size).step (Lk.refl _ _ _) c2.size, ⟨cur3, hc3, by have := hcs 4 (by omega); omega⟩, ?_, ?_, rfl, World.ownsRow_nil _ _ _ _, fun A e => (by cases e), fun j p t hp _ => (by simp at hp)⟩
 ·rw [cell_setCell hc2, if_neg (by omega), cell_setCell hc, if_pos ⟨rfl, rfl, hcs 4 (by omega)⟩]
 rw [cell_setCell hc2, if_pos ⟨rfl, rfl, by rw [hs2]; exact hcs 2 (by omega)⟩]
set_option maxHeartbeats 2000000 in
set_option maxRecDepth 100000 in
theorem arr_nil (k : Nat) (s t : ByteArray) (d : Int) (hs : sk k s = some t) (h : t.size ≠ 0) (hc : bt t 0 = 93) (W : World) (g co : Nat) (Bo : Option (Nat × Nat)) (n : Nat) (hC : CS zc 86 W g co Bo n) (hn : n ≤ 200000) :
  Calls Tryd.prog 72 #[.pointer (some ⟨g, co, none⟩), .string s, .int .i64 d] W (Post W g co Bo n (n + s.size + 1) (some (.mk 2 ByteArray.empty [] [], rest t 1))) := by
 obtain ⟨e0, e1, e2, e3, e4⟩ := nul h
 have k1 : (bt t 0 == 93) = true := beq_iff_eq.2 hc
 have hcs := cutr t 1 1 rfl (by omega)
 have hsz : n + 1 + (rest t 1).size ≤ n + s.size + 1 := by have := sk_size hs; rw [size_rest]; omega
 have HZ := Aside0.mk hsz
 have HS := Aside0.mk hs
 have HC := Aside0.mk hC
 have HN : Aside0 (n ≤ 1000000) := ⟨by omega⟩
 clear hs hC hc hn hsz
 obtain ⟨q, hq⟩ : ∃ q, q = n * 5 := ⟨_, rfl⟩
 have HQ := Aside0.mk hq
 clear hq
 go_enter Tryd.func72, Tryd.ntmps72
 go_wp2_with (first
  | (go_at_call 47; with_reducible refine (sk_calls HS.out _).mono ?_; rintro e w1 ⟨rfl, m1, rfl⟩; have HP := Aside0.mk ((PS.refl HC.out).below (drN W m1)))
  | (go_at_call 39; refine (getV g co n Bo _ HP.out.cs HN.out).mono ?_; rintro e w2 ⟨B, c, rfl, hv⟩; have HV := Aside0.mk hv; obtain ⟨c4, f4, c2, f2, hlt⟩ := newv_arr hv; clear hv; rw [← HQ.out] at c4 f4 c2 f2 ⊢))
 go_quiet (fail)
 go_wp2
 go_ret3
 have ha := (AI.begin HP.out HV.out).below (drN _ nq)
 rw [← HQ.out] at ha
 exact ⟨B, q, _, _, rfl, ha.st, HZ.out, ha.done⟩
structure LI (W wr : World) (g co : Nat) (Bo : Option (Nat × Nat)) (n ba oa m : Nat) (d : Int) (r : Res) (K kq : Nat) (s : ByteArray) (B1 : Option (Nat × Nat)) (n1 : Nat) (v : Value) (ps : List (Nat × Nat)) (ts : List FT) : Prop where
 ai : AI W wr g co Bo n B1 n1 ba oa v ps ts
 go : pAl kq s d ts = some r
 sz : n1 + s.size ≤ m
 le : kq ≤ K
 ln : ts.length + s.size ≤ m
set_option maxHeartbeats 4000000 in
set_option maxRecDepth 100000 in
theorem arr_loop (k K : Nat) (V : ∀ j, j < K → VC j) (s t : ByteArray) (d : Int) (hd0 : 1 ≤ d) (hd1 : d ≤ 300) (hs : sk k s = some t) (h : t.size ≠ 0) (hc : ¬ bt t 0 = 93) (r : Res) (hr : pAl K t d [] = some r) (W : World) (g co : Nat) (Bo : Option (Nat × Nat)) (n : Nat) (hC : CS zc 86 W g co Bo n) (hn : n + s.size + 1 ≤ 200000) :
  Calls Tryd.prog 72 #[.pointer (some ⟨g, co, none⟩), .string s, .int .i64 d] W (Post W g co Bo n (n + s.size + 1) r) := by
 obtain ⟨e0, e1, e2, e3, e4⟩ := nul h
 have k1 : (bt t 0 == 93) = false := beq_eq_false_iff_ne.2 hc
 have hsz : n + 1 + t.size ≤ n + s.size + 1 := by have := sk_size hs; omega
 obtain ⟨m, hm⟩ : ∃ m, m = n + s.size + 1 := ⟨_, rfl⟩
 rw [← hm]
 rw [← hm] at hsz
 have HM : Aside0 (m ≤ 200000) := ⟨by omega⟩
 have HZ := Aside0.mk hsz
 have HS := Aside0.mk hs
 have HC := Aside0.mk hC
 have HN : Aside0 (n ≤ 1000000) := ⟨by omega⟩
 have HR := Aside0.mk hr
 have HV := Aside0.mk V
 have HD : Aside0 (0 ≤ d ∧ d ≤ 300) := ⟨by omega⟩
 clear hs hC hc hn hsz hr V hd0 hd1 hm
 obtain ⟨q, hq⟩ : ∃ q, q = n * 5 := ⟨_, rfl⟩
 have HQ := Aside0.mk hq
 clear hq
 go_enter Tryd.func72, Tryd.ntmps72
 go_wp2_with (first
  | (go_at_call 47; with_reducible refine (sk_calls HS.out _).mono ?_; rintro e w1 ⟨rfl, m1, rfl⟩; have HP := Aside0.mk ((PS.refl HC.out).below (drN W m1)))
  | (go_at_call 39; refine (getV g co n Bo _ HP.out.cs HN.out).mono ?_; rintro e w2 ⟨B, c, rfl, hv⟩; have HW := Aside0.mk hv; obtain ⟨c4, f4, c2, f2, hlt⟩ := newv_arr hv; clear hv; rw [← HQ.out] at c4 f4 c2 f2 ⊢))
 have ha := AI.begin HP.out HW.out
 rw [← HQ.out] at ha
 have HL := Aside0.mk (show LI W _ g co Bo n B q m d r K K t (some (B, c)) (n + 1) (.slice none 0 0) [] [] from ⟨ha, HR.out, HZ.out, Nat.le_refl _, by have := HZ.out; simp; omega⟩)
 clear ha c4 f4 c2 f2 HP HW HR HS
 go_loopg [1] K (fun kq v1 wr => ∃ (s' : ByteArray) (B1 : Option (Nat × Nat)) (n1 : Nat) (v : Value) (ps : List (Nat × Nat)) (ts : List FT), v1 = .string s' ∧ Aside0 (LI W wr g co Bo n B q m d r K kq s' B1 n1 v ps ts))
 case atStart => exact ⟨t, _, _, _, _, _, rfl, HL⟩
 case round =>
  clear HL
  obtain ⟨s', B1, n1, v, ps, ts, rfl, HL⟩ := hrel
  obtain ⟨hai, hgo, hsz, hle, hln⟩ := HL.out
  clear HL
  cases gk with
  | zero => cases hgo
  | succ j =>
  unfold pAl at hgo
  obtain ⟨s1, h1, hx⟩ := Option.bind_eq_some_iff.mp hgo
  obtain ⟨z, h2, hx⟩ := Option.bind_eq_some_iff.mp hx
  clear hgo
  have hz1 := sk_size h1
  have HA := Aside0.mk hai
  have H1 := Aside0.mk h1
  have HVC := Aside0.mk (fun W' B1 n1 hC hn => HV.out j (by omega) s1 d z h2 HD.out.1 HD.out.2 W' g co B1 n1 hC hn)
  cases z with
  | none =>
   obtain rfl := Option.some.inj hx
   have hn1 : n1 + s1.size ≤ 200000 := by have := HM.out; omega
   clear hai h1 h2 hx
   go_wp2_with (first
    | (go_at_call 47; with_reducible refine (sk_calls H1.out _).mono ?_; rintro e w3 ⟨rfl, m2, rfl⟩; have HA1 := Aside0.mk (HA.out.below (drN wr m2)))
    | (go_at_call 49; refine (HVC.out _ _ _ HA1.out.st.cs hn1).mono ?_; rintro e w4 ⟨t1, et, ep, rfl, hch⟩; have HB := Aside0.mk (HA1.out.st.ch.comp hch HA1.out.st.lk.sub); clear hch)
    | (go_at_call 41; refine (errNew _ _).mono ?_; rintro e w5 ⟨et2, ep2, rfl, hb2⟩))
   go_ret3
   exact Post.err (HB.out.comp (Ch.of_below hb2 (fun _ _ => False)) (fun _ _ _ h => h.elim))
  | some x =>
   obtain ⟨tx, sx⟩ := x
   obtain ⟨s2, h3, hx⟩ := Option.bind_eq_some_iff.mp hx
   have H3 := Aside0.mk h3
   have hz3 := sk_size h3
   have hn1 : n1 + s1.size ≤ 200000 := by have := HM.out; omega
   have hl8 : (ts.length + 1) * 8 ≤ 140737488355328 := by have := HM.out; omega
   have HZZ : Aside0 (s2.size ≤ sx.size ∧ s1.size ≤ s'.size ∧ n1 + s'.size ≤ m ∧ ts.length + s'.size ≤ m ∧ j + 1 ≤ K) := ⟨hz3, hz1, hsz, hln, hle⟩
   clear hai h1 h2 h3 hz3 hz1 hsz hln hle
   by_cases y0 : s2.size = 0
   ·rw [if_pos y0] at hx
    obtain rfl := Option.some.inj hx
    have y1 : ((s2.size : Int) == 0) = true := beq_iff_eq.2 (by omega)
    clear hx y0
    go_wp2_with (first
     | (go_at_call 47; with_reducible refine (sk_calls H1.out _).mono ?_; rintro e w3 ⟨rfl, m2, rfl⟩; have HA1 := Aside0.mk (HA.out.below (drN wr m2)))
     | (go_at_call 49; refine (HVC.out _ _ _ HA1.out.st.cs hn1).mono ?_; rintro e w4 ⟨b, o, B2, n2, rfl, hps, hsz2, hlies⟩; have HA2 := Aside0.mk (HA1.out.child hps hlies); have HS2 : Aside0 (n2 + sx.size ≤ n1 + s1.size ∧ n1 ≤ n2) := ⟨hsz2, (by have := hps.lk.1; omega)⟩; have c2 := HA2.out.1.c2; have f2 := HA2.out.1.soft; have hqlt := HA2.out.1.balt; clear hps hsz2 hlies)
     | (at_builtin; refine print_append_cells W.heap.size rfl (.tmp 70) (.tmp 72) 84 56 (.pointer none) 1 8 rfl Tryd.underlying84 info_ptr rfl (by omega) (by omega) v ts.length (ps.map ptr) [ptr (b, o)] rfl rfl rfl (ptr_one _) HA2.out.1.own (Below.refl _ _) HA2.out.1.st.ch.size hl8 ?_; intro v1 w5 hown hb hg hat; obtain ⟨A1, cp1, rfl⟩ := own_slice hown; have HA3 := Aside0.mk (HA2.out.1.push HA2.out.2 hown hg hat); obtain ⟨c2b, f2b⟩ := HA2.out.1.far hg; have hlt5 : B < w5.heap.size := Nat.lt_of_lt_of_le hqlt hg.size; clear hown hb hg hat c2 f2)
     | (go_at_call 47; with_reducible refine (sk_calls H3.out _).mono ?_; rintro e w6 ⟨rfl, m3, rfl⟩; have HA4 := Aside0.mk (HA3.out.below (drN _ m3)))
     | (go_at_call 41; refine (errNew _ _).mono ?_; rintro e w7 ⟨et, ep, rfl, hb7⟩))
    go_ret3
    exact Post.err (HA4.out.st.ch.comp (Ch.of_below hb7 (fun _ _ => False)) (fun _ _ _ h => h.elim))
   rw [if_neg y0] at hx
   obtain ⟨y1, y2, y3, y4, y5⟩ := nul y0
   have hcs := cutr s2 1 1 rfl (by omega)
   by_cases y6 : bt s2 0 = 44
   ·rw [if_pos y6] at hx
    have y7 : (bt s2 0 == 44) = true := beq_iff_eq.2 y6
    have HX := Aside0.mk hx
    have Y0 := Aside0.mk y0
    clear hx y6 y0
    go_wp2_with (first
     | (go_at_call 47; with_reducible refine (sk_calls H1.out _).mono ?_; rintro e w3 ⟨rfl, m2, rfl⟩; have HA1 := Aside0.mk (HA.out.below (drN wr m2)))
     | (go_at_call 49; refine (HVC.out _ _ _ HA1.out.st.cs hn1).mono ?_; rintro e w4 ⟨b, o, B2, n2, rfl, hps, hsz2, hlies⟩; have HA2 := Aside0.mk (HA1.out.child hps hlies); have HS2 : Aside0 (n2 + sx.size ≤ n1 + s1.size ∧ n1 ≤ n2) := ⟨hsz2, (by have := hps.lk.1; omega)⟩; have c2 := HA2.out.1.c2; have f2 := HA2.out.1.soft; have hqlt := HA2.out.1.balt; clear hps hsz2 hlies)
     | (at_builtin; refine print_append_cells W.heap.size rfl (.tmp 70) (.tmp 72) 84 56 (.pointer none) 1 8 rfl Tryd.underlying84 info_ptr rfl (by omega) (by omega) v ts.length (ps.map ptr) [ptr (b, o)] rfl rfl rfl (ptr_one _) HA2.out.1.own (Below.refl _ _) HA2.out.1.st.ch.size hl8 ?_; intro v1 w5 hown hb hg hat; obtain ⟨A1, cp1, rfl⟩ := own_slice hown; have HA3 := Aside0.mk (HA2.out.1.push HA2.out.2 hown hg hat); obtain ⟨c2b, f2b⟩ := HA2.out.1.far hg; have hlt5 : B < w5.heap.size := Nat.lt_of_lt_of_le hqlt hg.size; clear hown hb hg hat c2 f2)
     | (go_at_call 47; with_reducible refine (sk_calls H3.out _).mono ?_; rintro e w6 ⟨rfl, m3, rfl⟩; have HA4 := Aside0.mk (HA3.out.below (drN _ m3)))
     | (go_at_call 41; refine (errNew _ _).mono ?_; rintro e w7 ⟨et, ep, rfl, hb7⟩))
    go_roundg j
    case measure => omega
    case rel =>
     refine ⟨rest s2 1, _, _, _, _, _, rfl, ⟨⟨HA4.out, HX.out, ?_, ?_, ?_⟩⟩⟩
     ·have := HZZ.out; have := HS2.out; rw [size_rest]; omega
     ·have := HZZ.out; omega
     have := HZZ.out; have := HS2.out; have := Y0.out; rw [size_rest, List.length_append]; simp; omega
   rw [if_neg y6] at hx
   have y7 : (bt s2 0 == 44) = false := beq_eq_false_iff_ne.2 y6
   by_cases y8 : bt s2 0 = 93
   ·rw [if_pos y8] at hx
    obtain rfl := Option.some.inj hx
    have y9 : (bt s2 0 == 93) = true := beq_iff_eq.2 y8
    clear hx y6 y8 y0
    go_wp2_with (first
     | (go_at_call 47; with_reducible refine (sk_calls H1.out _).mono ?_; rintro e w3 ⟨rfl, m2, rfl⟩; have HA1 := Aside0.mk (HA.out.below (drN wr m2)))
     | (go_at_call 49; refine (HVC.out _ _ _ HA1.out.st.cs hn1).mono ?_; rintro e w4 ⟨b, o, B2, n2, rfl, hps, hsz2, hlies⟩; have HA2 := Aside0.mk (HA1.out.child hps hlies); have HS2 : Aside0 (n2 + sx.size ≤ n1 + s1.size ∧ n1 ≤ n2) := ⟨hsz2, (by have := hps.lk.1; omega)⟩; have c2 := HA2.out.1.c2; have f2 := HA2.out.1.soft; have hqlt := HA2.out.1.balt; clear hps hsz2 hlies)
     | (at_builtin; refine print_append_cells W.heap.size rfl (.tmp 70) (.tmp 72) 84 56 (.pointer none) 1 8 rfl Tryd.underlying84 info_ptr rfl (by omega) (by omega) v ts.length (ps.map ptr) [ptr (b, o)] rfl rfl rfl (ptr_one _) HA2.out.1.own (Below.refl _ _) HA2.out.1.st.ch.size hl8 ?_; intro v1 w5 hown hb hg hat; obtain ⟨A1, cp1, rfl⟩ := own_slice hown; have HA3 := Aside0.mk (HA2.out.1.push HA2.out.2 hown hg hat); obtain ⟨c2b, f2b⟩ := HA2.out.1.far hg; have hlt5 : B < w5.heap.size := Nat.lt_of_lt_of_le hqlt hg.size; clear hown hb hg hat c2 f2)
     | (go_at_call 47; with_reducible refine (sk_calls H3.out _).mono ?_; rintro e w6 ⟨rfl, m3, rfl⟩; have HA4 := Aside0.mk (HA3.out.below (drN _ m3)))
     | (go_at_call 41; refine (errNew _ _).mono ?_; rintro e w7 ⟨et, ep, rfl, hb7⟩))
    go_ret3
    exact ⟨B, q, _, _, rfl, HA4.out.st, (by have := HZZ.out; have := HS2.out; show _ + (rest s2 1).size ≤ _; rw [size_rest]; omega), HA4.out.done⟩
   rw [if_neg y8] at hx
   obtain rfl := Option.some.inj hx
   have y9 : (bt s2 0 == 93) = false := beq_eq_false_iff_ne.2 y8
   clear hx y6 y8 y0
   go_wp2_with (first
     | (go_at_call 47; with_reducible refine (sk_calls H1.out _).mono ?_; rintro e w3 ⟨rfl, m2, rfl⟩; have HA1 := Aside0.mk (HA.out.below (drN wr m2)))
     | (go_at_call 49; refine (HVC.out _ _ _ HA1.out.st.cs hn1).mono ?_; rintro e w4 ⟨b, o, B2, n2, rfl, hps, hsz2, hlies⟩; have HA2 := Aside0.mk (HA1.out.child hps hlies); have HS2 : Aside0 (n2 + sx.size ≤ n1 + s1.size ∧ n1 ≤ n2) := ⟨hsz2, (by have := hps.lk.1; omega)⟩; have c2 := HA2.out.1.c2; have f2 := HA2.out.1.soft; have hqlt := HA2.out.1.balt; clear hps hsz2 hlies)
     | (at_builtin; refine print_append_cells W.heap.size rfl (.tmp 70) (.tmp 72) 84 56 (.pointer none) 1 8 rfl Tryd.underlying84 info_ptr rfl (by omega) (by omega) v ts.length (ps.map ptr) [ptr (b, o)] rfl rfl rfl (ptr_one _) HA2.out.1.own (Below.refl _ _) HA2.out.1.st.ch.size hl8 ?_; intro v1 w5 hown hb hg hat; obtain ⟨A1, cp1, rfl⟩ := own_slice hown; have HA3 := Aside0.mk (HA2.out.1.push HA2.out.2 hown hg hat); obtain ⟨c2b, f2b⟩ := HA2.out.1.far hg; have hlt5 : B < w5.heap.size := Nat.lt_of_lt_of_le hqlt hg.size; clear hown hb hg hat c2 f2)
     | (go_at_call 47; with_reducible refine (sk_calls H3.out _).mono ?_; rintro e w6 ⟨rfl, m3, rfl⟩; have HA4 := Aside0.mk (HA3.out.below (drN _ m3)))
     | (go_at_call 41; refine (errNew _ _).mono ?_; rintro e w7 ⟨et, ep, rfl, hb7⟩))
   go_ret3
   exact Post.err (HA4.out.st.ch.comp (Ch.of_below hb7 (fun _ _ => False)) (fun _ _ _ h => h.elim))
theorem arr_all (k : Nat) (V : ∀ j, j < k → VC j) : AC k := by
 intro s d r h hd0 hd1 W g co Bo n hC hn
 cases k with
 | zero => cases h
 | succ k =>
 unfold pA at h
 obtain ⟨t, hs, hx⟩ := Option.bind_eq_some_iff.mp h
 by_cases y0 : t.size = 0
 ·rw [if_pos y0] at hx
  obtain rfl := Option.some.inj hx
  exact arr_empty k s t d hs y0 W g co Bo n _
 rw [if_neg y0] at hx
 by_cases y1 : bt t 0 = 93
 ·rw [if_pos y1] at hx
  obtain rfl := Option.some.inj hx
  exact arr_nil k s t d hs y0 y1 W g co Bo n hC (by omega)
 rw [if_neg y1] at hx
 exact arr_loop k k (fun j hj => V j (by omega)) s t d hd0 hd1 hs y0 y1 r hx W g co Bo n hC hn
end FJ
end Go.Proofs.YtnajijaachgipaaDoor.PR
end
section
namespace Go.Proofs.YtnajijaachgipaaDoor.H
open Go.RowKit Go.Proofs.YtnajijaachgipaaDoorW.PrintWords Go.Proofs.YtnajijaachgipaaDoorW.PrintLast Go.Proofs.YtnajijaachgipaaDoorW.PrintMore
set_option linter.unusedVariables false
theorem clearNil (W : World) : (Builtin.clear_ #[81] 0 #[.slice none 0 0]).run Tryd.prog W = .ok (.tuple #[]) W := by
 simp [Builtin.clear_, run_underlying Tryd.underlying81]
set_option maxHeartbeats 1000000 in
set_option maxRecDepth 100000 in
theorem objReset (b o : Nat) (W : World) (hlt : b < W.heap.size) (c0 : W.cell? ⟨b, o, none⟩ = some (.slice none 0 0)) (f0 : W.frozen? ⟨b, o, none⟩ = false) (c1 : W.cell? ⟨b, o + 1, none⟩ = some (.bool false)) (f1 : W.frozen? ⟨b, o + 1, none⟩ = false) :
  Calls Tryd.prog 93 #[.pointer (some ⟨b, o, none⟩)] W fun e W' => e = .returned (.tuple #[]) ∧ W' = (W.setCell ⟨b, o, none⟩ (.slice none 0 0)).setCell ⟨b, o + 1, none⟩ (.bool false) := by
 go_enter Tryd.func93, Tryd.ntmps93
 have hcl := clearNil
 go_wp2
 first | go_end0 | ((try simp only [Exit.inBlock, Exit.then]); refine bodyPost_ret (results_none rfl _ _ _) rfl ?_)
 exact ⟨rfl, rfl⟩
/-- Where the members' trees may lie. -/
def Ko_ (W0 W : World) (g : Nat) (Bo : Option (Nat × Nat)) (n : Nat) (B1 : Option (Nat × Nat)) (n1 ba oa : Nat) (Ko : Option (Nat × Nat)) (b o : Nat) : Prop := Nw W0 W g Bo n B1 n1 b o ∧ ¬ (b = ba ∧ oa ≤ o ∧ o < oa + 5) ∧ ∀ c, Ko ≠ some (b, c)
/-- An object in the making: m members have room, of which the first are read. -/
structure OI (W0 W : World) (g co : Nat) (Bo : Option (Nat × Nat)) (n : Nat) (B1 : Option (Nat × Nat)) (n1 ba oa : Nat) (Ko : Option (Nat × Nat)) (m : Nat) (ks : List ByteArray) (ps : List (Nat × Nat)) (ts : List FT) : Prop where
 st : PS W0 W g co Bo n B1 n1
 new : ∀ j, j < 5 → ¬ Old W0 g Bo (n * 5) ba (oa + j)
 old : ∀ j, j < 5 → Old W g B1 (n1 * 5) ba (oa + j)
 form : ∃ cur, W.heap[ba]? = some (.cells cur 86 (0, 0)) ∧ oa + 5 ≤ cur.size
 c4 : W.cell? ⟨ba, oa + 4, none⟩ = some (.int .i64 1)
 c1 : W.cell? ⟨ba, oa + 1, none⟩ = some (.bool false)
 kv : CS zk 108 W ba oa Ko m
 blk : ∀ K c, Ko = some (K, c) → W0.heap.size ≤ K ∧ K ≠ g ∧ ∀ c', B1 ≠ some (K, c')
 hl : ps.length = ts.length
 hm : ts.length ≤ m
 hk : ks.length ≤ m
 keys : ∀ (j : Nat) (k : ByteArray), ks[j]? = some k → ∀ K c, Ko = some (K, c) → W.cell? ⟨K, j * 2, none⟩ = some (.string k)
 vals : ∀ (j : Nat) (p : Nat × Nat), ps[j]? = some p → ∀ K c, Ko = some (K, c) → W.cell? ⟨K, j * 2 + 1, none⟩ = some (ptr p)
 kids : ∀ (j : Nat) (p : Nat × Nat) (t : FT), ps[j]? = some p → ts[j]? = some t → Lies W (Ko_ W0 W g Bo n B1 n1 ba oa Ko) p.1 p.2 t
section
variable {W W0 W1 W2 : World} {g co n n1 n2 ba oa m : Nat} {Bo B1 B2 Ko : Option (Nat × Nat)} {ks : List ByteArray} {ps : List (Nat × Nat)} {ts : List FT}
theorem OI.balt (h : OI W0 W g co Bo n B1 n1 ba oa Ko m ks ps ts) : ba < W.heap.size := h.kv.glt
theorem OI.kold (h : OI W0 W g co Bo n B1 n1 ba oa Ko m ks ps ts) {K c : Nat} (e : Ko = some (K, c)) (o : Nat) : Old W g B1 (n1 * 5) K o := ⟨h.kv.blt e, (h.blk K c e).2.1, fun c' e2 => absurd e2 ((h.blk K c e).2.2 c')⟩
theorem OI.child {b o : Nat} {t : FT} (h : OI W0 W1 g co Bo n B1 n1 ba oa Ko m ks ps ts) (k : PS W1 W2 g co B1 n1 B2 n2) (hl : Lies W2 (Nw W1 W2 g B1 n1 B2 n2) b o t) :
  OI W0 W2 g co Bo n B2 n2 ba oa Ko m ks ps ts ∧ Lies W2 (Ko_ W0 W2 g Bo n B2 n2 ba oa Ko) b o t := by
 obtain ⟨cur, hc, hcs⟩ := h.form
 obtain ⟨cur', hc', hs'⟩ := k.ch.form ba h.balt cur _ hc
 refine ⟨⟨h.st.trans k, h.new, fun j hj => (h.old j hj).step k.lk k.ch.size, ⟨cur', hc', by omega⟩, ((h.old 4 (by omega)).keep k.ch).trans h.c4, ((h.old 1 (by omega)).keep k.ch).trans h.c1, ?_, fun K c e => ⟨(h.blk K c e).1, (h.blk K c e).2.1, fun c' e2 => ?_⟩, h.hl, h.hm, h.hk, fun j x hx K c e => ((h.kold e _).keep k.ch).trans (h.keys j x hx K c e), fun j x hx K c e => ((h.kold e _).keep k.ch).trans (h.vals j x hx K c e), fun j p t hp ht => ?_⟩, ?_⟩
 ·exact h.kv.ch k.ch (by have := (h.old 0 (by omega)).not (co := co); simpa using this) (fun K c e p _ => (h.kold e p).not)
 ·rcases k.lk.2 K c' e2 with ⟨c2, e3⟩ | hle
  ·exact (h.blk K c e).2.2 c2 e3
  have := h.kv.blt e; omega
 ·exact (h.kids j p t hp ht).frame (fun b o hq => ⟨⟨hq.1.1, hq.1.2.step k.lk k.ch.size⟩, hq.2⟩) (fun b o hq => hq.1.2.keep k.ch)
 refine hl.frame (fun b o hq => ⟨⟨fun ho => hq.1 (ho.step h.st.lk h.st.ch.size), hq.2⟩, ?_, fun c e => hq.1 (h.kold e o)⟩) (fun b o hq => rfl)
 rintro ⟨rfl, h1, h2⟩
 have := h.old (o - oa) (by omega)
 rw [show oa + (o - oa) = o by omega] at this
 exact hq.1 this
theorem OI.below (h : OI W0 W1 g co Bo n B1 n1 ba oa Ko m ks ps ts) (hb : Below W1.heap.size W1 W2) : OI W0 W2 g co Bo n B1 n1 ba oa Ko m ks ps ts := by
 have k : PS W1 W2 g co B1 n1 B1 n1 := (PS.refl h.st.cs).below hb
 obtain ⟨cur, hc, hcs⟩ := h.form
 exact ⟨h.st.below hb, h.new, fun j hj => (h.old j hj).step k.lk k.ch.size, ⟨cur, (hb.block ba h.balt).trans hc, hcs⟩, ((h.old 4 (by omega)).keep k.ch).trans h.c4, ((h.old 1 (by omega)).keep k.ch).trans h.c1, h.kv.ch (Ch.of_below hb (fun _ _ => False)) id (fun _ _ _ _ _ => id), h.blk, h.hl, h.hm, h.hk, fun j x hx K c e => ((h.kold e _).keep k.ch).trans (h.keys j x hx K c e), fun j x hx K c e => ((h.kold e _).keep k.ch).trans (h.vals j x hx K c e), fun j p t hp ht => (h.kids j p t hp ht).frame (fun b o hq => ⟨⟨hq.1.1, hq.1.2.step k.lk k.ch.size⟩, hq.2⟩) (fun b o hq => hq.1.2.keep k.ch)⟩
theorem OI.hfar (h : OI W0 W1 g co Bo n B1 n1 ba oa Ko m ks ps ts) : ¬ SK ba oa Ko (m * zk.size) g co ∧ (∀ B c, B1 = some (B, c) → ∀ p, n1 * zc.size ≤ p → ¬ SK ba oa Ko (m * zk.size) B p) ∧ ba ≠ g := by
 have hg := (h.old 0 (by omega)).2.1
 refine ⟨?_, fun B c e p hp => ?_, hg⟩
 ·rintro (⟨e, _⟩ | ⟨c, e, _⟩)
  ·exact hg e.symm
  exact (h.blk g c e).2.1 rfl
 rintro (⟨rfl, rfl⟩ | ⟨c', e', _⟩)
 ·have := (h.old 0 (by omega)).2.2 c e
  have hz : zc.size = 5 := rfl
  rw [hz] at hp
  omega
 exact (h.blk B c' e').2.2 c e
/-- Room for one member more. -/
theorem OI.room {K c : Nat} (h : OI W0 W1 g co Bo n B1 n1 ba oa Ko m ks ps ts) (v : NewV zk 108 W1 W2 ba oa Ko m K c) : OI W0 W2 g co Bo n B1 n1 ba oa (some (K, c)) (m + 1) ks ps ts := by
 obtain ⟨f1, f2, hbg⟩ := h.hfar
 obtain ⟨cur, hc, hcs⟩ := h.form
 obtain ⟨cur', hc', hs'⟩ := v.ch.form ba h.balt cur _ hc
 have hst : PS W0 W2 g co Bo n B1 n1 := by
  refine ⟨h.st.ch.comp v.ch ?_, h.st.cs.ch v.ch f1 f2, h.st.lk⟩
  rintro k p hk (⟨rfl, rfl⟩ | ⟨c', e, _⟩)
  ·have := not_old hk hbg (h.new 0 (by omega))
   exact .inr (by simpa using this)
  have := (h.blk k c' e).1; omega
 have hn0 : Ko = none → m = 0 := fun e => by
  rcases h.kv.row with ⟨_, q⟩ | ⟨B, c, xs, q, _⟩
  ·exact q
  rw [e] at q; cases q
 have hcell : ∀ b o, b < W1.heap.size → ¬ (b = ba ∧ o = oa) → (∀ c, Ko ≠ some (b, c)) → W2.cell? ⟨b, o, none⟩ = W1.cell? ⟨b, o, none⟩ := fun b o hb h1 h2 => v.ch.cell b o hb (by rintro (q | ⟨c', e, _⟩); exact h1 q; exact h2 c' e)
 have hkb : ∀ c, Ko ≠ some (ba, c) := fun c e => h.kv.ne e rfl
 have hcopy : ∀ j, j < m * 2 → ∃ K0 c0, Ko = some (K0, c0) ∧ W2.cell? ⟨K, j, none⟩ = W1.cell? ⟨K0, j, none⟩ := fun j hj => by
  cases e : Ko with
  | none => have := hn0 e; omega
  | some x => exact ⟨x.1, x.2, rfl, v.copy x.1 x.2 e j hj⟩
 have hnb : ∀ b o, Ko_ W0 W1 g Bo n B1 n1 ba oa Ko b o → Ko_ W0 W2 g Bo n B1 n1 ba oa (some (K, c)) b o := fun b o hq => by
  refine ⟨⟨hq.1.1, hq.1.2.step (Lk.refl _ _ _) v.ch.size⟩, hq.2.1, fun c' e => ?_⟩
  obtain ⟨rfl, rfl⟩ := Prod.mk.inj (Option.some.inj e)
  rcases v.lk.2 K c rfl with ⟨c2, e2⟩ | hle
  ·exact hq.2.2 c2 e2
  have := hq.1.2.1; omega
 refine ⟨hst, h.new, fun j hj => (h.old j hj).step (Lk.refl _ _ _) v.ch.size, ⟨cur', hc', by omega⟩, ?_, ?_, v.st, fun K' c' e => ?_, h.hl, by have := h.hm; omega, by have := h.hk; omega, fun j x hx K' c' e => ?_, fun j x hx K' c' e => ?_, fun j p t hp ht => (h.kids j p t hp ht).frame hnb (fun b o hq => hcell b o hq.1.2.1 (fun e => hq.2.1 ⟨e.1, by omega, by omega⟩) hq.2.2)⟩
 ·exact (hcell ba (oa + 4) h.balt (by omega) hkb).trans h.c4
 ·exact (hcell ba (oa + 1) h.balt (by omega) hkb).trans h.c1
 ·obtain ⟨rfl, rfl⟩ := Prod.mk.inj (Option.some.inj e)
  rcases v.lk.2 K c rfl with ⟨c2, e2⟩ | hle
  ·exact h.blk K c2 e2
  have h1 := h.st.ch.size
  have h2 := h.st.cs.glt
  exact ⟨by omega, by omega, fun c3 e3 => by have := h.st.cs.blt e3; omega⟩
 ·obtain ⟨rfl, rfl⟩ := Prod.mk.inj (Option.some.inj e)
  have hj : j < ks.length := (List.getElem?_eq_some_iff.1 hx).1
  obtain ⟨K0, c0, e0, e1⟩ := hcopy (j * 2) (by have := h.hk; omega)
  exact e1.trans (h.keys j x hx K0 c0 e0)
 obtain ⟨rfl, rfl⟩ := Prod.mk.inj (Option.some.inj e)
 have hj : j < ps.length := (List.getElem?_eq_some_iff.1 hx).1
 obtain ⟨K0, c0, e0, e1⟩ := hcopy (j * 2 + 1) (by have := h.hm; have := h.hl; omega)
 exact e1.trans (h.vals j x hx K0 c0 e0)
/-- A place of the members' row is written. -/
theorem OI.put {K c o : Nat} {u : Value} (h : OI W0 W g co Bo n B1 n1 ba oa (some (K, c)) m ks ps ts) (ho : o < m * 2) (hk : ∀ j, j < ks.length → j * 2 ≠ o) (hp : ∀ j, j < ps.length → j * 2 + 1 ≠ o) :
  OI W0 (W.setCell ⟨K, o, none⟩ u) g co Bo n B1 n1 ba oa (some (K, c)) m ks ps ts ∧ (W.setCell ⟨K, o, none⟩ u).cell? ⟨K, o, none⟩ = some u ∧ (∀ b p, (∀ c', some (K, c) ≠ some (b, c')) → (W.setCell ⟨K, o, none⟩ u).cell? ⟨b, p, none⟩ = W.cell? ⟨b, p, none⟩) ∧ W.heap.size ≤ (W.setCell ⟨K, o, none⟩ u).heap.size := by
 obtain ⟨cur, hc, hsz⟩ : ∃ cur, W.heap[K]? = some (.cells cur 108 (0, 0)) ∧ m * 2 ≤ cur.size := by
  rcases h.kv.row with ⟨e, _⟩ | ⟨B, c', xs, e, _, hnc, _, hl, hh⟩
  ·cases e
  obtain ⟨rfl, rfl⟩ := Prod.mk.inj (Option.some.inj e)
  have hz : zk.size = 2 := rfl
  rw [hz] at hl
  exact ⟨_, hh, by rw [Array.size_append, List.size_toArray, hl]; omega⟩
 have hkba : K ≠ ba := h.kv.ne rfl
 have hset := cell_setCell (b := K) (o := o) hc u
 have hch := Ch.set (o := o) hc u
 have hbk := h.blk K c rfl
 have hst := h.st.write (fun ho => by have := ho.1; omega) (h.kold rfl o) hc u
 have hfar : ∀ b p, ¬ (b = K ∧ p = o) → (W.setCell ⟨K, o, none⟩ u).cell? ⟨b, p, none⟩ = W.cell? ⟨b, p, none⟩ := fun b p hn => by rw [hset, if_neg (fun e => hn ⟨e.1, e.2.1⟩)]
 obtain ⟨cur0, hc0, hcs0⟩ := h.form
 obtain ⟨cur', hc', hs'⟩ := hch.form ba h.balt cur0 _ hc0
 refine ⟨⟨hst, h.new, fun j hj => (h.old j hj).step (Lk.refl _ _ _) hch.size, ⟨cur', hc', by omega⟩, (hfar _ _ (fun e => hkba e.1.symm)).trans h.c4, (hfar _ _ (fun e => hkba e.1.symm)).trans h.c1, h.kv.ch hch (fun e => hkba e.1.symm) (fun B c' e p hp e2 => ?_), h.blk, h.hl, h.hm, h.hk, fun j x hx K' c' e => ?_, fun j x hx K' c' e => ?_, fun j p t hp' ht => (h.kids j p t hp' ht).frame (fun b o hq => ⟨⟨hq.1.1, hq.1.2.step (Lk.refl _ _ _) hch.size⟩, hq.2⟩) (fun b p hq => hfar b p (fun e => hq.2.2 c (by rw [e.1])))⟩, ?_, fun b p hn => hfar b p (fun e => hn c (by rw [e.1])), hch.size⟩
 ·have hz : zk.size = 2 := rfl
  rw [hz] at hp
  omega
 ·obtain ⟨rfl, rfl⟩ := Prod.mk.inj (Option.some.inj e)
  exact (hfar _ _ (fun e => hk j (List.getElem?_eq_some_iff.1 hx).1 e.2)).trans (h.keys j x hx K c rfl)
 ·obtain ⟨rfl, rfl⟩ := Prod.mk.inj (Option.some.inj e)
  exact (hfar _ _ (fun e => hp j (List.getElem?_eq_some_iff.1 hx).1 e.2)).trans (h.vals j x hx K c rfl)
 rw [hset, if_pos ⟨rfl, rfl, by omega⟩]
theorem OI.key {K c : Nat} {k : ByteArray} (h : OI W0 W g co Bo n B1 n1 ba oa (some (K, c)) (m + 1) ks ps ts) (hks : ks.length = m) (hts : ts.length = m) : OI W0 (W.setCell ⟨K, m * 2, none⟩ (.string k)) g co Bo n B1 n1 ba oa (some (K, c)) (m + 1) (ks ++ [k]) ps ts := by
 obtain ⟨h1, h2, _, _⟩ := h.put (o := m * 2) (u := .string k) (by omega) (fun j hj => by omega) (fun j hj => by omega)
 exact { h1 with
  hk := by rw [List.length_append, hks]; exact Nat.le_refl _
  keys := fun j x hx K' c' e => by
   obtain ⟨rfl, rfl⟩ := Prod.mk.inj (Option.some.inj e)
   by_cases hj : j < ks.length
   ·rw [List.getElem?_append_left hj] at hx
    exact h1.keys j x hx K c rfl
   rw [List.getElem?_append_right (by omega)] at hx
   have e1 : j - ks.length = 0 := by
    rcases Nat.eq_zero_or_pos (j - ks.length) with q | q
    ·exact q
    rw [List.getElem?_eq_none (by simp; omega)] at hx; cases hx
   rw [e1] at hx
   obtain rfl := Option.some.inj hx
   rw [show j = m by omega]
   exact h2 }
theorem OI.val {K c b o : Nat} {t : FT} (h : OI W0 W g co Bo n B1 n1 ba oa (some (K, c)) (m + 1) ks ps ts) (hts : ts.length = m) (hl : Lies W (Ko_ W0 W g Bo n B1 n1 ba oa (some (K, c))) b o t) : OI W0 (W.setCell ⟨K, m * 2 + 1, none⟩ (ptr (b, o))) g co Bo n B1 n1 ba oa (some (K, c)) (m + 1) ks (ps ++ [(b, o)]) (ts ++ [t]) := by
 have hpl := h.hl
 obtain ⟨h1, h2, h3, h4⟩ := h.put (o := m * 2 + 1) (u := ptr (b, o)) (by omega) (fun j hj => by omega) (fun j hj => by omega)
 have one : ∀ {α : Type} (l : List α) (a x : α) (j : Nat), (l ++ [a])[j]? = some x → (j < l.length ∧ l[j]? = some x) ∨ (j = l.length ∧ a = x) := fun l a x j hx => by
  by_cases hj : j < l.length
  ·rw [List.getElem?_append_left hj] at hx
   exact .inl ⟨hj, hx⟩
  rw [List.getElem?_append_right (by omega)] at hx
  have e1 : j - l.length = 0 := by
   rcases Nat.eq_zero_or_pos (j - l.length) with q | q
   ·exact q
   rw [List.getElem?_eq_none (by simp; omega)] at hx; cases hx
  rw [e1] at hx
  exact .inr ⟨by omega, Option.some.inj hx⟩
 exact { h1 with
  hl := by simp [hpl]
  hm := by rw [List.length_append, hts]; exact Nat.le_refl _
  vals := fun j x hx K' c' e => by
   obtain ⟨rfl, rfl⟩ := Prod.mk.inj (Option.some.inj e)
   rcases one ps (b, o) x j hx with ⟨hj, hx⟩ | ⟨hj, rfl⟩
   ·exact h1.vals j x hx K c rfl
   rw [show j = m by omega]
   exact h2
  kids := fun j p t' hp ht => by
   rcases one ps (b, o) p j hp with ⟨hj, hp⟩ | ⟨hj, rfl⟩
   ·rcases one ts t t' j ht with ⟨_, ht⟩ | ⟨hj2, _⟩
    ·exact h1.kids j p t' hp ht
    omega
   rcases one ts t t' j ht with ⟨hj2, _⟩ | ⟨_, rfl⟩
   ·omega
   exact hl.frame (fun b o hq => ⟨⟨hq.1.1, hq.1.2.step (Lk.refl _ _ _) h4⟩, hq.2⟩) (fun b o hq => h3 b o (fun c' e => hq.2.2 c' e)) }
theorem OI.kat {K c o : Nat} (h : OI W0 W g co Bo n B1 n1 ba oa (some (K, c)) m ks ps ts) (ho : o < m * 2) : (∃ x, W.cell? ⟨K, o, none⟩ = some x) ∧ W.frozen? ⟨K, o, none⟩ = false ∧ K < W.heap.size := by
 rcases h.kv.row with ⟨e, _⟩ | ⟨B, c', xs, e, _, hnc, _, hl, hh⟩
 ·cases e
 obtain ⟨rfl, rfl⟩ := Prod.mk.inj (Option.some.inj e)
 have hz : zk.size = 2 := rfl
 rw [hz] at hl
 refine ⟨?_, by simp [World.frozen?, hh], (Array.getElem?_eq_some_iff.1 hh).1⟩
 rw [cell_of_row W K o _ _ (0, 0) hh]
 exact ⟨_, Array.getElem?_eq_getElem (by rw [Array.size_append, List.size_toArray, hl]; omega)⟩
/-- A place of the members' row, behind a step that fails. -/
theorem OI.kfar {K c o : Nat} (h : OI W0 W1 g co Bo n B1 n1 ba oa (some (K, c)) m ks ps ts) (ho : o < m * 2) (k : Ch W1 W2 (SK g co B1 (n1 * 5))) : (∃ x, W2.cell? ⟨K, o, none⟩ = some x) ∧ W2.frozen? ⟨K, o, none⟩ = false ∧ K < W2.heap.size ∧ ∀ u, Ch W0 (W2.setCell ⟨K, o, none⟩ u) (SK g co Bo (n * 5)) := by
 obtain ⟨⟨x, hx⟩, _, hlt⟩ := h.kat ho
 have hW : W0.heap.size ≤ K := (h.blk K c rfl).1
 obtain ⟨cur, hc⟩ : ∃ cur, W1.heap[K]? = some (.cells cur 108 (0, 0)) := by
  rcases h.kv.row with ⟨e, _⟩ | ⟨B, c', xs, e, _, hnc, _, hl, hh⟩
  ·cases e
  obtain ⟨rfl, rfl⟩ := Prod.mk.inj (Option.some.inj e)
  exact ⟨_, hh⟩
 obtain ⟨cur', hc', _⟩ := k.form K hlt cur _ hc
 refine ⟨⟨x, (k.cell K o hlt (h.kold rfl o).not).trans hx⟩, by simp [World.frozen?, hc'], (Array.getElem?_eq_some_iff.1 hc').1, fun u => ?_⟩
 exact (h.st.ch.comp k h.st.lk.sub).comp (Ch.set hc' u) (fun b p hb e => by have := e.1; omega)
/-- The object, done. -/
theorem OI.done (h : OI W0 W g co Bo n B1 n1 ba oa Ko ts.length ks ps ts) (hn : ks.length = ts.length) : Lies W (Nw W0 W g Bo n B1 n1) ba oa (.mk 1 ByteArray.empty ks ts) := by
 have hnw : ∀ j, j < 5 → Nw W0 W g Bo n B1 n1 ba (oa + j) := fun j hj => ⟨h.new j hj, h.old j hj⟩
 have hc0 := h.kv.at_
 have hkids : ∀ (j : Nat) (p : Nat × Nat) (t : FT), ps[j]? = some p → ts[j]? = some t → Lies W (Nw W0 W g Bo n B1 n1) p.1 p.2 t := fun j p t hp ht => (h.kids j p t hp ht).frame (fun b o hq => hq.1) (fun _ _ _ => rfl)
 cases e : Ko with
 | none =>
  have hm0 : ts.length = 0 := by
   rcases h.kv.row with ⟨_, q⟩ | ⟨B, c, xs, q, _⟩
   ·exact q
   rw [e] at q; cases q
  have ht0 : ts = [] := List.eq_nil_of_length_eq_zero hm0
  have hp0 : ps = [] := List.eq_nil_of_length_eq_zero (h.hl.trans hm0)
  have hk0 : ks = [] := List.eq_nil_of_length_eq_zero (hn.trans hm0)
  rw [e] at hc0
  exact .obj (ad := 0) h.c4 (hnw 4 (by omega)) h.c1 (hnw 1 (by omega)) hc0 (hnw 0 (by omega)) (.inl ⟨rfl, ht0⟩) h.hl hn (fun j k hk => by rw [hk0] at hk; simp at hk) (fun j p hp => by rw [hp0] at hp; simp at hp) hkids
 | some x =>
  obtain ⟨K, c⟩ := x
  rw [e] at hc0
  have hnk : ∀ o, Nw W0 W g Bo n B1 n1 K o := fun o => ⟨fun ho => by have := ho.1; have := (h.blk K c e).1; omega, h.kold e o⟩
  exact .obj (ad := K) h.c4 (hnw 4 (by omega)) h.c1 (hnw 1 (by omega)) hc0 (hnw 0 (by omega)) (.inr ⟨c, rfl⟩) h.hl hn (fun j k hk => ⟨h.keys j k hk K c e, hnk _⟩) (fun j p hp => ⟨h.vals j p hp K c e, hnk _⟩) hkids
/-- An object that has just begun. -/
theorem OI.begin {B c : Nat} (h0 : PS W W1 g co Bo n B1 n1) (h : NewV zc 86 W1 W2 g co B1 n1 B c) :
  OI W (((W2.setCell ⟨B, n1 * 5 + 4, none⟩ (.int .i64 1)).setCell ⟨B, n1 * 5, none⟩ (.slice none 0 0)).setCell ⟨B, n1 * 5 + 1, none⟩ (.bool false)) g co Bo n (some (B, c)) (n1 + 1) B (n1 * 5) none 0 [] [] [] := by
 obtain ⟨cur, hc, hcs⟩ := h.form
 have a0 := h0.new h
 have no : ∀ j, j < 5 → ¬ Old W g Bo (n * 5) B (n1 * 5 + j) := fun j hj ho => (h.old hj).1 (ho.step h0.lk h0.ch.size)
 have a1 := a0.write (no 4 (by omega)) (h.old (by omega)).2 hc (.int .i64 1)
 have c1 := Ch.set (o := n1 * 5 + 4) hc (.int .i64 1)
 obtain ⟨cur2, hc2, hs2⟩ := c1.form B (h.st.blt rfl) cur _ hc
 have a2 := a1.write (o := n1 * 5) (no 0 (by omega)) ((h.old (j := 0) (by omega)).2.step (Lk.refl _ _ _) c1.size) hc2 (.slice none 0 0)
 have c2 := Ch.set (o := n1 * 5) hc2 (.slice none 0 0)
 obtain ⟨cur3, hc3, hs3⟩ := c2.form B (Array.getElem?_eq_some_iff.1 hc2).1 cur2 _ hc2
 have a3 := a2.write (no 1 (by omega)) (((h.old (j := 1) (by omega)).2.step (Lk.refl _ _ _) c1.size).step (Lk.refl _ _ _) c2.size) hc3 (.bool false)
 have c3 := Ch.set (o := n1 * 5 + 1) hc3 (.bool false)
 obtain ⟨cur4, hc4, hs4⟩ := c3.form B (Array.getElem?_eq_some_iff.1 hc3).1 cur3 _ hc3
 have hz : (((W2.setCell ⟨B, n1 * 5 + 4, none⟩ (.int .i64 1)).setCell ⟨B, n1 * 5, none⟩ (.slice none 0 0)).setCell ⟨B, n1 * 5 + 1, none⟩ (.bool false)).cell? ⟨B, n1 * 5, none⟩ = some (.slice none 0 0) := by
  rw [cell_setCell hc3, if_neg (by omega), cell_setCell hc2, if_pos ⟨rfl, rfl, by rw [hs2]; exact hcs 0 (by omega)⟩]
 refine ⟨a3, no, fun j hj => (((h.old hj).2.step (Lk.refl _ _ _) c1.size).step (Lk.refl _ _ _) c2.size).step (Lk.refl _ _ _) c3.size, ⟨cur4, hc4, by have := hcs 4 (by omega); omega⟩, ?_, ?_, ⟨⟨cur4, _, hc4, ?_⟩, .inl ⟨rfl, rfl⟩⟩, fun K c e => (by cases e), rfl, Nat.le_refl _, Nat.le_refl _, fun j k hk => (by simp at hk), fun j k hk => (by simp at hk), fun j p t hp _ => (by simp at hp)⟩
 ·rw [cell_setCell hc3, if_neg (by omega), cell_setCell hc2, if_neg (by omega), cell_setCell hc, if_pos ⟨rfl, rfl, hcs 4 (by omega)⟩]
 ·rw [cell_setCell hc3, if_pos ⟨rfl, rfl, by rw [hs3, hs2]; exact hcs 1 (by omega)⟩]
 rw [cell_of_row _ B _ cur4 _ (0, 0) hc4] at hz
 exact hz
end
end Go.Proofs.YtnajijaachgipaaDoor.H
end
section
namespace Go.Proofs.YtnajijaachgipaaDoor.PR
open Go.RowKit Go.Proofs.YtnajijaachgipaaDoorW.PrintWords Go.Proofs.YtnajijaachgipaaDoorW.PrintLast Go.Proofs.YtnajijaachgipaaDoorW.PrintMore Go.Proofs.YtnajijaachgipaaDoor.H
set_option linter.unusedVariables false
set_option linter.unusedSimpArgs false
namespace FJ
theorem key_ok {k : Nat} {s a b : ByteArray} (h : rk k s = some (a, b, none)) (w : World) : Calls Tryd.prog 95 #[.string s] w fun e w' => e = .returned (.tuple #[.string a, .string b, .nilIface]) ∧ Below w.heap.size w w' := by
 obtain ⟨q, hq, hx⟩ := Option.bind_eq_some_iff.mp h
 split at hx
 ·obtain rfl := Option.some.inj hx
  exact (fastjson_parseRawKey.calls k s a b none w hq).mono fun e w' ⟨_, _, he, hb⟩ => ⟨he, hb⟩
 cases hx
theorem key_err {k : Nat} {s a b : ByteArray} {x : Int} (h : rk k s = some (a, b, some x)) (w : World) : Calls Tryd.prog 95 #[.string s] w fun e w' => ∃ (et : Nat) (ep : Value), e = .returned (.tuple #[.string a, .string b, .iface et ep]) ∧ Below w.heap.size w w' := by
 obtain ⟨q, hq, hx⟩ := Option.bind_eq_some_iff.mp h
 split at hx
 ·obtain rfl := Option.some.inj hx
  exact (fastjson_parseRawKey.calls k s a b (some x) w hq).mono fun e w' ⟨et, ep, he, hb⟩ => ⟨et, ep, he, hb⟩
 cases hx
theorem rk_size {k : Nat} {s a b : ByteArray} {o : Option Int} (h : rk k s = some (a, b, o)) : b.size ≤ s.size := by
 obtain ⟨q, hq, hx⟩ := Option.bind_eq_some_iff.mp h
 split at hx
 ·rename_i hc; obtain rfl := Option.some.inj hx; exact hc
 cases hx
theorem newv_obj {W W1 : World} {g co n B c : Nat} {Bo : Option (Nat × Nat)} (h : NewV zc 86 W W1 g co Bo n B c) : W1.cell? ⟨B, n * 5 + 4, none⟩ = some (.int .i64 0) ∧ W1.frozen? ⟨B, n * 5 + 4, none⟩ = false ∧ W1.cell? ⟨B, n * 5, none⟩ = some (.slice none 0 0) ∧ W1.frozen? ⟨B, n * 5, none⟩ = false ∧ W1.cell? ⟨B, n * 5 + 1, none⟩ = some (.bool false) ∧ W1.frozen? ⟨B, n * 5 + 1, none⟩ = false ∧ B < W1.heap.size := by
 obtain ⟨cur, hc, _⟩ := h.form
 exact ⟨h.zero 4 _ rfl, by simp [World.frozen?, hc], h.zero 0 _ rfl, by simp [World.frozen?, hc], h.zero 1 _ rfl, by simp [World.frozen?, hc], h.st.blt rfl⟩
/-- Far cells stay behind one store. -/
theorem far_set {W : World} {b o p : Nat} {u x : Value} (hb : b < W.heap.size) (hop : p ≠ o) (hc : W.cell? ⟨b, p, none⟩ = some x) (hf : W.frozen? ⟨b, p, none⟩ = false) : (W.setCell ⟨b, o, none⟩ u).cell? ⟨b, p, none⟩ = some x ∧ (W.setCell ⟨b, o, none⟩ u).frozen? ⟨b, p, none⟩ = false := by
 cases hh : W.heap[b]? with
 | none => simp [World.cell?, hh] at hc
 | some ob =>
  cases ob with
  | cells cur ty fr =>
   have h2 := setRow_heap W b cur (cur.setIfInBounds o u) ty fr hh
   rw [setCell_eq_setRow W b o cur ty fr u hh]
   constructor
   ·rw [cell_of_row _ b p _ ty fr h2, Array.getElem?_setIfInBounds_ne (Ne.symm hop)]
    rw [cell_of_row W b p _ ty fr hh] at hc
    exact hc
   simp only [World.frozen?, hh] at hf
   simp only [World.frozen?, h2]
   exact hf
  | _ => simp [World.cell?, hh] at hc
set_option maxHeartbeats 2000000 in
set_option maxRecDepth 100000 in
theorem obj_empty (k : Nat) (s t : ByteArray) (d : Int) (hs : sk k s = some t) (h : t.size = 0) (W : World) (g co : Nat) (Bo : Option (Nat × Nat)) (n m : Nat) :
  Calls Tryd.prog 71 #[.pointer (some ⟨g, co, none⟩), .string s, .int .i64 d] W (Post W g co Bo n m none) := by
 have e0 : ((t.size : Int) == 0) = true := beq_iff_eq.2 (by omega)
 have HS := Aside0.mk hs
 clear hs
 go_enter Tryd.func71, Tryd.ntmps71
 go_wp2_with (first
  | (go_at_call 47; with_reducible refine (sk_calls HS.out _).mono ?_; rintro e w1 ⟨rfl, m1, rfl⟩; have HB := Aside0.mk (drN W m1))
  | (go_at_call 41; refine (errNew _ _).mono ?_; rintro e w2 ⟨et, ep, rfl, hb⟩))
 go_ret3
 exact Post.err (Ch.of_below (HB.out.trans (hb.mono HB.out.size)) _)
set_option maxHeartbeats 2000000 in
set_option maxRecDepth 100000 in
theorem obj_nil (k : Nat) (s t : ByteArray) (d : Int) (hs : sk k s = some t) (h : t.size ≠ 0) (hc : bt t 0 = 125) (W : World) (g co : Nat) (Bo : Option (Nat × Nat)) (n : Nat) (hC : CS zc 86 W g co Bo n) (hn : n ≤ 200000) :
  Calls Tryd.prog 71 #[.pointer (some ⟨g, co, none⟩), .string s, .int .i64 d] W (Post W g co Bo n (n + s.size + 1) (some (.mk 1 ByteArray.empty [] [], rest t 1))) := by
 obtain ⟨e0, e1, e2, e3, e4⟩ := nul h
 have k1 : (bt t 0 == 125) = true := beq_iff_eq.2 hc
 have hcs := cutr t 1 1 rfl (by omega)
 have hsz : n + 1 + (rest t 1).size ≤ n + s.size + 1 := by have := sk_size hs; rw [size_rest]; omega
 have HZ := Aside0.mk hsz
 have HS := Aside0.mk hs
 have HC := Aside0.mk hC
 have HN : Aside0 (n ≤ 1000000) := ⟨by omega⟩
 clear hs hC hc hn hsz
 obtain ⟨q, hq⟩ : ∃ q, q = n * 5 := ⟨_, rfl⟩
 have HQ := Aside0.mk hq
 clear hq
 go_enter Tryd.func71, Tryd.ntmps71
 go_wp2_with (first
  | (go_at_call 47; with_reducible refine (sk_calls HS.out _).mono ?_; rintro e w1 ⟨rfl, m1, rfl⟩; have HP := Aside0.mk ((PS.refl HC.out).below (drN W m1)))
  | (go_at_call 39; refine (getV g co n Bo _ HP.out.cs HN.out).mono ?_; rintro e w2 ⟨B, c, rfl, hv⟩; have HV := Aside0.mk hv; obtain ⟨c4, f4, c0, f0, c1, f1, hlt⟩ := newv_obj hv; clear hv; rw [← HQ.out] at c4 f4 c0 f0 c1 f1 ⊢)
  | (go_at_call 93; refine (objReset B q _ (by simpa using hlt) (far_set hlt (by omega) c0 f0).1 (far_set hlt (by omega) c0 f0).2 (far_set hlt (by omega) c1 f1).1 (far_set hlt (by omega) c1 f1).2).mono ?_; rintro e w3 ⟨rfl, rfl⟩))
 go_quiet (fail)
 go_wp2
 go_ret3
 have ha := (OI.begin HP.out HV.out).below (drN _ nq)
 rw [← HQ.out] at ha
 exact ⟨B, q, _, _, rfl, ha.st, HZ.out, ha.done rfl⟩
structure LO (W wr : World) (g co : Nat) (Bo : Option (Nat × Nat)) (n ba oa m : Nat) (d : Int) (r : Res) (K kq : Nat) (s : ByteArray) (B1 : Option (Nat × Nat)) (n1 : Nat) (Ko : Option (Nat × Nat)) (ks : List ByteArray) (ps : List (Nat × Nat)) (ts : List FT) : Prop where
 oi : OI W wr g co Bo n B1 n1 ba oa Ko ts.length ks ps ts
 kn : ks.length = ts.length
 go : pOl kq s d ks ts = some r
 sz : n1 + s.size ≤ m
 le : kq ≤ K
 ln : ts.length + s.size ≤ m
set_option maxHeartbeats 4000000 in
set_option maxRecDepth 100000 in
theorem obj_loop (k K : Nat) (V : ∀ j, j < K → VC j) (s t : ByteArray) (d : Int) (hd0 : 1 ≤ d) (hd1 : d ≤ 300) (hs : sk k s = some t) (h : t.size ≠ 0) (hc : ¬ bt t 0 = 125) (r : Res) (hr : pOl K t d [] [] = some r) (W : World) (g co : Nat) (Bo : Option (Nat × Nat)) (n : Nat) (hC : CS zc 86 W g co Bo n) (hn : n + s.size + 1 ≤ 200000) :
  Calls Tryd.prog 71 #[.pointer (some ⟨g, co, none⟩), .string s, .int .i64 d] W (Post W g co Bo n (n + s.size + 1) r) := by
 obtain ⟨e0, e1, e2, e3, e4⟩ := nul h
 have k1 : (bt t 0 == 125) = false := beq_eq_false_iff_ne.2 hc
 have hsz : n + 1 + t.size ≤ n + s.size + 1 := by have := sk_size hs; omega
 obtain ⟨m, hm⟩ : ∃ m, m = n + s.size + 1 := ⟨_, rfl⟩
 rw [← hm]
 rw [← hm] at hsz
 have HM : Aside0 (m ≤ 200000) := ⟨by omega⟩
 have HZ := Aside0.mk hsz
 have HS := Aside0.mk hs
 have HC := Aside0.mk hC
 have HN : Aside0 (n ≤ 1000000) := ⟨by omega⟩
 have HR := Aside0.mk hr
 have HV := Aside0.mk V
 have HD : Aside0 (0 ≤ d ∧ d ≤ 300) := ⟨by omega⟩
 clear hs hC hc hn hsz hr V hd0 hd1 hm
 obtain ⟨q, hq⟩ : ∃ q, q = n * 5 := ⟨_, rfl⟩
 have HQ := Aside0.mk hq
 clear hq
 go_enter Tryd.func71, Tryd.ntmps71
 go_wp2_with (first
  | (go_at_call 47; with_reducible refine (sk_calls HS.out _).mono ?_; rintro e w1 ⟨rfl, m1, rfl⟩; have HP := Aside0.mk ((PS.refl HC.out).below (drN W m1)))
  | (go_at_call 39; refine (getV g co n Bo _ HP.out.cs HN.out).mono ?_; rintro e w2 ⟨B, c, rfl, hv⟩; have HW := Aside0.mk hv; obtain ⟨c4, f4, c0, f0, c1, f1, hlt⟩ := newv_obj hv; clear hv; rw [← HQ.out] at c4 f4 c0 f0 c1 f1 ⊢)
  | (go_at_call 93; refine (objReset B q _ (by simpa using hlt) (far_set hlt (by omega) c0 f0).1 (far_set hlt (by omega) c0 f0).2 (far_set hlt (by omega) c1 f1).1 (far_set hlt (by omega) c1 f1).2).mono ?_; rintro e w3 ⟨rfl, rfl⟩))
 have ha := OI.begin HP.out HW.out
 rw [← HQ.out] at ha
 have HL := Aside0.mk (show LO W _ g co Bo n B q m d r K K t (some (B, c)) (n + 1) none [] [] [] from ⟨ha, rfl, HR.out, HZ.out, Nat.le_refl _, by have := HZ.out; simp; omega⟩)
 clear ha c4 f4 c0 f0 c1 f1 HP HW HR HS
 go_loopg [1] K (fun kq v1 wr => ∃ (s' : ByteArray) (B1 : Option (Nat × Nat)) (n1 : Nat) (Ko : Option (Nat × Nat)) (ks : List ByteArray) (ps : List (Nat × Nat)) (ts : List FT), v1 = .string s' ∧ Aside0 (LO W wr g co Bo n B q m d r K kq s' B1 n1 Ko ks ps ts))
 case atStart => exact ⟨t, _, _, _, _, _, _, rfl, HL⟩
 case round =>
  clear HL
  obtain ⟨s', B1, n1, Ko, ks, ps, ts, rfl, HL⟩ := hrel
  obtain ⟨hoi, hkn, hgo, hsz, hle, hln⟩ := HL.out
  clear HL
  cases gk with
  | zero => cases hgo
  | succ j =>
  unfold pOl at hgo
  obtain ⟨s1, h1, hx⟩ := Option.bind_eq_some_iff.mp hgo
  have HA := Aside0.mk hoi
  have H1 := Aside0.mk h1
  have htl : ts.length ≤ 1000000 := by have := HM.out; omega
  obtain ⟨z, hz⟩ : ∃ z, z = ts.length * 2 := ⟨_, rfl⟩
  have HZ2 := Aside0.mk hz
  clear hoi hgo hz
  by_cases y0 : s1.size = 0
  ·rw [if_pos y0] at hx
   obtain rfl := Option.some.inj hx
   have y1 : ((s1.size : Int) == 0) = true := beq_iff_eq.2 (by omega)
   clear hx y0
   go_wp2_with (first
    | (go_at_call 94; refine (getK B q ts.length Ko _ HA.out.kv htl).mono ?_; rintro e w3 ⟨K2, c2, rfl, hv⟩; have HA1 := Aside0.mk (HA.out.room hv); clear hv; rw [← HZ2.out])
    | (go_at_call 47; with_reducible refine (sk_calls H1.out _).mono ?_; rintro e w4 ⟨rfl, m2, rfl⟩; have HA2 := Aside0.mk (HA1.out.below (drN _ m2)))
    | (go_at_call 41; refine (errNew _ _).mono ?_; rintro e w7 ⟨et, ep, rfl, hb7⟩))
   go_ret3
   exact Post.err (HA2.out.st.ch.comp (Ch.of_below hb7 (fun _ _ => False)) (fun _ _ _ h => h.elim))
  rw [if_neg y0] at hx
  obtain ⟨y1, y2, y3, y4, y5⟩ := nul y0
  have hcs := cutr s1 1 1 rfl (by omega)
  by_cases y6 : bt s1 0 = 34
  rotate_left
  ·rw [if_neg y6] at hx
   obtain rfl := Option.some.inj hx
   have y7 : (bt s1 0 == 34) = false := beq_eq_false_iff_ne.2 y6
   clear hx y6 y0
   go_wp2_with (first
    | (go_at_call 94; refine (getK B q ts.length Ko _ HA.out.kv htl).mono ?_; rintro e w3 ⟨K2, c2, rfl, hv⟩; have HA1 := Aside0.mk (HA.out.room hv); clear hv; rw [← HZ2.out])
    | (go_at_call 47; with_reducible refine (sk_calls H1.out _).mono ?_; rintro e w4 ⟨rfl, m2, rfl⟩; have HA2 := Aside0.mk (HA1.out.below (drN _ m2)))
    | (go_at_call 41; refine (errNew _ _).mono ?_; rintro e w7 ⟨et, ep, rfl, hb7⟩))
   go_ret3
   exact Post.err (HA2.out.st.ch.comp (Ch.of_below hb7 (fun _ _ => False)) (fun _ _ _ h => h.elim))
  rw [if_pos y6] at hx
  have y7 : (bt s1 0 == 34) = true := beq_iff_eq.2 y6
  obtain ⟨⟨ka, kb, ko⟩, h2, hx⟩ := Option.bind_eq_some_iff.mp hx
  have H2 := Aside0.mk h2
  have HKN := Aside0.mk hkn
  clear h2 y6 hkn
  cases ko with
  | some xe =>
   have hx2 : some none = some r := hx
   obtain rfl := Option.some.inj hx2
   clear hx hx2
   go_wp2_with (first
    | (go_at_call 94; refine (getK B q ts.length Ko _ HA.out.kv htl).mono ?_; rintro e w3 ⟨K2, c2, rfl, hv⟩; have HA1 := Aside0.mk (HA.out.room hv); clear hv; rw [← HZ2.out])
    | (go_at_call 47; with_reducible refine (sk_calls H1.out _).mono ?_; rintro e w4 ⟨rfl, m2, rfl⟩; have HA2 := Aside0.mk (HA1.out.below (drN _ m2)))
    | (go_at_call 95; refine (key_err H2.out _).mono ?_; rintro e w5 ⟨et5, ep5, rfl, hb5⟩; have HA3 := Aside0.mk (HA2.out.below hb5); obtain ⟨⟨x0, c0⟩, f0, hlt2⟩ := HA3.out.kat (o := z) (by have := HZ2.out; omega); have HA4 := Aside0.mk (HA3.out.put (o := z) (u := .string ka) (by have := HZ2.out; omega) (fun i hi => by have := HZ2.out; have := HKN.out; omega) (fun i hi => by have := HZ2.out; omega)); clear hb5)
    | (go_at_call 41; refine (errNew _ _).mono ?_; rintro e w7 ⟨et, ep, rfl, hb7⟩))
   go_ret3
   exact Post.err (HA4.out.1.st.ch.comp (Ch.of_below hb7 (fun _ _ => False)) (fun _ _ _ h => h.elim))
  | none =>
  simp only [Option.isSome_none, Bool.false_eq_true, if_false] at hx
  obtain ⟨s2, h3, hx⟩ := Option.bind_eq_some_iff.mp hx
  have H3 := Aside0.mk h3
  have hs2 := sk_size h3
  have hs1 := sk_size h1
  have hkb := rk_size H2.out
  rw [size_rest] at hkb
  clear h3 h1
  by_cases z0 : s2.size = 0
  ·rw [if_pos z0] at hx
   obtain rfl := Option.some.inj hx
   have z1 : ((s2.size : Int) == 0) = true := beq_iff_eq.2 (by omega)
   clear hx z0
   go_wp2_with (first
    | (go_at_call 94; refine (getK B q ts.length Ko _ HA.out.kv htl).mono ?_; rintro e w3 ⟨K2, c2, rfl, hv⟩; have HA1 := Aside0.mk (HA.out.room hv); clear hv; rw [← HZ2.out])
    | (go_at_call 47; with_reducible refine (sk_calls H1.out _).mono ?_; rintro e w4 ⟨rfl, m2, rfl⟩; have HA2 := Aside0.mk (HA1.out.below (drN _ m2)))
    | (go_at_call 95; refine (key_ok H2.out _).mono ?_; rintro e w5 ⟨rfl, hb5⟩; have HA3 := Aside0.mk (HA2.out.below hb5); obtain ⟨⟨x0, c0⟩, f0, hlt2⟩ := HA3.out.kat (o := z) (by have := HZ2.out; omega); have HA4 := Aside0.mk (by have hh := HA3.out.key (k := ka) HKN.out rfl; rw [← HZ2.out] at hh; exact hh); clear hb5)
    | (go_at_call 47; with_reducible refine (sk_calls H3.out _).mono ?_; rintro e w6 ⟨rfl, m3, rfl⟩; have HA5 := Aside0.mk (HA4.out.below (drN _ m3)))
    | (go_at_call 41; refine (errNew _ _).mono ?_; rintro e w7 ⟨et, ep, rfl, hb7⟩))
   go_ret3
   exact Post.err (HA5.out.st.ch.comp (Ch.of_below hb7 (fun _ _ => False)) (fun _ _ _ h => h.elim))
  rw [if_neg z0] at hx
  obtain ⟨z1, z2, z3, z4, z5⟩ := nul z0
  have hcs2 := cutr s2 1 1 rfl (by omega)
  by_cases z6 : bt s2 0 = 58
  rotate_left
  ·rw [if_neg z6] at hx
   obtain rfl := Option.some.inj hx
   have z7 : (bt s2 0 == 58) = false := beq_eq_false_iff_ne.2 z6
   clear hx z6 z0
   go_wp2_with (first
    | (go_at_call 94; refine (getK B q ts.length Ko _ HA.out.kv htl).mono ?_; rintro e w3 ⟨K2, c2, rfl, hv⟩; have HA1 := Aside0.mk (HA.out.room hv); clear hv; rw [← HZ2.out])
    | (go_at_call 47; with_reducible refine (sk_calls H1.out _).mono ?_; rintro e w4 ⟨rfl, m2, rfl⟩; have HA2 := Aside0.mk (HA1.out.below (drN _ m2)))
    | (go_at_call 95; refine (key_ok H2.out _).mono ?_; rintro e w5 ⟨rfl, hb5⟩; have HA3 := Aside0.mk (HA2.out.below hb5); obtain ⟨⟨x0, c0⟩, f0, hlt2⟩ := HA3.out.kat (o := z) (by have := HZ2.out; omega); have HA4 := Aside0.mk (by have hh := HA3.out.key (k := ka) HKN.out rfl; rw [← HZ2.out] at hh; exact hh); clear hb5)
    | (go_at_call 47; with_reducible refine (sk_calls H3.out _).mono ?_; rintro e w6 ⟨rfl, m3, rfl⟩; have HA5 := Aside0.mk (HA4.out.below (drN _ m3)))
    | (go_at_call 41; refine (errNew _ _).mono ?_; rintro e w7 ⟨et, ep, rfl, hb7⟩))
   go_ret3
   exact Post.err (HA5.out.st.ch.comp (Ch.of_below hb7 (fun _ _ => False)) (fun _ _ _ h => h.elim))
  rw [if_pos z6] at hx
  have z7 : (bt s2 0 == 58) = true := beq_iff_eq.2 z6
  obtain ⟨s3, h4, hx⟩ := Option.bind_eq_some_iff.mp hx
  obtain ⟨zz, h5, hx⟩ := Option.bind_eq_some_iff.mp hx
  have H4 := Aside0.mk h4
  have hs3 := sk_size h4
  rw [size_rest] at hs3
  have HVC := Aside0.mk (fun W' B1 n1 hC hn => HV.out j (by omega) s3 d zz h5 HD.out.1 HD.out.2 W' g co B1 n1 hC hn)
  have hn1 : n1 + s3.size ≤ 200000 := by have := HM.out; omega
  clear h4 h5 z6
  cases zz with
  | none =>
   obtain rfl := Option.some.inj hx
   clear hx z0 hs3 hs2 hs1 hkb hsz hln
   go_wp2_with (first
    | (go_at_call 94; refine (getK B q ts.length Ko _ HA.out.kv htl).mono ?_; rintro e w3 ⟨K2, c2, rfl, hv⟩; have HA1 := Aside0.mk (HA.out.room hv); clear hv; rw [← HZ2.out])
    | (go_at_call 47; with_reducible refine (sk_calls H1.out _).mono ?_; rintro e w4 ⟨rfl, m2, rfl⟩; have HA2 := Aside0.mk (HA1.out.below (drN _ m2)))
    | (go_at_call 95; refine (key_ok H2.out _).mono ?_; rintro e w5 ⟨rfl, hb5⟩; have HA3 := Aside0.mk (HA2.out.below hb5); obtain ⟨⟨x0, c0⟩, f0, hlt2⟩ := HA3.out.kat (o := z) (by have := HZ2.out; omega); have HA4 := Aside0.mk (by have hh := HA3.out.key (k := ka) HKN.out rfl; rw [← HZ2.out] at hh; exact hh); clear hb5)
    | (go_at_call 47; with_reducible refine (sk_calls H3.out _).mono ?_; rintro e w6 ⟨rfl, m3, rfl⟩; have HA5 := Aside0.mk (HA4.out.below (drN _ m3)); clear c0 f0 hlt2)
    | (go_at_call 47; with_reducible refine (sk_calls H4.out _).mono ?_; rintro e w8 ⟨rfl, m4, rfl⟩; have HA6 := Aside0.mk (by have hh := HA5.out.below (drN _ m4); rw [World.drewN_drewN] at hh; exact hh))
    | (go_at_call 49; refine (HVC.out _ _ _ HA6.out.st.cs hn1).mono ?_; rintro e w9 ⟨t1, et9, ep9, rfl, hch⟩; obtain ⟨⟨x1, c1⟩, f1, hlt3, hset⟩ := HA6.out.kfar (o := z + 1) (by have := HZ2.out; omega) hch; have HB := Aside0.mk (hset (.pointer none)); clear hch hset)
    | (go_at_call 41; refine (errNew _ _).mono ?_; rintro e w7 ⟨et, ep, rfl, hb7⟩))
   go_ret3
   exact Post.err (HB.out.comp (Ch.of_below hb7 (fun _ _ => False)) (fun _ _ _ h => h.elim))
  | some x =>
   obtain ⟨tx, sx⟩ := x
   obtain ⟨s4, h6, hx⟩ := Option.bind_eq_some_iff.mp hx
   have H6 := Aside0.mk h6
   have hs4 := sk_size h6
   have HZZ : Aside0 (s4.size ≤ sx.size ∧ s3.size ≤ s2.size - 1 ∧ s2.size ≤ kb.size ∧ kb.size ≤ s1.size - 1 ∧ s1.size ≤ s'.size ∧ n1 + s'.size ≤ m ∧ ts.length + s'.size ≤ m ∧ j + 1 ≤ K ∧ s1.size ≠ 0) := ⟨hs4, hs3, hs2, hkb, hs1, hsz, hln, hle, y0⟩
   have hl1 : (ts ++ [tx]).length = ts.length + 1 := by simp
   have hk1 : (ks ++ [ka]).length = (ts ++ [tx]).length := by have := HKN.out; simp [this]
   have HL1 := Aside0.mk hl1
   have HK1 := Aside0.mk hk1
   clear h6 hs4 hs3 hs2 hkb hs1 hsz hln hle z0 y0 hl1 hk1
   by_cases v0 : s4.size = 0
   ·rw [if_pos v0] at hx
    obtain rfl := Option.some.inj hx
    have v1 : ((s4.size : Int) == 0) = true := beq_iff_eq.2 (by omega)
    clear hx v0
    go_wp2_with (first
     | (go_at_call 94; refine (getK B q ts.length Ko _ HA.out.kv htl).mono ?_; rintro e w3 ⟨K2, c2, rfl, hv⟩; have HA1 := Aside0.mk (HA.out.room hv); clear hv; rw [← HZ2.out])
     | (go_at_call 47; with_reducible refine (sk_calls H1.out _).mono ?_; rintro e w4 ⟨rfl, m2, rfl⟩; have HA2 := Aside0.mk (HA1.out.below (drN _ m2)))
     | (go_at_call 95; refine (key_ok H2.out _).mono ?_; rintro e w5 ⟨rfl, hb5⟩; have HA3 := Aside0.mk (HA2.out.below hb5); obtain ⟨⟨x0, c0⟩, f0, hlt2⟩ := HA3.out.kat (o := z) (by have := HZ2.out; omega); have HA4 := Aside0.mk (by have hh := HA3.out.key (k := ka) HKN.out rfl; rw [← HZ2.out] at hh; exact hh); clear hb5)
     | (go_at_call 47; with_reducible refine (sk_calls H3.out _).mono ?_; rintro e w6 ⟨rfl, m3, rfl⟩; have HA5 := Aside0.mk (HA4.out.below (drN _ m3)); clear c0 f0 hlt2)
     | (go_at_call 47; with_reducible refine (sk_calls H4.out _).mono ?_; rintro e w8 ⟨rfl, m4, rfl⟩; have HA6 := Aside0.mk (by have hh := HA5.out.below (drN _ m4); rw [World.drewN_drewN] at hh; exact hh))
     | (go_at_call 49; refine (HVC.out _ _ _ HA6.out.st.cs hn1).mono ?_; rintro e w9 ⟨b, o, B2, n2, rfl, hps, hsz2, hlies⟩; have HA7 := Aside0.mk (HA6.out.child hps hlies); have HS7 : Aside0 (n2 + sx.size ≤ n1 + s3.size ∧ n1 ≤ n2) := ⟨hsz2, (by have := hps.lk.1; omega)⟩; obtain ⟨⟨x1, c1⟩, f1, hlt3⟩ := HA7.out.1.kat (o := z + 1) (by have := HZ2.out; omega); have HA8 := Aside0.mk (by have hh := HA7.out.1.val rfl HA7.out.2; rw [← HZ2.out] at hh; simp only [ptr] at hh; exact hh); clear hps hsz2 hlies)
     | (go_at_call 47; with_reducible refine (sk_calls H6.out _).mono ?_; rintro e w10 ⟨rfl, m5, rfl⟩; have HA9 := Aside0.mk (HA8.out.below (drN _ m5)))
     | (go_at_call 41; refine (errNew _ _).mono ?_; rintro e w7 ⟨et, ep, rfl, hb7⟩))
    go_ret3
    exact Post.err (HA9.out.st.ch.comp (Ch.of_below hb7 (fun _ _ => False)) (fun _ _ _ h => h.elim))
   rw [if_neg v0] at hx
   obtain ⟨v1, v2, v3, v4, v5⟩ := nul v0
   have hcs3 := cutr s4 1 1 rfl (by omega)
   by_cases v6 : bt s4 0 = 44
   ·rw [if_pos v6] at hx
    have v7 : (bt s4 0 == 44) = true := beq_iff_eq.2 v6
    have HX := Aside0.mk hx
    have V0 := Aside0.mk v0
    clear hx v6 v0
    go_wp2_with (first
     | (go_at_call 94; refine (getK B q ts.length Ko _ HA.out.kv htl).mono ?_; rintro e w3 ⟨K2, c2, rfl, hv⟩; have HA1 := Aside0.mk (HA.out.room hv); clear hv; rw [← HZ2.out])
     | (go_at_call 47; with_reducible refine (sk_calls H1.out _).mono ?_; rintro e w4 ⟨rfl, m2, rfl⟩; have HA2 := Aside0.mk (HA1.out.below (drN _ m2)))
     | (go_at_call 95; refine (key_ok H2.out _).mono ?_; rintro e w5 ⟨rfl, hb5⟩; have HA3 := Aside0.mk (HA2.out.below hb5); obtain ⟨⟨x0, c0⟩, f0, hlt2⟩ := HA3.out.kat (o := z) (by have := HZ2.out; omega); have HA4 := Aside0.mk (by have hh := HA3.out.key (k := ka) HKN.out rfl; rw [← HZ2.out] at hh; exact hh); clear hb5)
     | (go_at_call 47; with_reducible refine (sk_calls H3.out _).mono ?_; rintro e w6 ⟨rfl, m3, rfl⟩; have HA5 := Aside0.mk (HA4.out.below (drN _ m3)); clear c0 f0 hlt2)
     | (go_at_call 47; with_reducible refine (sk_calls H4.out _).mono ?_; rintro e w8 ⟨rfl, m4, rfl⟩; have HA6 := Aside0.mk (by have hh := HA5.out.below (drN _ m4); rw [World.drewN_drewN] at hh; exact hh))
     | (go_at_call 49; refine (HVC.out _ _ _ HA6.out.st.cs hn1).mono ?_; rintro e w9 ⟨b, o, B2, n2, rfl, hps, hsz2, hlies⟩; have HA7 := Aside0.mk (HA6.out.child hps hlies); have HS7 : Aside0 (n2 + sx.size ≤ n1 + s3.size ∧ n1 ≤ n2) := ⟨hsz2, (by have := hps.lk.1; omega)⟩; obtain ⟨⟨x1, c1⟩, f1, hlt3⟩ := HA7.out.1.kat (o := z + 1) (by have := HZ2.out; omega); have HA8 := Aside0.mk (by have hh := HA7.out.1.val rfl HA7.out.2; rw [← HZ2.out] at hh; simp only [ptr] at hh; exact hh); clear hps hsz2 hlies)
     | (go_at_call 47; with_reducible refine (sk_calls H6.out _).mono ?_; rintro e w10 ⟨rfl, m5, rfl⟩; have HA9 := Aside0.mk (HA8.out.below (drN _ m5)))
     | (go_at_call 41; refine (errNew _ _).mono ?_; rintro e w7 ⟨et, ep, rfl, hb7⟩))
    go_roundg j
    case measure => omega
    case rel =>
     refine ⟨rest s4 1, B2, n2, some (K2, c2), ks ++ [ka], ps ++ [(b, o)], ts ++ [tx], rfl, ⟨⟨?_, HK1.out, HX.out, ?_, ?_, ?_⟩⟩⟩
     ·rw [HL1.out]
      exact HA9.out
     ·have := HZZ.out; have := HS7.out; rw [size_rest]; omega
     ·have := HZZ.out; omega
     have := HZZ.out; have := HS7.out; have := V0.out; rw [size_rest, HL1.out]; omega
   rw [if_neg v6] at hx
   have v7 : (bt s4 0 == 44) = false := beq_eq_false_iff_ne.2 v6
   by_cases v8 : bt s4 0 = 125
   ·rw [if_pos v8] at hx
    obtain rfl := Option.some.inj hx
    have v9 : (bt s4 0 == 125) = true := beq_iff_eq.2 v8
    clear hx v6 v8 v0
    go_wp2_with (first
     | (go_at_call 94; refine (getK B q ts.length Ko _ HA.out.kv htl).mono ?_; rintro e w3 ⟨K2, c2, rfl, hv⟩; have HA1 := Aside0.mk (HA.out.room hv); clear hv; rw [← HZ2.out])
     | (go_at_call 47; with_reducible refine (sk_calls H1.out _).mono ?_; rintro e w4 ⟨rfl, m2, rfl⟩; have HA2 := Aside0.mk (HA1.out.below (drN _ m2)))
     | (go_at_call 95; refine (key_ok H2.out _).mono ?_; rintro e w5 ⟨rfl, hb5⟩; have HA3 := Aside0.mk (HA2.out.below hb5); obtain ⟨⟨x0, c0⟩, f0, hlt2⟩ := HA3.out.kat (o := z) (by have := HZ2.out; omega); have HA4 := Aside0.mk (by have hh := HA3.out.key (k := ka) HKN.out rfl; rw [← HZ2.out] at hh; exact hh); clear hb5)
     | (go_at_call 47; with_reducible refine (sk_calls H3.out _).mono ?_; rintro e w6 ⟨rfl, m3, rfl⟩; have HA5 := Aside0.mk (HA4.out.below (drN _ m3)); clear c0 f0 hlt2)
     | (go_at_call 47; with_reducible refine (sk_calls H4.out _).mono ?_; rintro e w8 ⟨rfl, m4, rfl⟩; have HA6 := Aside0.mk (by have hh := HA5.out.below (drN _ m4); rw [World.drewN_drewN] at hh; exact hh))
     | (go_at_call 49; refine (HVC.out _ _ _ HA6.out.st.cs hn1).mono ?_; rintro e w9 ⟨b, o, B2, n2, rfl, hps, hsz2, hlies⟩; have HA7 := Aside0.mk (HA6.out.child hps hlies); have HS7 : Aside0 (n2 + sx.size ≤ n1 + s3.size ∧ n1 ≤ n2) := ⟨hsz2, (by have := hps.lk.1; omega)⟩; obtain ⟨⟨x1, c1⟩, f1, hlt3⟩ := HA7.out.1.kat (o := z + 1) (by have := HZ2.out; omega); have HA8 := Aside0.mk (by have hh := HA7.out.1.val rfl HA7.out.2; rw [← HZ2.out] at hh; simp only [ptr] at hh; exact hh); clear hps hsz2 hlies)
     | (go_at_call 47; with_reducible refine (sk_calls H6.out _).mono ?_; rintro e w10 ⟨rfl, m5, rfl⟩; have HA9 := Aside0.mk (HA8.out.below (drN _ m5)))
     | (go_at_call 41; refine (errNew _ _).mono ?_; rintro e w7 ⟨et, ep, rfl, hb7⟩))
    go_quiet (fail)
    go_wp2
    go_ret3
    have hf := HA9.out.below (drN _ nq)
    rw [← HL1.out] at hf
    exact ⟨B, q, _, _, rfl, hf.st, (by have := HZZ.out; have := HS7.out; show _ + (rest s4 1).size ≤ _; rw [size_rest]; omega), hf.done HK1.out⟩
   rw [if_neg v8] at hx
   obtain rfl := Option.some.inj hx
   have v9 : (bt s4 0 == 125) = false := beq_eq_false_iff_ne.2 v8
   clear hx v6 v8 v0
   go_wp2_with (first
    | (go_at_call 94; refine (getK B q ts.length Ko _ HA.out.kv htl).mono ?_; rintro e w3 ⟨K2, c2, rfl, hv⟩; have HA1 := Aside0.mk (HA.out.room hv); clear hv; rw [← HZ2.out])
    | (go_at_call 47; with_reducible refine (sk_calls H1.out _).mono ?_; rintro e w4 ⟨rfl, m2, rfl⟩; have HA2 := Aside0.mk (HA1.out.below (drN _ m2)))
    | (go_at_call 95; refine (key_ok H2.out _).mono ?_; rintro e w5 ⟨rfl, hb5⟩; have HA3 := Aside0.mk (HA2.out.below hb5); obtain ⟨⟨x0, c0⟩, f0, hlt2⟩ := HA3.out.kat (o := z) (by have := HZ2.out; omega); have HA4 := Aside0.mk (by have hh := HA3.out.key (k := ka) HKN.out rfl; rw [← HZ2.out] at hh; exact hh); clear hb5)
    | (go_at_call 47; with_reducible refine (sk_calls H3.out _).mono ?_; rintro e w6 ⟨rfl, m3, rfl⟩; have HA5 := Aside0.mk (HA4.out.below (drN _ m3)); clear c0 f0 hlt2)
    | (go_at_call 47; with_reducible refine (sk_calls H4.out _).mono ?_; rintro e w8 ⟨rfl, m4, rfl⟩; have HA6 := Aside0.mk (by have hh := HA5.out.below (drN _ m4); rw [World.drewN_drewN] at hh; exact hh))
    | (go_at_call 49; refine (HVC.out _ _ _ HA6.out.st.cs hn1).mono ?_; rintro e w9 ⟨b, o, B2, n2, rfl, hps, hsz2, hlies⟩; have HA7 := Aside0.mk (HA6.out.child hps hlies); have HS7 : Aside0 (n2 + sx.size ≤ n1 + s3.size ∧ n1 ≤ n2) := ⟨hsz2, (by have := hps.lk.1; omega)⟩; obtain ⟨⟨x1, c1⟩, f1, hlt3⟩ := HA7.out.1.kat (o := z + 1) (by have := HZ2.out; omega); have HA8 := Aside0.mk (by have hh := HA7.out.1.val rfl HA7.out.2; rw [← HZ2.out] at hh; simp only [ptr] at hh; exact hh); clear hps hsz2 hlies)
    | (go_at_call 47; with_reducible refine (sk_calls H6.out _).mono ?_; rintro e w10 ⟨rfl, m5, rfl⟩; have HA9 := Aside0.mk (HA8.out.below (drN _ m5)))
    | (go_at_call 41; refine (errNew _ _).mono ?_; rintro e w7 ⟨et, ep, rfl, hb7⟩))
   go_ret3
   exact Post.err (HA9.out.st.ch.comp (Ch.of_below hb7 (fun _ _ => False)) (fun _ _ _ h => h.elim))
theorem obj_all (k : Nat) (V : ∀ j, j < k → VC j) : OC k := by
 intro s d r h hd0 hd1 W g co Bo n hC hn
 cases k with
 | zero => cases h
 | succ k =>
 unfold pO at h
 obtain ⟨t, hs, hx⟩ := Option.bind_eq_some_iff.mp h
 by_cases y0 : t.size = 0
 ·rw [if_pos y0] at hx
  obtain rfl := Option.some.inj hx
  exact obj_empty k s t d hs y0 W g co Bo n _
 rw [if_neg y0] at hx
 by_cases y1 : bt t 0 = 125
 ·rw [if_pos y1] at hx
  obtain rfl := Option.some.inj hx
  exact obj_nil k s t d hs y0 y1 W g co Bo n hC (by omega)
 rw [if_neg y1] at hx
 exact obj_loop k k (fun j hj => V j (by omega)) s t d hd0 hd1 hs y0 y1 r hx W g co Bo n hC hn
/-- The parser's contracts, for all rounds. -/
theorem all_vc (k : Nat) : VC k := by
 induction k using Nat.strongRecOn with
 | ind k ih =>
  cases k with
  | zero => intro s d r h; cases h
  | succ k => exact val_step k (arr_all k (fun j hj => ih j (by omega))) (obj_all k (fun j hj => ih j (by omega)))
end FJ
end Go.Proofs.YtnajijaachgipaaDoor.PR
end
section
namespace Go.Proofs.YtnajijaachgipaaDoor.PR
open Go.RowKit Go.Proofs.YtnajijaachgipaaDoorW.PrintWords Go.Proofs.YtnajijaachgipaaDoorW.PrintLast Go.Proofs.YtnajijaachgipaaDoorW.PrintMore Go.Proofs.YtnajijaachgipaaDoor.H
set_option linter.unusedVariables false
set_option linter.unusedSimpArgs false
namespace FJ
/-! ### the text of a tree -/
mutual
def txt : FT → List Int
 | .mk k s ks ts => if k = 7 then 34 :: (bytesOf s ++ [34]) else if k = 1 then 123 :: (txtO ks ts ++ [125]) else if k = 2 then 91 :: (txtA ts ++ [93]) else if k = 4 then bytesOf s else if k = 5 then [116, 114, 117, 101] else if k = 6 then [102, 97, 108, 115, 101] else if k = 0 then [110, 117, 108, 108] else []
def txtA : List FT → List Int
 | [] => []
 | [t] => txt t
 | t :: t2 :: ts => txt t ++ 44 :: txtA (t2 :: ts)
def txtO : List ByteArray → List FT → List Int
 | _, [] => []
 | ks, [t] => 34 :: (bytesOf (ks.headD ByteArray.empty) ++ 34 :: 58 :: txt t)
 | ks, t :: t2 :: ts => 34 :: (bytesOf (ks.headD ByteArray.empty) ++ 34 :: 58 :: (txt t ++ 44 :: txtO ks.tail (t2 :: ts)))
end
/-- The kinds that a parser makes. -/
inductive Made : FT → Prop
 | leaf {k : Int} {s : ByteArray} (h : k = 7 ∨ k = 4 ∨ k = 5 ∨ k = 6 ∨ k = 0) : Made (.mk k s [] [])
 | arr {ts : List FT} (h : ∀ t ∈ ts, Made t) : Made (.mk 2 ByteArray.empty [] ts)
 | obj {ks : List ByteArray} {ts : List FT} (hn : ks.length = ts.length) (h : ∀ t ∈ ts, Made t) : Made (.mk 1 ByteArray.empty ks ts)
/-- What a call that appends leaves. -/
def MP (w0 : World) (r : List Int) (e : Ending) (w' : World) : Prop := ∃ v', e = .returned v' ∧ w'.ownsRow w0.heap.size 5 1 v' r.length (nums .u8 r) ∧ Below w0.heap.size w0 w'
theorem info_u8 : (Tryd.prog.info? 5).map (fun i => (i.zero, i.size, i.bytes)) = some (some (.int .u8 0), 1, 1) := by kernel_rfl
theorem blw_cell {w0 w : World} {b o : Nat} {v : Value} (h : Below w0.heap.size w0 w) (hc : w0.cell? ⟨b, o, none⟩ = some v) : w.cell? ⟨b, o, none⟩ = some v := (h.cell (World.block_lt_of_cell? w0 _ hc)).trans hc
set_option maxHeartbeats 2000000 in
set_option maxRecDepth 100000 in
theorem mar_num (s : ByteArray) (b o : Nat) (w0 w : World) (v : Value) (xs : List Int) (h4 : w0.cell? ⟨b, o + 4, none⟩ = some (.int .i64 4)) (h3 : w0.cell? ⟨b, o + 3, none⟩ = some (.string s)) (hB : Below w0.heap.size w0 w) (ho : w.ownsRow w0.heap.size 5 1 v xs.length (nums .u8 xs)) (hl : xs.length + s.size < 140737488355328) : Calls Tryd.prog 28 #[.pointer (some ⟨b, o, none⟩), v] w (MP w0 (xs ++ bytesOf s)) := by
 obtain ⟨A0, q0, rfl⟩ := Go.Proofs.YtnajijaachgipaaDoorW.PrintWords.own_slice ho; have c4 := blw_cell hB h4; have c3 := blw_cell hB h3; have HO := Aside0.mk ho; have HB := Aside0.mk hB; clear ho hB; go_enter Tryd.func28, Tryd.ntmps28
 go_wp2_with (first | ((with_reducible refine gate_builtin (b := .append) (xs := #[_, _]) rfl ?_); at_builtin; refine print_append_str (w0 := w0) w0.heap.size rfl _ _ 47 9 5 rfl Tryd.underlying47 Tryd.underlying9 info_u8 _ xs s rfl rfl HO.out HB.out HB.out.size (by (try simp only [List.length_append, List.length_singleton, bytesOf_length]); omega) ?_; intro v1 w1 hown hb hg; obtain ⟨x1, hz⟩ : ∃ z, z = xs ++ bytesOf s := ⟨_, rfl⟩; rw [← hz] at hown; have hn : x1.length ≤ xs.length + s.size := (by rw [hz]; simp only [List.length_append, List.length_singleton, bytesOf_length] <;> omega); have HZx1 := Aside0.mk hz; clear hz; obtain ⟨A1, q1, rfl⟩ := Go.Proofs.YtnajijaachgipaaDoorW.PrintWords.own_slice hown; clear HO HB; have HO := Aside0.mk hown; have HB := Aside0.mk hb; have c4 := blw_cell hb h4; have c3 := blw_cell hb h3; (try have ck := blw_cell hb hk0); (try have cp := blw_cell hb hp0); clear hown hb hg))
 go_ret
 have hz := HZx1.out
 subst hz
 exact ⟨_, rfl, HO.out, HB.out⟩
set_option maxHeartbeats 2000000 in
set_option maxRecDepth 100000 in
theorem mar_true (s : ByteArray) (b o : Nat) (w0 w : World) (v : Value) (xs : List Int) (h4 : w0.cell? ⟨b, o + 4, none⟩ = some (.int .i64 5)) (h3 : w0.cell? ⟨b, o + 3, none⟩ = some (.string s)) (hB : Below w0.heap.size w0 w) (ho : w.ownsRow w0.heap.size 5 1 v xs.length (nums .u8 xs)) (hl : xs.length + 4 < 140737488355328) : Calls Tryd.prog 28 #[.pointer (some ⟨b, o, none⟩), v] w (MP w0 (xs ++ [116, 114, 117, 101])) := by
 obtain ⟨A0, q0, rfl⟩ := Go.Proofs.YtnajijaachgipaaDoorW.PrintWords.own_slice ho; have c4 := blw_cell hB h4; have c3 := blw_cell hB h3; have HO := Aside0.mk ho; have HB := Aside0.mk hB; clear ho hB; go_enter Tryd.func28, Tryd.ntmps28
 have hz : (⟨#[116, 114, 117, 101]⟩ : ByteArray).size = 4 := rfl
 go_wp2_with (first | ((with_reducible refine gate_builtin (b := .append) (xs := #[_, _]) rfl ?_); at_builtin; refine print_append_str (w0 := w0) w0.heap.size rfl _ _ 47 9 5 rfl Tryd.underlying47 Tryd.underlying9 info_u8 _ xs (⟨#[116, 114, 117, 101]⟩ : ByteArray) rfl rfl HO.out HB.out HB.out.size (by (try simp only [List.length_append, List.length_singleton, bytesOf_length]); omega) ?_; intro v1 w1 hown hb hg; obtain ⟨x1, hz⟩ : ∃ z, z = xs ++ bytesOf (⟨#[116, 114, 117, 101]⟩ : ByteArray) := ⟨_, rfl⟩; rw [← hz] at hown; have hn : x1.length ≤ xs.length + (⟨#[116, 114, 117, 101]⟩ : ByteArray).size := (by rw [hz]; simp only [List.length_append, List.length_singleton, bytesOf_length] <;> omega); have HZx1 := Aside0.mk hz; clear hz; obtain ⟨A1, q1, rfl⟩ := Go.Proofs.YtnajijaachgipaaDoorW.PrintWords.own_slice hown; clear HO HB; have HO := Aside0.mk hown; have HB := Aside0.mk hb; have c4 := blw_cell hb h4; have c3 := blw_cell hb h3; (try have ck := blw_cell hb hk0); (try have cp := blw_cell hb hp0); clear hown hb hg))
 go_ret
 have hz := HZx1.out
 subst hz
 exact ⟨_, rfl, HO.out, HB.out⟩
set_option maxHeartbeats 2000000 in
set_option maxRecDepth 100000 in
theorem mar_false (s : ByteArray) (b o : Nat) (w0 w : World) (v : Value) (xs : List Int) (h4 : w0.cell? ⟨b, o + 4, none⟩ = some (.int .i64 6)) (h3 : w0.cell? ⟨b, o + 3, none⟩ = some (.string s)) (hB : Below w0.heap.size w0 w) (ho : w.ownsRow w0.heap.size 5 1 v xs.length (nums .u8 xs)) (hl : xs.length + 5 < 140737488355328) : Calls Tryd.prog 28 #[.pointer (some ⟨b, o, none⟩), v] w (MP w0 (xs ++ [102, 97, 108, 115, 101])) := by
 obtain ⟨A0, q0, rfl⟩ := Go.Proofs.YtnajijaachgipaaDoorW.PrintWords.own_slice ho; have c4 := blw_cell hB h4; have c3 := blw_cell hB h3; have HO := Aside0.mk ho; have HB := Aside0.mk hB; clear ho hB; go_enter Tryd.func28, Tryd.ntmps28
 have hz : (⟨#[102, 97, 108, 115, 101]⟩ : ByteArray).size = 5 := rfl
 go_wp2_with (first | ((with_reducible refine gate_builtin (b := .append) (xs := #[_, _]) rfl ?_); at_builtin; refine print_append_str (w0 := w0) w0.heap.size rfl _ _ 47 9 5 rfl Tryd.underlying47 Tryd.underlying9 info_u8 _ xs (⟨#[102, 97, 108, 115, 101]⟩ : ByteArray) rfl rfl HO.out HB.out HB.out.size (by (try simp only [List.length_append, List.length_singleton, bytesOf_length]); omega) ?_; intro v1 w1 hown hb hg; obtain ⟨x1, hz⟩ : ∃ z, z = xs ++ bytesOf (⟨#[102, 97, 108, 115, 101]⟩ : ByteArray) := ⟨_, rfl⟩; rw [← hz] at hown; have hn : x1.length ≤ xs.length + (⟨#[102, 97, 108, 115, 101]⟩ : ByteArray).size := (by rw [hz]; simp only [List.length_append, List.length_singleton, bytesOf_length] <;> omega); have HZx1 := Aside0.mk hz; clear hz; obtain ⟨A1, q1, rfl⟩ := Go.Proofs.YtnajijaachgipaaDoorW.PrintWords.own_slice hown; clear HO HB; have HO := Aside0.mk hown; have HB := Aside0.mk hb; have c4 := blw_cell hb h4; have c3 := blw_cell hb h3; (try have ck := blw_cell hb hk0); (try have cp := blw_cell hb hp0); clear hown hb hg))
 go_ret
 have hz := HZx1.out
 subst hz
 exact ⟨_, rfl, HO.out, HB.out⟩
set_option maxHeartbeats 2000000 in
set_option maxRecDepth 100000 in
theorem mar_null (s : ByteArray) (b o : Nat) (w0 w : World) (v : Value) (xs : List Int) (h4 : w0.cell? ⟨b, o + 4, none⟩ = some (.int .i64 0)) (h3 : w0.cell? ⟨b, o + 3, none⟩ = some (.string s)) (hB : Below w0.heap.size w0 w) (ho : w.ownsRow w0.heap.size 5 1 v xs.length (nums .u8 xs)) (hl : xs.length + 4 < 140737488355328) : Calls Tryd.prog 28 #[.pointer (some ⟨b, o, none⟩), v] w (MP w0 (xs ++ [110, 117, 108, 108])) := by
 obtain ⟨A0, q0, rfl⟩ := Go.Proofs.YtnajijaachgipaaDoorW.PrintWords.own_slice ho; have c4 := blw_cell hB h4; have c3 := blw_cell hB h3; have HO := Aside0.mk ho; have HB := Aside0.mk hB; clear ho hB; go_enter Tryd.func28, Tryd.ntmps28
 have hz : (⟨#[110, 117, 108, 108]⟩ : ByteArray).size = 4 := rfl
 go_wp2_with (first | ((with_reducible refine gate_builtin (b := .append) (xs := #[_, _]) rfl ?_); at_builtin; refine print_append_str (w0 := w0) w0.heap.size rfl _ _ 47 9 5 rfl Tryd.underlying47 Tryd.underlying9 info_u8 _ xs (⟨#[110, 117, 108, 108]⟩ : ByteArray) rfl rfl HO.out HB.out HB.out.size (by (try simp only [List.length_append, List.length_singleton, bytesOf_length]); omega) ?_; intro v1 w1 hown hb hg; obtain ⟨x1, hz⟩ : ∃ z, z = xs ++ bytesOf (⟨#[110, 117, 108, 108]⟩ : ByteArray) := ⟨_, rfl⟩; rw [← hz] at hown; have hn : x1.length ≤ xs.length + (⟨#[110, 117, 108, 108]⟩ : ByteArray).size := (by rw [hz]; simp only [List.length_append, List.length_singleton, bytesOf_length] <;> omega); have HZx1 := Aside0.mk hz; clear hz; obtain ⟨A1, q1, rfl⟩ := Go.Proofs.YtnajijaachgipaaDoorW.PrintWords.own_slice hown; clear HO HB; have HO := Aside0.mk hown; have HB := Aside0.mk hb; have c4 := blw_cell hb h4; have c3 := blw_cell hb h3; (try have ck := blw_cell hb hk0); (try have cp := blw_cell hb hp0); clear hown hb hg))
 go_ret
 have hz := HZx1.out
 subst hz
 exact ⟨_, rfl, HO.out, HB.out⟩
set_option maxHeartbeats 2000000 in
set_option maxRecDepth 100000 in
theorem mar_str (s : ByteArray) (b o : Nat) (w0 w : World) (v : Value) (xs : List Int) (h4 : w0.cell? ⟨b, o + 4, none⟩ = some (.int .i64 7)) (h3 : w0.cell? ⟨b, o + 3, none⟩ = some (.string s)) (hB : Below w0.heap.size w0 w) (ho : w.ownsRow w0.heap.size 5 1 v xs.length (nums .u8 xs)) (hl : xs.length + s.size + 2 < 140737488355328) : Calls Tryd.prog 28 #[.pointer (some ⟨b, o, none⟩), v] w (MP w0 (xs ++ 34 :: (bytesOf s ++ [34]))) := by
 obtain ⟨A0, q0, rfl⟩ := Go.Proofs.YtnajijaachgipaaDoorW.PrintWords.own_slice ho; have c4 := blw_cell hB h4; have c3 := blw_cell hB h3; have HO := Aside0.mk ho; have HB := Aside0.mk hB; clear ho hB; go_enter Tryd.func28, Tryd.ntmps28
 go_wp2_with (first | ((with_reducible refine gate_builtin (b := .append) (xs := #[_, _]) rfl ?_); at_builtin; refine print_append_num (w0 := w0) w0.heap.size ?hgd_x1 ?os_x1 ?ox_x1 47 5 .u8 1 ?ho_x1 Tryd.underlying47 info_u8 (by decide) ?ov_x1 xs 34 ?hs_x1 ?hx_x1 ?HO_x1 HB.out HB.out.size (by (try simp only [List.length_append, List.length_singleton, bytesOf_length]); omega) ?_; (case hgd_x1 => rfl); (case ho_x1 => rfl); (case hs_x1 => rfl); (case hx_x1 => rfl); (case HO_x1 => exact HO.out); intro v1 w1 hown hb hg hat; obtain ⟨x1, hz⟩ : ∃ z, z = xs ++ [34] := ⟨_, rfl⟩; rw [← hz] at hown; have hn : x1.length ≤ xs.length + 1 := (by rw [hz]; simp only [List.length_append, List.length_singleton, bytesOf_length] <;> omega); have HZx1 := Aside0.mk hz; clear hz; obtain ⟨A1, q1, rfl⟩ := Go.Proofs.YtnajijaachgipaaDoorW.PrintWords.own_slice hown; clear HO HB; have HO := Aside0.mk hown; have HB := Aside0.mk hb; have c4 := blw_cell hb h4; have c3 := blw_cell hb h3; (try have ck := blw_cell hb hk0); (try have cp := blw_cell hb hp0); clear hown hb hg hat) | ((with_reducible refine gate_builtin (b := .append) (xs := #[_, _]) rfl ?_); at_builtin; refine print_append_str (w0 := w0) w0.heap.size rfl _ _ 47 9 5 rfl Tryd.underlying47 Tryd.underlying9 info_u8 _ x1 s rfl rfl HO.out HB.out HB.out.size (by (try simp only [List.length_append, List.length_singleton, bytesOf_length]); omega) ?_; intro v1 w1 hown hb hg; obtain ⟨x2, hz⟩ : ∃ z, z = x1 ++ bytesOf s := ⟨_, rfl⟩; rw [← hz] at hown; have hn : x2.length ≤ x1.length + s.size := (by rw [hz]; simp only [List.length_append, List.length_singleton, bytesOf_length] <;> omega); have HZx2 := Aside0.mk hz; clear hz; obtain ⟨A1, q1, rfl⟩ := Go.Proofs.YtnajijaachgipaaDoorW.PrintWords.own_slice hown; clear HO HB; have HO := Aside0.mk hown; have HB := Aside0.mk hb; have c4 := blw_cell hb h4; have c3 := blw_cell hb h3; (try have ck := blw_cell hb hk0); (try have cp := blw_cell hb hp0); clear hown hb hg) | ((with_reducible refine gate_builtin (b := .append) (xs := #[_, _]) rfl ?_); at_builtin; refine print_append_num (w0 := w0) w0.heap.size ?hgd_x3 ?os_x3 ?ox_x3 47 5 .u8 1 ?ho_x3 Tryd.underlying47 info_u8 (by decide) ?ov_x3 x2 34 ?hs_x3 ?hx_x3 ?HO_x3 HB.out HB.out.size (by (try simp only [List.length_append, List.length_singleton, bytesOf_length]); omega) ?_; (case hgd_x3 => rfl); (case ho_x3 => rfl); (case hs_x3 => rfl); (case hx_x3 => rfl); (case HO_x3 => exact HO.out); intro v1 w1 hown hb hg hat; obtain ⟨x3, hz⟩ : ∃ z, z = x2 ++ [34] := ⟨_, rfl⟩; rw [← hz] at hown; have hn : x3.length ≤ x2.length + 1 := (by rw [hz]; simp only [List.length_append, List.length_singleton, bytesOf_length] <;> omega); have HZx3 := Aside0.mk hz; clear hz; obtain ⟨A1, q1, rfl⟩ := Go.Proofs.YtnajijaachgipaaDoorW.PrintWords.own_slice hown; clear HO HB; have HO := Aside0.mk hown; have HB := Aside0.mk hb; have c4 := blw_cell hb h4; have c3 := blw_cell hb h3; (try have ck := blw_cell hb hk0); (try have cp := blw_cell hb hp0); clear hown hb hg hat))
 go_ret
 refine ⟨_, rfl, ?_, HB.out⟩
 have hx : xs ++ 34 :: (bytesOf s ++ [34]) = x3 := by rw [HZx3.out, HZx2.out, HZx1.out]; simp
 rw [hx]
 exact HO.out
theorem txtA_len : ∀ ts : List FT, ts.length ≤ (txtA ts).length + 1
 | [] => by simp
 | [t] => by simp
 | t :: t2 :: ts => by
  have := txtA_len (t2 :: ts)
  simp only [txtA, List.length_append, List.length_cons] at this ⊢
  omega
theorem txtA_cons (t : FT) (ts : List FT) (h : ts ≠ []) : txtA (t :: ts) = txt t ++ 44 :: txtA ts := by
 cases ts with
 | nil => exact absurd rfl h
 | cons a l => rw [txtA]
theorem is_last {j n : Nat} (h : j + 1 = n) : ((j : Int) != (n : Int) - 1) = false := bne_eq_false_iff_eq.2 (by omega)
theorem no_last {j n : Nat} (h : ¬ j + 1 = n) : ((j : Int) != (n : Int) - 1) = true := bne_iff_ne.2 (by omega)
theorem drop_ne {α : Type} {l : List α} {j : Nat} (hj : j < l.length) (h : ¬ j + 1 = l.length) : l.drop (j + 1) ≠ [] := fun e => by
 have := List.drop_eq_nil_iff.1 e
 omega
theorem wrap_last {n : Nat} (h : n < 140737488355328) (h0 : 0 < n) : wrap64 ((n : Int) - 1) = (n : Int) - 1 := by unfold wrap64; omega
theorem wrap_next {j n : Nat} (h : n < 140737488355328) (h0 : j < n) : wrap64 ((j : Int) + 1) = ((j + 1 : Nat) : Int) := by unfold wrap64; omega
theorem drop_at {α : Type} {l : List α} {j : Nat} (h : j < l.length) : l.drop j = l[j] :: l.drop (j + 1) := List.drop_eq_getElem_cons h
structure AL (w0 : World) (xs : List Int) (ts : List FT) (kq j : Nat) (A : Option Addr) (q : Nat) (ys : List Int) (wr : World) : Prop where
 own : wr.ownsRow w0.heap.size 5 1 (.slice A ys.length q) ys.length (nums .u8 ys)
 blw : Below w0.heap.size w0 wr
 num : j + kq = ts.length
 eq : ys ++ txtA (ts.drop j) = xs ++ 91 :: txtA ts
set_option maxHeartbeats 2000000 in
set_option maxRecDepth 100000 in
theorem mar_arr (ts : List FT) (ps : List (Nat × Nat)) (ad c : Nat) (b o : Nat) (w0 w : World) (v : Value) (xs : List Int) (h4 : w0.cell? ⟨b, o + 4, none⟩ = some (.int .i64 2)) (h3 : w0.cell? ⟨b, o + 2, none⟩ = some (.slice (some ⟨ad, 0, none⟩) ts.length c)) (hpl : ps.length = ts.length)
  (he : ∀ (j : Nat) (p : Nat × Nat), ps[j]? = some p → w0.cell? ⟨ad, j, none⟩ = some (.pointer (some ⟨p.1, p.2, none⟩)))
  (ih : ∀ (j : Nat) (p : Nat × Nat) (t : FT), ps[j]? = some p → ts[j]? = some t → ∀ (w : World) (v : Value) (xs : List Int), Below w0.heap.size w0 w → w.ownsRow w0.heap.size 5 1 v xs.length (nums .u8 xs) → xs.length + (txt t).length < 140737488355328 → Calls Tryd.prog 28 #[.pointer (some ⟨p.1, p.2, none⟩), v] w (MP w0 (xs ++ txt t)))
  (hB : Below w0.heap.size w0 w) (ho : w.ownsRow w0.heap.size 5 1 v xs.length (nums .u8 xs)) (hl : xs.length + (txtA ts).length + 2 < 140737488355328) :
  Calls Tryd.prog 28 #[.pointer (some ⟨b, o, none⟩), v] w (MP w0 (xs ++ 91 :: (txtA ts ++ [93]))) := by
 obtain ⟨A0, q0, rfl⟩ := Go.Proofs.YtnajijaachgipaaDoorW.PrintWords.own_slice ho; have c4 := blw_cell hB h4; have c3 := blw_cell hB h3; have HO := Aside0.mk ho; have HB := Aside0.mk hB; clear ho hB; go_enter Tryd.func28, Tryd.ntmps28
 go_wp2_with (first | ((with_reducible refine gate_builtin (b := .append) (xs := #[_, _]) rfl ?_); at_builtin; refine print_append_num (w0 := w0) w0.heap.size ?hgd_x1 ?os_x1 ?ox_x1 47 5 .u8 1 ?ho_x1 Tryd.underlying47 info_u8 (by decide) ?ov_x1 xs 91 ?hs_x1 ?hx_x1 ?HO_x1 HB.out HB.out.size (by (try simp only [List.length_append, List.length_singleton, bytesOf_length]); omega) ?_; (case hgd_x1 => rfl); (case ho_x1 => rfl); (case hs_x1 => rfl); (case hx_x1 => rfl); (case HO_x1 => exact HO.out); intro v1 w1 hown hb hg hat; obtain ⟨x1, hz⟩ : ∃ z, z = xs ++ [91] := ⟨_, rfl⟩; rw [← hz] at hown; have hn : x1.length ≤ xs.length + 1 := (by rw [hz]; simp only [List.length_append, List.length_singleton, bytesOf_length] <;> omega); have HZx1 := Aside0.mk hz; clear hz; obtain ⟨A1, q1, rfl⟩ := Go.Proofs.YtnajijaachgipaaDoorW.PrintWords.own_slice hown; clear HO HB; have HO := Aside0.mk hown; have HB := Aside0.mk hb; have c4 := blw_cell hb h4; have c3 := blw_cell hb h3; (try have ck := blw_cell hb hk0); (try have cp := blw_cell hb hp0); clear hown hb hg hat))
 have HL := Aside0.mk (show AL w0 xs ts ts.length 0 A1 q1 x1 w1 from ⟨HO.out, HB.out, by omega, by rw [HZx1.out]; simp⟩)
 have HLEN : Aside0 (xs.length + (txtA ts).length + 2 < 140737488355328) := ⟨hl⟩
 clear HO HB HZx1 hl hn
 go_loopg [1, 44] ts.length (fun kq v1 v44 wr => ∃ (j : Nat) (A : Option Addr) (q : Nat) (ys : List Int), v1 = .slice A ys.length q ∧ v44 = .int .i64 (j : Int) ∧ Aside0 (AL w0 xs ts kq j A q ys wr))
 case atStart => exact ⟨0, _, _, _, rfl, rfl, HL⟩
 case round =>
  clear HL
  obtain ⟨j, A, q, ys, rfl, rfl, HL⟩ := hrel
  have hnum := HL.out.num
  have hlen := congrArg List.length HL.out.eq
  simp only [List.length_append, List.length_cons] at hlen
  have hq := HLEN.out
  have htl := txtA_len ts
  have HO := Aside0.mk HL.out.own
  have HB := Aside0.mk HL.out.blw
  have HE := Aside0.mk HL.out.eq
  clear HL
  have hq : ys.length + (txtA (ts.drop j)).length + 1 < 140737488355328 := by omega
  clear hlen
  cases gk with
  | zero =>
   have hj : j = ts.length := by omega
   have hd : decide ((j : Int) < (ts.length : Int)) = false := decide_eq_false (by omega)
   clear hnum
   go_wp2_with (first | ((with_reducible refine gate_builtin (b := .append) (xs := #[_, _]) rfl ?_); at_builtin; refine print_append_num (w0 := w0) w0.heap.size ?hgd_z1 ?os_z1 ?ox_z1 47 5 .u8 1 ?ho_z1 Tryd.underlying47 info_u8 (by decide) ?ov_z1 ys 93 ?hs_z1 ?hx_z1 ?HO_z1 HB.out HB.out.size (by (try simp only [List.length_append, List.length_singleton, bytesOf_length]); omega) ?_; (case hgd_z1 => rfl); (case ho_z1 => rfl); (case hs_z1 => rfl); (case hx_z1 => rfl); (case HO_z1 => exact HO.out); intro v1 w1 hown hb hg hat; obtain ⟨z1, hz⟩ : ∃ z, z = ys ++ [93] := ⟨_, rfl⟩; rw [← hz] at hown; have hn : z1.length ≤ ys.length + 1 := (by rw [hz]; simp only [List.length_append, List.length_singleton, bytesOf_length] <;> omega); have HZz1 := Aside0.mk hz; clear hz; obtain ⟨A1, q1, rfl⟩ := Go.Proofs.YtnajijaachgipaaDoorW.PrintWords.own_slice hown; clear HO HB; have HO := Aside0.mk hown; have HB := Aside0.mk hb; have c4 := blw_cell hb h4; have c3 := blw_cell hb h3; (try have ck := blw_cell hb hk0); (try have cp := blw_cell hb hp0); clear hown hb hg hat))
   go_ret
   refine ⟨_, rfl, ?_, HB.out⟩
   have hx : xs ++ 91 :: (txtA ts ++ [93]) = z1 := by
    have := HE.out
    rw [hj, List.drop_length, txtA, List.append_nil] at this
    rw [HZz1.out, this]
    simp
   rw [hx]
   exact HO.out
  | succ k =>
   have hjl : j < ts.length := by omega
   have hjp : j < ps.length := by omega
   obtain ⟨p, hp⟩ : ∃ p, ps[j]? = some p := ⟨_, List.getElem?_eq_getElem hjp⟩
   obtain ⟨t, ht⟩ : ∃ t, ts[j]? = some t := ⟨_, List.getElem?_eq_getElem hjl⟩
   have hdt : ts.drop j = t :: ts.drop (j + 1) := by
    rw [drop_at hjl]
    rw [List.getElem?_eq_getElem hjl] at ht
    rw [Option.some.inj ht]
   have hcj := blw_cell HB.out (he j p hp)
   have hd : decide ((j : Int) < (ts.length : Int)) = true := decide_eq_true (by omega)
   have hj0 : (0 : Int) ≤ (j : Int) := by omega
   have hj1 : (j : Int) < (ts.length : Int) := by omega
   have hw1 := wrap_last (n := ts.length) (by omega) (by omega)
   have IH := Aside0.mk (ih j p t hp ht)
   have hw2 := wrap_next (j := j) (n := ts.length) (by omega) hjl
   clear ih
   by_cases hlast : j + 1 = ts.length
   ·have hm1 := is_last hlast
    have hd1 : ts.drop (j + 1) = [] := by rw [hlast, List.drop_length]
    rw [hdt, hd1, txtA] at hq
    go_wp2_with (first | (go_at_call 28; refine (IH.out _ _ ys HB.out HO.out (by omega)).mono ?_; rintro e w1 ⟨v1, rfl, hown, hb⟩; obtain ⟨z1, hz⟩ : ∃ z, z = ys ++ txt t := ⟨_, rfl⟩; rw [← hz] at hown; have hn : z1.length ≤ ys.length + (txt t).length := (by rw [hz]; simp only [List.length_append] <;> omega); have HZz1 := Aside0.mk hz; clear hz; obtain ⟨A1, q1, rfl⟩ := Go.Proofs.YtnajijaachgipaaDoorW.PrintWords.own_slice hown; clear HO HB; have HO := Aside0.mk hown; have HB := Aside0.mk hb; have c4 := blw_cell hb h4; have c3 := blw_cell hb h3; (try have ck := blw_cell hb hk0); (try have cp := blw_cell hb hp0); clear hown hb))
    go_roundg k
    case measure => omega
    case rel =>
     refine ⟨j + 1, A1, q1, z1, rfl, rfl, ⟨⟨HO.out, HB.out, by omega, ?_⟩⟩⟩
     have := HE.out
     rw [hdt, hd1, txtA] at this
     rw [hd1, txtA, List.append_nil, HZz1.out]
     exact this
   have hm1 := no_last hlast
   have hd1 := drop_ne hjl hlast
   rw [hdt, txtA_cons t _ hd1] at hq
   simp only [List.length_append, List.length_cons] at hq
   go_wp2_with (first | (go_at_call 28; refine (IH.out _ _ ys HB.out HO.out (by omega)).mono ?_; rintro e w1 ⟨v1, rfl, hown, hb⟩; obtain ⟨z1, hz⟩ : ∃ z, z = ys ++ txt t := ⟨_, rfl⟩; rw [← hz] at hown; have hn : z1.length ≤ ys.length + (txt t).length := (by rw [hz]; simp only [List.length_append] <;> omega); have HZz1 := Aside0.mk hz; clear hz; obtain ⟨A1, q1, rfl⟩ := Go.Proofs.YtnajijaachgipaaDoorW.PrintWords.own_slice hown; clear HO HB; have HO := Aside0.mk hown; have HB := Aside0.mk hb; have c4 := blw_cell hb h4; have c3 := blw_cell hb h3; (try have ck := blw_cell hb hk0); (try have cp := blw_cell hb hp0); clear hown hb) | ((with_reducible refine gate_builtin (b := .append) (xs := #[_, _]) rfl ?_); at_builtin; refine print_append_num (w0 := w0) w0.heap.size ?hgd_z2 ?os_z2 ?ox_z2 47 5 .u8 1 ?ho_z2 Tryd.underlying47 info_u8 (by decide) ?ov_z2 z1 44 ?hs_z2 ?hx_z2 ?HO_z2 HB.out HB.out.size (by (try simp only [List.length_append, List.length_singleton, bytesOf_length]); omega) ?_; (case hgd_z2 => rfl); (case ho_z2 => rfl); (case hs_z2 => rfl); (case hx_z2 => rfl); (case HO_z2 => exact HO.out); intro v1 w1 hown hb hg hat; obtain ⟨z2, hz⟩ : ∃ z, z = z1 ++ [44] := ⟨_, rfl⟩; rw [← hz] at hown; have hn : z2.length ≤ z1.length + 1 := (by rw [hz]; simp only [List.length_append, List.length_singleton, bytesOf_length] <;> omega); have HZz2 := Aside0.mk hz; clear hz; obtain ⟨A1, q1, rfl⟩ := Go.Proofs.YtnajijaachgipaaDoorW.PrintWords.own_slice hown; clear HO HB; have HO := Aside0.mk hown; have HB := Aside0.mk hb; have c4 := blw_cell hb h4; have c3 := blw_cell hb h3; (try have ck := blw_cell hb hk0); (try have cp := blw_cell hb hp0); clear hown hb hg hat))
   go_roundg k
   case measure => omega
   case rel =>
    refine ⟨j + 1, A1, q1, z2, rfl, rfl, ⟨⟨HO.out, HB.out, by omega, ?_⟩⟩⟩
    have := HE.out
    rw [hdt, txtA_cons t _ hd1] at this
    rw [HZz2.out, HZz1.out, ← this]
    simp
set_option maxHeartbeats 2000000 in
set_option maxRecDepth 100000 in
theorem mar_arr0 (b o : Nat) (w0 w : World) (v : Value) (xs : List Int) (h4 : w0.cell? ⟨b, o + 4, none⟩ = some (.int .i64 2)) (h3 : w0.cell? ⟨b, o + 2, none⟩ = some (.slice none 0 0))
  (hB : Below w0.heap.size w0 w) (ho : w.ownsRow w0.heap.size 5 1 v xs.length (nums .u8 xs)) (hl : xs.length + 2 < 140737488355328) :
  Calls Tryd.prog 28 #[.pointer (some ⟨b, o, none⟩), v] w (MP w0 (xs ++ 91 :: [93])) := by
 obtain ⟨A0, q0, rfl⟩ := Go.Proofs.YtnajijaachgipaaDoorW.PrintWords.own_slice ho; have c4 := blw_cell hB h4; have c3 := blw_cell hB h3; have HO := Aside0.mk ho; have HB := Aside0.mk hB; clear ho hB; go_enter Tryd.func28, Tryd.ntmps28
 go_wp2_with (first | ((with_reducible refine gate_builtin (b := .append) (xs := #[_, _]) rfl ?_); at_builtin; refine print_append_num (w0 := w0) w0.heap.size ?hgd_x1 ?os_x1 ?ox_x1 47 5 .u8 1 ?ho_x1 Tryd.underlying47 info_u8 (by decide) ?ov_x1 xs 91 ?hs_x1 ?hx_x1 ?HO_x1 HB.out HB.out.size (by (try simp only [List.length_append, List.length_singleton, bytesOf_length]); omega) ?_; (case hgd_x1 => rfl); (case ho_x1 => rfl); (case hs_x1 => rfl); (case hx_x1 => rfl); (case HO_x1 => exact HO.out); intro v1 w1 hown hb hg hat; obtain ⟨x1, hz⟩ : ∃ z, z = xs ++ [91] := ⟨_, rfl⟩; rw [← hz] at hown; have hn : x1.length ≤ xs.length + 1 := (by rw [hz]; simp only [List.length_append, List.length_singleton, bytesOf_length] <;> omega); have HZx1 := Aside0.mk hz; clear hz; obtain ⟨A1, q1, rfl⟩ := Go.Proofs.YtnajijaachgipaaDoorW.PrintWords.own_slice hown; clear HO HB; have HO := Aside0.mk hown; have HB := Aside0.mk hb; have c4 := blw_cell hb h4; have c3 := blw_cell hb h3; (try have ck := blw_cell hb hk0); (try have cp := blw_cell hb hp0); clear hown hb hg hat))
 go_loopg [1, 44] 0 (fun kq v1 v44 wr => v1 = .slice A1 x1.length q1 ∧ v44 = .int .i64 0 ∧ wr = w1)
 case atStart => exact ⟨rfl, rfl, rfl⟩
 case round =>
  obtain ⟨rfl, rfl, rfl⟩ := hrel
  go_wp2_with (first | ((with_reducible refine gate_builtin (b := .append) (xs := #[_, _]) rfl ?_); at_builtin; refine print_append_num (w0 := w0) w0.heap.size ?hgd_x2 ?os_x2 ?ox_x2 47 5 .u8 1 ?ho_x2 Tryd.underlying47 info_u8 (by decide) ?ov_x2 x1 93 ?hs_x2 ?hx_x2 ?HO_x2 HB.out HB.out.size (by (try simp only [List.length_append, List.length_singleton, bytesOf_length]); omega) ?_; (case hgd_x2 => rfl); (case ho_x2 => rfl); (case hs_x2 => rfl); (case hx_x2 => rfl); (case HO_x2 => exact HO.out); intro v1 w1 hown hb hg hat; obtain ⟨x2, hz⟩ : ∃ z, z = x1 ++ [93] := ⟨_, rfl⟩; rw [← hz] at hown; have hn : x2.length ≤ x1.length + 1 := (by rw [hz]; simp only [List.length_append, List.length_singleton, bytesOf_length] <;> omega); have HZx2 := Aside0.mk hz; clear hz; obtain ⟨A1, q1, rfl⟩ := Go.Proofs.YtnajijaachgipaaDoorW.PrintWords.own_slice hown; clear HO HB; have HO := Aside0.mk hown; have HB := Aside0.mk hb; have c4 := blw_cell hb h4; have c3 := blw_cell hb h3; (try have ck := blw_cell hb hk0); (try have cp := blw_cell hb hp0); clear hown hb hg hat))
  go_ret
  refine ⟨_, rfl, ?_, HB.out⟩
  have hx : xs ++ 91 :: [93] = x2 := by rw [HZx2.out, HZx1.out]; simp
  rw [hx]
  exact HO.out
/-! ### objects -/
theorem txtO_cons (k : ByteArray) (ks : List ByteArray) (t : FT) (ts : List FT) (h : ts ≠ []) : txtO (k :: ks) (t :: ts) = 34 :: (bytesOf k ++ 34 :: 58 :: (txt t ++ 44 :: txtO ks ts)) := by
 cases ts with
 | nil => exact absurd rfl h
 | cons a l => rw [txtO]; rfl
theorem txtO_one (k : ByteArray) (ks : List ByteArray) (t : FT) : txtO (k :: ks) [t] = 34 :: (bytesOf k ++ 34 :: 58 :: txt t) := by
 rw [txtO]; rfl
theorem txtO_len : ∀ (ks : List ByteArray) (ts : List FT), ts.length ≤ (txtO ks ts).length
 | _, [] => by simp
 | _, [t] => by simp [txtO]
 | ks, t :: t2 :: ts => by
  have := txtO_len ks.tail (t2 :: ts)
  simp only [txtO, List.length_append, List.length_cons] at this ⊢
  omega
structure OL (w0 : World) (xs : List Int) (ks : List ByteArray) (ts : List FT) (kq j : Nat) (A : Option Addr) (q : Nat) (ys : List Int) (wr : World) : Prop where
 own : wr.ownsRow w0.heap.size 5 1 (.slice A ys.length q) ys.length (nums .u8 ys)
 blw : Below w0.heap.size w0 wr
 num : j + kq = ts.length
 eq : ys ++ txtO (ks.drop j) (ts.drop j) = xs ++ 123 :: txtO ks ts
set_option maxHeartbeats 2000000 in
set_option maxRecDepth 100000 in
theorem mar_obj0 (b o : Nat) (w0 w : World) (v : Value) (xs : List Int) (h4 : w0.cell? ⟨b, o + 1, none⟩ = some (.bool false)) (h3 : w0.cell? ⟨b, o, none⟩ = some (.slice none 0 0))
  (hB : Below w0.heap.size w0 w) (ho : w.ownsRow w0.heap.size 5 1 v xs.length (nums .u8 xs)) (hl : xs.length + 2 < 140737488355328) :
  Calls Tryd.prog 35 #[.pointer (some ⟨b, o, none⟩), v] w (MP w0 (xs ++ 123 :: [125])) := by
 have c4 := blw_cell hB h4; have c3 := blw_cell hB h3; obtain ⟨A0, q0, rfl⟩ := Go.Proofs.YtnajijaachgipaaDoorW.PrintWords.own_slice ho; have HO := Aside0.mk ho; have HB := Aside0.mk hB; clear ho hB; go_enter Tryd.func35, Tryd.ntmps35
 go_wp2_with (first | ((with_reducible refine gate_builtin (b := .append) (xs := #[_, _]) rfl ?_); at_builtin; refine print_append_num (w0 := w0) w0.heap.size ?hgd_x1 ?os_x1 ?ox_x1 47 5 .u8 1 ?ho_x1 Tryd.underlying47 info_u8 (by decide) ?ov_x1 xs 123 ?hs_x1 ?hx_x1 ?HO_x1 HB.out HB.out.size (by (try simp only [List.length_append, List.length_singleton, bytesOf_length]); omega) ?_; (case hgd_x1 => rfl); (case ho_x1 => rfl); (case hs_x1 => rfl); (case hx_x1 => rfl); (case HO_x1 => exact HO.out); intro v1 w1 hown hb hg hat; obtain ⟨x1, hz⟩ : ∃ z, z = xs ++ [123] := ⟨_, rfl⟩; rw [← hz] at hown; have hn : x1.length ≤ xs.length + 1 := (by rw [hz]; simp only [List.length_append, List.length_singleton, bytesOf_length] <;> omega); have HZx1 := Aside0.mk hz; clear hz; obtain ⟨A1, q1, rfl⟩ := Go.Proofs.YtnajijaachgipaaDoorW.PrintWords.own_slice hown; clear HO HB; have HO := Aside0.mk hown; have HB := Aside0.mk hb; have c4 := blw_cell hb h4; have c3 := blw_cell hb h3; (try have ck := blw_cell hb hk0); (try have cp := blw_cell hb hp0); clear hown hb hg hat))
 go_loopg [1, 17] 0 (fun kq v1 v17 wr => v1 = .slice A1 x1.length q1 ∧ v17 = .int .i64 0 ∧ wr = w1)
 case atStart => exact ⟨rfl, rfl, rfl⟩
 case round =>
  obtain ⟨rfl, rfl, rfl⟩ := hrel
  go_wp2_with (first | ((with_reducible refine gate_builtin (b := .append) (xs := #[_, _]) rfl ?_); at_builtin; refine print_append_num (w0 := w0) w0.heap.size ?hgd_x2 ?os_x2 ?ox_x2 47 5 .u8 1 ?ho_x2 Tryd.underlying47 info_u8 (by decide) ?ov_x2 x1 125 ?hs_x2 ?hx_x2 ?HO_x2 HB.out HB.out.size (by (try simp only [List.length_append, List.length_singleton, bytesOf_length]); omega) ?_; (case hgd_x2 => rfl); (case ho_x2 => rfl); (case hs_x2 => rfl); (case hx_x2 => rfl); (case HO_x2 => exact HO.out); intro v1 w1 hown hb hg hat; obtain ⟨x2, hz⟩ : ∃ z, z = x1 ++ [125] := ⟨_, rfl⟩; rw [← hz] at hown; have hn : x2.length ≤ x1.length + 1 := (by rw [hz]; simp only [List.length_append, List.length_singleton, bytesOf_length] <;> omega); have HZx2 := Aside0.mk hz; clear hz; obtain ⟨A1, q1, rfl⟩ := Go.Proofs.YtnajijaachgipaaDoorW.PrintWords.own_slice hown; clear HO HB; have HO := Aside0.mk hown; have HB := Aside0.mk hb; have c4 := blw_cell hb h4; have c3 := blw_cell hb h3; (try have ck := blw_cell hb hk0); (try have cp := blw_cell hb hp0); clear hown hb hg hat))
  go_ret
  refine ⟨_, rfl, ?_, HB.out⟩
  have hx : xs ++ 123 :: [125] = x2 := by rw [HZx2.out, HZx1.out]; simp
  rw [hx]
  exact HO.out
set_option maxHeartbeats 2000000 in
set_option maxRecDepth 100000 in
theorem mar_obj (ks : List ByteArray) (ts : List FT) (ps : List (Nat × Nat)) (ad c : Nat) (b o : Nat) (w0 w : World) (v : Value) (xs : List Int) (h4 : w0.cell? ⟨b, o + 1, none⟩ = some (.bool false)) (h3 : w0.cell? ⟨b, o, none⟩ = some (.slice (some ⟨ad, 0, none⟩) ts.length c)) (hpl : ps.length = ts.length) (hkl : ks.length = ts.length)
  (hs : ∀ (j : Nat) (k : ByteArray), ks[j]? = some k → w0.cell? ⟨ad, j * 2, none⟩ = some (.string k))
  (he : ∀ (j : Nat) (p : Nat × Nat), ps[j]? = some p → w0.cell? ⟨ad, j * 2 + 1, none⟩ = some (.pointer (some ⟨p.1, p.2, none⟩)))
  (ih : ∀ (j : Nat) (p : Nat × Nat) (t : FT), ps[j]? = some p → ts[j]? = some t → ∀ (w : World) (v : Value) (xs : List Int), Below w0.heap.size w0 w → w.ownsRow w0.heap.size 5 1 v xs.length (nums .u8 xs) → xs.length + (txt t).length < 140737488355328 → Calls Tryd.prog 28 #[.pointer (some ⟨p.1, p.2, none⟩), v] w (MP w0 (xs ++ txt t)))
  (hB : Below w0.heap.size w0 w) (ho : w.ownsRow w0.heap.size 5 1 v xs.length (nums .u8 xs)) (hl : xs.length + (txtO ks ts).length + 2 < 140737488355328) :
  Calls Tryd.prog 35 #[.pointer (some ⟨b, o, none⟩), v] w (MP w0 (xs ++ 123 :: (txtO ks ts ++ [125]))) := by
 have c4 := blw_cell hB h4; have c3 := blw_cell hB h3; obtain ⟨A0, q0, rfl⟩ := Go.Proofs.YtnajijaachgipaaDoorW.PrintWords.own_slice ho; have HO := Aside0.mk ho; have HB := Aside0.mk hB; clear ho hB; go_enter Tryd.func35, Tryd.ntmps35
 go_wp2_with (first | ((with_reducible refine gate_builtin (b := .append) (xs := #[_, _]) rfl ?_); at_builtin; refine print_append_num (w0 := w0) w0.heap.size ?hgd_x1 ?os_x1 ?ox_x1 47 5 .u8 1 ?ho_x1 Tryd.underlying47 info_u8 (by decide) ?ov_x1 xs 123 ?hs_x1 ?hx_x1 ?HO_x1 HB.out HB.out.size (by (try simp only [List.length_append, List.length_singleton, bytesOf_length]); omega) ?_; (case hgd_x1 => rfl); (case ho_x1 => rfl); (case hs_x1 => rfl); (case hx_x1 => rfl); (case HO_x1 => exact HO.out); intro v1 w1 hown hb hg hat; obtain ⟨x1, hz⟩ : ∃ z, z = xs ++ [123] := ⟨_, rfl⟩; rw [← hz] at hown; have hn : x1.length ≤ xs.length + 1 := (by rw [hz]; simp only [List.length_append, List.length_singleton, bytesOf_length] <;> omega); have HZx1 := Aside0.mk hz; clear hz; obtain ⟨A1, q1, rfl⟩ := Go.Proofs.YtnajijaachgipaaDoorW.PrintWords.own_slice hown; clear HO HB; have HO := Aside0.mk hown; have HB := Aside0.mk hb; have c4 := blw_cell hb h4; have c3 := blw_cell hb h3; (try have ck := blw_cell hb hk0); (try have cp := blw_cell hb hp0); clear hown hb hg hat))
 have HL := Aside0.mk (show OL w0 xs ks ts ts.length 0 A1 q1 x1 w1 from ⟨HO.out, HB.out, by omega, by rw [HZx1.out]; simp⟩)
 have HLEN : Aside0 (xs.length + (txtO ks ts).length + 2 < 140737488355328) := ⟨hl⟩
 clear HO HB HZx1 hl hn
 go_loopg [1, 17] ts.length (fun kq v1 v17 wr => ∃ (j : Nat) (A : Option Addr) (q : Nat) (ys : List Int), v1 = .slice A ys.length q ∧ v17 = .int .i64 (j : Int) ∧ Aside0 (OL w0 xs ks ts kq j A q ys wr))
 case atStart => exact ⟨0, _, _, _, rfl, rfl, HL⟩
 case round =>
  clear HL
  obtain ⟨j, A, q, ys, rfl, rfl, HL⟩ := hrel
  have hnum := HL.out.num
  have hlen := congrArg List.length HL.out.eq
  simp only [List.length_append, List.length_cons] at hlen
  have hq := HLEN.out
  have htl := txtO_len ks ts
  have HO := Aside0.mk HL.out.own
  have HB := Aside0.mk HL.out.blw
  have HE := Aside0.mk HL.out.eq
  have c4 := blw_cell HB.out h4
  have c3 := blw_cell HB.out h3
  clear HL
  have hq : ys.length + (txtO (ks.drop j) (ts.drop j)).length + 1 < 140737488355328 := by omega
  clear hlen
  cases gk with
  | zero =>
   have hj : j = ts.length := by omega
   have hd : decide ((j : Int) < (ts.length : Int)) = false := decide_eq_false (by omega)
   clear hnum
   go_wp2_with (first | ((with_reducible refine gate_builtin (b := .append) (xs := #[_, _]) rfl ?_); at_builtin; refine print_append_num (w0 := w0) w0.heap.size ?hgd_z1 ?os_z1 ?ox_z1 47 5 .u8 1 ?ho_z1 Tryd.underlying47 info_u8 (by decide) ?ov_z1 ys 125 ?hs_z1 ?hx_z1 ?HO_z1 HB.out HB.out.size (by (try simp only [List.length_append, List.length_singleton, bytesOf_length]); omega) ?_; (case hgd_z1 => rfl); (case ho_z1 => rfl); (case hs_z1 => rfl); (case hx_z1 => rfl); (case HO_z1 => exact HO.out); intro v1 w1 hown hb hg hat; obtain ⟨z1, hz⟩ : ∃ z, z = ys ++ [125] := ⟨_, rfl⟩; rw [← hz] at hown; have hn : z1.length ≤ ys.length + 1 := (by rw [hz]; simp only [List.length_append, List.length_singleton, bytesOf_length] <;> omega); have HZz1 := Aside0.mk hz; clear hz; obtain ⟨A1, q1, rfl⟩ := Go.Proofs.YtnajijaachgipaaDoorW.PrintWords.own_slice hown; clear HO HB; have HO := Aside0.mk hown; have HB := Aside0.mk hb; have c4 := blw_cell hb h4; have c3 := blw_cell hb h3; (try have ck := blw_cell hb hk0); (try have cp := blw_cell hb hp0); clear hown hb hg hat))
   go_ret
   refine ⟨_, rfl, ?_, HB.out⟩
   have hx : xs ++ 123 :: (txtO ks ts ++ [125]) = z1 := by
    have := HE.out
    rw [hj, List.drop_length, txtO, List.append_nil] at this
    rw [HZz1.out, this]
    simp
   rw [hx]
   exact HO.out
  | succ k =>
   have hjl : j < ts.length := by omega
   have hjp : j < ps.length := by omega
   have hjk : j < ks.length := by omega
   obtain ⟨p, hp⟩ : ∃ p, ps[j]? = some p := ⟨_, List.getElem?_eq_getElem hjp⟩
   obtain ⟨t, ht⟩ : ∃ t, ts[j]? = some t := ⟨_, List.getElem?_eq_getElem hjl⟩
   obtain ⟨s, hk⟩ : ∃ s, ks[j]? = some s := ⟨_, List.getElem?_eq_getElem hjk⟩
   have hdt : ts.drop j = t :: ts.drop (j + 1) := by
    rw [drop_at hjl]
    rw [List.getElem?_eq_getElem hjl] at ht
    rw [Option.some.inj ht]
   have hdk : ks.drop j = s :: ks.drop (j + 1) := by
    rw [drop_at hjk]
    rw [List.getElem?_eq_getElem hjk] at hk
    rw [Option.some.inj hk]
   have hk0 := hs j s hk
   have hp0 := he j p hp
   have ck := blw_cell HB.out hk0
   have cp := blw_cell HB.out hp0
   have hd : decide ((j : Int) < (ts.length : Int)) = true := decide_eq_true (by omega)
   have hj0 : (0 : Int) ≤ (j : Int) := by omega
   have hj1 : (j : Int) < (ts.length : Int) := by omega
   have hw1 := wrap_last (n := ts.length) (by omega) (by omega)
   have hw2 := wrap_next (j := j) (n := ts.length) (by omega) hjl
   have IH := Aside0.mk (ih j p t hp ht)
   have HKL := Aside0.mk hkl
   clear ih hs he hkl hpl
   by_cases hlast : j + 1 = ts.length
   ·have hm1 := is_last hlast
    have hd1 : ts.drop (j + 1) = [] := by rw [hlast, List.drop_length]
    rw [hdt, hd1, hdk, txtO_one] at hq
    simp only [List.length_append, List.length_cons, bytesOf_length] at hq
    go_wp2_with (first | ((with_reducible refine gate_builtin (b := .append) (xs := #[_, _]) rfl ?_); at_builtin; refine print_append_num (w0 := w0) w0.heap.size ?hgd_y1 ?os_y1 ?ox_y1 47 5 .u8 1 ?ho_y1 Tryd.underlying47 info_u8 (by decide) ?ov_y1 ys 34 ?hs_y1 ?hx_y1 ?HO_y1 HB.out HB.out.size (by (try simp only [List.length_append, List.length_singleton, bytesOf_length]); omega) ?_; (case hgd_y1 => rfl); (case ho_y1 => rfl); (case hs_y1 => rfl); (case hx_y1 => rfl); (case HO_y1 => exact HO.out); intro v1 w1 hown hb hg hat; obtain ⟨y1, hz⟩ : ∃ z, z = ys ++ [34] := ⟨_, rfl⟩; rw [← hz] at hown; have hn : y1.length ≤ ys.length + 1 := (by rw [hz]; simp only [List.length_append, List.length_singleton, bytesOf_length] <;> omega); have HZy1 := Aside0.mk hz; clear hz; obtain ⟨A1, q1, rfl⟩ := Go.Proofs.YtnajijaachgipaaDoorW.PrintWords.own_slice hown; clear HO HB; have HO := Aside0.mk hown; have HB := Aside0.mk hb; have c4 := blw_cell hb h4; have c3 := blw_cell hb h3; (try have ck := blw_cell hb hk0); (try have cp := blw_cell hb hp0); clear hown hb hg hat) | ((with_reducible refine gate_builtin (b := .append) (xs := #[_, _]) rfl ?_); at_builtin; refine print_append_str (w0 := w0) w0.heap.size rfl _ _ 47 9 5 rfl Tryd.underlying47 Tryd.underlying9 info_u8 _ y1 s rfl rfl HO.out HB.out HB.out.size (by (try simp only [List.length_append, List.length_singleton, bytesOf_length]); omega) ?_; intro v1 w1 hown hb hg; obtain ⟨y2, hz⟩ : ∃ z, z = y1 ++ bytesOf s := ⟨_, rfl⟩; rw [← hz] at hown; have hn : y2.length ≤ y1.length + s.size := (by rw [hz]; simp only [List.length_append, List.length_singleton, bytesOf_length] <;> omega); have HZy2 := Aside0.mk hz; clear hz; obtain ⟨A1, q1, rfl⟩ := Go.Proofs.YtnajijaachgipaaDoorW.PrintWords.own_slice hown; clear HO HB; have HO := Aside0.mk hown; have HB := Aside0.mk hb; have c4 := blw_cell hb h4; have c3 := blw_cell hb h3; (try have ck := blw_cell hb hk0); (try have cp := blw_cell hb hp0); clear hown hb hg) | ((with_reducible refine gate_builtin (b := .append) (xs := #[_, _]) rfl ?_); at_builtin; refine print_append_num (w0 := w0) w0.heap.size ?hgd_y3 ?os_y3 ?ox_y3 47 5 .u8 1 ?ho_y3 Tryd.underlying47 info_u8 (by decide) ?ov_y3 y2 34 ?hs_y3 ?hx_y3 ?HO_y3 HB.out HB.out.size (by (try simp only [List.length_append, List.length_singleton, bytesOf_length]); omega) ?_; (case hgd_y3 => rfl); (case ho_y3 => rfl); (case hs_y3 => rfl); (case hx_y3 => rfl); (case HO_y3 => exact HO.out); intro v1 w1 hown hb hg hat; obtain ⟨y3, hz⟩ : ∃ z, z = y2 ++ [34] := ⟨_, rfl⟩; rw [← hz] at hown; have hn : y3.length ≤ y2.length + 1 := (by rw [hz]; simp only [List.length_append, List.length_singleton, bytesOf_length] <;> omega); have HZy3 := Aside0.mk hz; clear hz; obtain ⟨A1, q1, rfl⟩ := Go.Proofs.YtnajijaachgipaaDoorW.PrintWords.own_slice hown; clear HO HB; have HO := Aside0.mk hown; have HB := Aside0.mk hb; have c4 := blw_cell hb h4; have c3 := blw_cell hb h3; (try have ck := blw_cell hb hk0); (try have cp := blw_cell hb hp0); clear hown hb hg hat) | ((with_reducible refine gate_builtin (b := .append) (xs := #[_, _]) rfl ?_); at_builtin; refine print_append_num (w0 := w0) w0.heap.size ?hgd_y4 ?os_y4 ?ox_y4 47 5 .u8 1 ?ho_y4 Tryd.underlying47 info_u8 (by decide) ?ov_y4 y3 58 ?hs_y4 ?hx_y4 ?HO_y4 HB.out HB.out.size (by (try simp only [List.length_append, List.length_singleton, bytesOf_length]); omega) ?_; (case hgd_y4 => rfl); (case ho_y4 => rfl); (case hs_y4 => rfl); (case hx_y4 => rfl); (case HO_y4 => exact HO.out); intro v1 w1 hown hb hg hat; obtain ⟨y4, hz⟩ : ∃ z, z = y3 ++ [58] := ⟨_, rfl⟩; rw [← hz] at hown; have hn : y4.length ≤ y3.length + 1 := (by rw [hz]; simp only [List.length_append, List.length_singleton, bytesOf_length] <;> omega); have HZy4 := Aside0.mk hz; clear hz; obtain ⟨A1, q1, rfl⟩ := Go.Proofs.YtnajijaachgipaaDoorW.PrintWords.own_slice hown; clear HO HB; have HO := Aside0.mk hown; have HB := Aside0.mk hb; have c4 := blw_cell hb h4; have c3 := blw_cell hb h3; (try have ck := blw_cell hb hk0); (try have cp := blw_cell hb hp0); clear hown hb hg hat) | (go_at_call 28; refine (IH.out _ _ y4 HB.out HO.out (by omega)).mono ?_; rintro e w1 ⟨v1, rfl, hown, hb⟩; obtain ⟨z1, hz⟩ : ∃ z, z = y4 ++ txt t := ⟨_, rfl⟩; rw [← hz] at hown; have hn : z1.length ≤ y4.length + (txt t).length := (by rw [hz]; simp only [List.length_append] <;> omega); have HZz1 := Aside0.mk hz; clear hz; obtain ⟨A1, q1, rfl⟩ := Go.Proofs.YtnajijaachgipaaDoorW.PrintWords.own_slice hown; clear HO HB; have HO := Aside0.mk hown; have HB := Aside0.mk hb; have c4 := blw_cell hb h4; have c3 := blw_cell hb h3; (try have ck := blw_cell hb hk0); (try have cp := blw_cell hb hp0); clear hown hb))
    go_roundg k
    case measure => omega
    case rel =>
     refine ⟨j + 1, A1, q1, z1, rfl, rfl, ⟨⟨HO.out, HB.out, by omega, ?_⟩⟩⟩
     have := HE.out
     rw [hdt, hdk, hd1, txtO_one] at this
     rw [hd1, txtO, List.append_nil, HZz1.out, HZy4.out, HZy3.out, HZy2.out, HZy1.out, ← this]
     simp
   have hm1 := no_last hlast
   have hd1 := drop_ne hjl hlast
   rw [hdt, hdk, txtO_cons _ _ t _ hd1] at hq
   simp only [List.length_append, List.length_cons, bytesOf_length] at hq
   go_wp2_with (first | ((with_reducible refine gate_builtin (b := .append) (xs := #[_, _]) rfl ?_); at_builtin; refine print_append_num (w0 := w0) w0.heap.size ?hgd_r1 ?os_r1 ?ox_r1 47 5 .u8 1 ?ho_r1 Tryd.underlying47 info_u8 (by decide) ?ov_r1 ys 34 ?hs_r1 ?hx_r1 ?HO_r1 HB.out HB.out.size (by (try simp only [List.length_append, List.length_singleton, bytesOf_length]); omega) ?_; (case hgd_r1 => rfl); (case ho_r1 => rfl); (case hs_r1 => rfl); (case hx_r1 => rfl); (case HO_r1 => exact HO.out); intro v1 w1 hown hb hg hat; obtain ⟨r1, hz⟩ : ∃ z, z = ys ++ [34] := ⟨_, rfl⟩; rw [← hz] at hown; have hn : r1.length ≤ ys.length + 1 := (by rw [hz]; simp only [List.length_append, List.length_singleton, bytesOf_length] <;> omega); have HZr1 := Aside0.mk hz; clear hz; obtain ⟨A1, q1, rfl⟩ := Go.Proofs.YtnajijaachgipaaDoorW.PrintWords.own_slice hown; clear HO HB; have HO := Aside0.mk hown; have HB := Aside0.mk hb; have c4 := blw_cell hb h4; have c3 := blw_cell hb h3; (try have ck := blw_cell hb hk0); (try have cp := blw_cell hb hp0); clear hown hb hg hat) | ((with_reducible refine gate_builtin (b := .append) (xs := #[_, _]) rfl ?_); at_builtin; refine print_append_str (w0 := w0) w0.heap.size rfl _ _ 47 9 5 rfl Tryd.underlying47 Tryd.underlying9 info_u8 _ r1 s rfl rfl HO.out HB.out HB.out.size (by (try simp only [List.length_append, List.length_singleton, bytesOf_length]); omega) ?_; intro v1 w1 hown hb hg; obtain ⟨r2, hz⟩ : ∃ z, z = r1 ++ bytesOf s := ⟨_, rfl⟩; rw [← hz] at hown; have hn : r2.length ≤ r1.length + s.size := (by rw [hz]; simp only [List.length_append, List.length_singleton, bytesOf_length] <;> omega); have HZr2 := Aside0.mk hz; clear hz; obtain ⟨A1, q1, rfl⟩ := Go.Proofs.YtnajijaachgipaaDoorW.PrintWords.own_slice hown; clear HO HB; have HO := Aside0.mk hown; have HB := Aside0.mk hb; have c4 := blw_cell hb h4; have c3 := blw_cell hb h3; (try have ck := blw_cell hb hk0); (try have cp := blw_cell hb hp0); clear hown hb hg) | ((with_reducible refine gate_builtin (b := .append) (xs := #[_, _]) rfl ?_); at_builtin; refine print_append_num (w0 := w0) w0.heap.size ?hgd_r3 ?os_r3 ?ox_r3 47 5 .u8 1 ?ho_r3 Tryd.underlying47 info_u8 (by decide) ?ov_r3 r2 34 ?hs_r3 ?hx_r3 ?HO_r3 HB.out HB.out.size (by (try simp only [List.length_append, List.length_singleton, bytesOf_length]); omega) ?_; (case hgd_r3 => rfl); (case ho_r3 => rfl); (case hs_r3 => rfl); (case hx_r3 => rfl); (case HO_r3 => exact HO.out); intro v1 w1 hown hb hg hat; obtain ⟨r3, hz⟩ : ∃ z, z = r2 ++ [34] := ⟨_, rfl⟩; rw [← hz] at hown; have hn : r3.length ≤ r2.length + 1 := (by rw [hz]; simp only [List.length_append, List.length_singleton, bytesOf_length] <;> omega); have HZr3 := Aside0.mk hz; clear hz; obtain ⟨A1, q1, rfl⟩ := Go.Proofs.YtnajijaachgipaaDoorW.PrintWords.own_slice hown; clear HO HB; have HO := Aside0.mk hown; have HB := Aside0.mk hb; have c4 := blw_cell hb h4; have c3 := blw_cell hb h3; (try have ck := blw_cell hb hk0); (try have cp := blw_cell hb hp0); clear hown hb hg hat) | ((with_reducible refine gate_builtin (b := .append) (xs := #[_, _]) rfl ?_); at_builtin; refine print_append_num (w0 := w0) w0.heap.size ?hgd_r4 ?os_r4 ?ox_r4 47 5 .u8 1 ?ho_r4 Tryd.underlying47 info_u8 (by decide) ?ov_r4 r3 58 ?hs_r4 ?hx_r4 ?HO_r4 HB.out HB.out.size (by (try simp only [List.length_append, List.length_singleton, bytesOf_length]); omega) ?_; (case hgd_r4 => rfl); (case ho_r4 => rfl); (case hs_r4 => rfl); (case hx_r4 => rfl); (case HO_r4 => exact HO.out); intro v1 w1 hown hb hg hat; obtain ⟨r4, hz⟩ : ∃ z, z = r3 ++ [58] := ⟨_, rfl⟩; rw [← hz] at hown; have hn : r4.length ≤ r3.length + 1 := (by rw [hz]; simp only [List.length_append, List.length_singleton, bytesOf_length] <;> omega); have HZr4 := Aside0.mk hz; clear hz; obtain ⟨A1, q1, rfl⟩ := Go.Proofs.YtnajijaachgipaaDoorW.PrintWords.own_slice hown; clear HO HB; have HO := Aside0.mk hown; have HB := Aside0.mk hb; have c4 := blw_cell hb h4; have c3 := blw_cell hb h3; (try have ck := blw_cell hb hk0); (try have cp := blw_cell hb hp0); clear hown hb hg hat) | (go_at_call 28; refine (IH.out _ _ r4 HB.out HO.out (by omega)).mono ?_; rintro e w1 ⟨v1, rfl, hown, hb⟩; obtain ⟨z1, hz⟩ : ∃ z, z = r4 ++ txt t := ⟨_, rfl⟩; rw [← hz] at hown; have hn : z1.length ≤ r4.length + (txt t).length := (by rw [hz]; simp only [List.length_append] <;> omega); have HZz1 := Aside0.mk hz; clear hz; obtain ⟨A1, q1, rfl⟩ := Go.Proofs.YtnajijaachgipaaDoorW.PrintWords.own_slice hown; clear HO HB; have HO := Aside0.mk hown; have HB := Aside0.mk hb; have c4 := blw_cell hb h4; have c3 := blw_cell hb h3; (try have ck := blw_cell hb hk0); (try have cp := blw_cell hb hp0); clear hown hb) | ((with_reducible refine gate_builtin (b := .append) (xs := #[_, _]) rfl ?_); at_builtin; refine print_append_num (w0 := w0) w0.heap.size ?hgd_z2 ?os_z2 ?ox_z2 47 5 .u8 1 ?ho_z2 Tryd.underlying47 info_u8 (by decide) ?ov_z2 z1 44 ?hs_z2 ?hx_z2 ?HO_z2 HB.out HB.out.size (by (try simp only [List.length_append, List.length_singleton, bytesOf_length]); omega) ?_; (case hgd_z2 => rfl); (case ho_z2 => rfl); (case hs_z2 => rfl); (case hx_z2 => rfl); (case HO_z2 => exact HO.out); intro v1 w1 hown hb hg hat; obtain ⟨z2, hz⟩ : ∃ z, z = z1 ++ [44] := ⟨_, rfl⟩; rw [← hz] at hown; have hn : z2.length ≤ z1.length + 1 := (by rw [hz]; simp only [List.length_append, List.length_singleton, bytesOf_length] <;> omega); have HZz2 := Aside0.mk hz; clear hz; obtain ⟨A1, q1, rfl⟩ := Go.Proofs.YtnajijaachgipaaDoorW.PrintWords.own_slice hown; clear HO HB; have HO := Aside0.mk hown; have HB := Aside0.mk hb; have c4 := blw_cell hb h4; have c3 := blw_cell hb h3; (try have ck := blw_cell hb hk0); (try have cp := blw_cell hb hp0); clear hown hb hg hat))
   go_roundg k
   case measure => omega
   case rel =>
    refine ⟨j + 1, A1, q1, z2, rfl, rfl, ⟨⟨HO.out, HB.out, by omega, ?_⟩⟩⟩
    have := HE.out
    rw [hdt, hdk, txtO_cons _ _ t _ hd1] at this
    rw [HZz2.out, HZz1.out, HZr4.out, HZr3.out, HZr2.out, HZr1.out, ← this]
    simp
set_option maxHeartbeats 2000000 in
set_option maxRecDepth 100000 in
theorem mar_objv (b o : Nat) (w0 w : World) (v : Value) (xs r : List Int) (h4 : w0.cell? ⟨b, o + 4, none⟩ = some (.int .i64 1)) (hB : Below w0.heap.size w0 w) (ho : w.ownsRow w0.heap.size 5 1 v xs.length (nums .u8 xs))
  (h : Calls Tryd.prog 35 #[.pointer (some ⟨b, o, none⟩), v] w (MP w0 r)) :
  Calls Tryd.prog 28 #[.pointer (some ⟨b, o, none⟩), v] w (MP w0 r) := by
 have c4 := blw_cell hB h4
 obtain ⟨A0, q0, rfl⟩ := Go.Proofs.YtnajijaachgipaaDoorW.PrintWords.own_slice ho
 have HC := Aside0.mk h
 clear ho hB h
 go_enter Tryd.func28, Tryd.ntmps28
 go_wp2_with (go_at_call 35; refine HC.out.mono ?_; rintro e w1 ⟨v1, rfl, hown, hb⟩; obtain ⟨A1, q1, rfl⟩ := Go.Proofs.YtnajijaachgipaaDoorW.PrintWords.own_slice hown; have HO := Aside0.mk hown; have HB := Aside0.mk hb; clear hown hb)
 go_ret
 exact ⟨_, rfl, HO.out, HB.out⟩
/-! ### all -/
theorem mar {w0 : World} {P : Nat → Nat → Prop} {b o : Nat} {t : FT} (h : Lies w0 P b o t) (hm : Made t) : ∀ (w : World) (v : Value) (xs : List Int), Below w0.heap.size w0 w → w.ownsRow w0.heap.size 5 1 v xs.length (nums .u8 xs) → xs.length + (txt t).length < 140737488355328 → Calls Tryd.prog 28 #[.pointer (some ⟨b, o, none⟩), v] w (MP w0 (xs ++ txt t)) := by
 induction h with
 | @leaf b o k s h1 h2 c3 p3 c4 p4 =>
  intro w v xs hB ho hl
  cases hm with
  | leaf hk =>
   rcases hk with rfl | rfl | rfl | rfl | rfl
   ·simp only [txt] at hl ⊢
    exact mar_str s b o w0 w v xs c4 c3 hB ho (by simpa [bytesOf_length, Nat.add_assoc] using hl)
   ·simp only [txt] at hl ⊢
    exact mar_num s b o w0 w v xs c4 c3 hB ho (by simpa [bytesOf_length] using hl)
   ·simp only [txt] at hl ⊢
    exact mar_true s b o w0 w v xs c4 c3 hB ho (by simpa using hl)
   ·simp only [txt] at hl ⊢
    exact mar_false s b o w0 w v xs c4 c3 hB ho (by simpa using hl)
   simp only [txt] at hl ⊢
   exact mar_null s b o w0 w v xs c4 c3 hB ho (by simpa using hl)
  | arr => exact absurd rfl h2
  | obj => exact absurd rfl h1
 | @arr b o ad v0 ts ps c4 p4 c2 p2 hv hpl he hk ih =>
  intro w v xs hB ho hl
  have hms : ∀ t ∈ ts, Made t := by
   cases hm with
   | leaf hk => omega
   | arr h => exact h
  have ht : txt (.mk 2 ByteArray.empty [] ts) = 91 :: (txtA ts ++ [93]) := by simp [txt]
  rw [ht] at hl ⊢
  rcases hv with ⟨rfl, rfl⟩ | ⟨c, rfl⟩
  ·exact mar_arr0 b o w0 w v xs c4 c2 hB ho (by simpa [txtA] using hl)
  exact mar_arr ts ps ad c b o w0 w v xs c4 c2 hpl (fun j p hp => (he j p hp).1) (fun j p t hp ht => ih j p t hp ht (hms t (List.mem_of_getElem? ht))) hB ho (by simp only [List.length_cons, List.length_append, List.length_nil] at hl; omega)
 | @obj b o ad v0 ks ts ps c4 p4 c1 p1 c0 p0 hv hpl hkl hs he hk ih =>
  intro w v xs hB ho hl
  have hms : ∀ t ∈ ts, Made t := by
   cases hm with
   | leaf hk => omega
   | obj _ h => exact h
  have ht : txt (.mk 1 ByteArray.empty ks ts) = 123 :: (txtO ks ts ++ [125]) := by simp [txt]
  rw [ht] at hl ⊢
  refine mar_objv b o w0 w v xs _ c4 hB ho ?_
  rcases hv with ⟨rfl, rfl⟩ | ⟨c, rfl⟩
  ·exact mar_obj0 b o w0 w v xs c1 c0 hB ho (by simpa [txtO] using hl)
  exact mar_obj ks ts ps ad c b o w0 w v xs c1 c0 hpl hkl (fun j k hk => (hs j k hk).1) (fun j p hp => (he j p hp).1) (fun j p t hp ht => ih j p t hp ht (hms t (List.mem_of_getElem? ht))) hB ho (by simp only [List.length_cons, List.length_append, List.length_nil] at hl; omega)
end FJ
end Go.Proofs.YtnajijaachgipaaDoor.PR
end
section
namespace Go.Proofs.YtnajijaachgipaaDoor.J
open Go.RowKit Go.Proofs.YtnajijaachgipaaDoorW.PrintWords Go.Proofs.YtnajijaachgipaaDoorW.PrintLast
def IsB (l : List Int) : Prop := ∀ x ∈ l, 0 ≤ x ∧ x ≤ 255
theorem IsB.append {a b : List Int} (h : IsB a) (k : IsB b) : IsB (a ++ b) := fun x hx => by
 rcases List.mem_append.1 hx with g | g
 ·exact h x g
 exact k x g
theorem IsB.left {a b : List Int} (h : IsB (a ++ b)) : IsB a := fun x hx => h x (List.mem_append_left _ hx)
theorem IsB.right {a b : List Int} (h : IsB (a ++ b)) : IsB b := fun x hx => h x (List.mem_append_right _ hx)
theorem u8_back (b : UInt8) : UInt8.ofNat ((b.toNat : Int)).toNat = b := by simp
theorem str_bytesOf (s : ByteArray) : strOfNums (bytesOf s) = s := by
 apply ByteArray.ext
 apply Array.ext'
 rw [strOfNums_data]
 simp only [bytesOf, List.map_map]
 conv => rhs; rw [← List.map_id s.data.toList]
 apply List.map_congr_left
 intro b _
 exact u8_back b
theorem bytesOf_inj {a b : ByteArray} (h : bytesOf a = bytesOf b) : a = b := by
 rw [← str_bytesOf a, h, str_bytesOf]
theorem bytesOf_append (a b : ByteArray) : bytesOf (a ++ b) = bytesOf a ++ bytesOf b := by
 simp [bytesOf]
theorem bytesOf_extract (s : ByteArray) (a b : Nat) : bytesOf (s.extract a b) = ((bytesOf s).take b).drop a := by
 simp [bytesOf, List.map_drop, List.map_take, List.extract, List.drop_take]
theorem bt_get (s : ByteArray) (i : Int) : bt s i = (bytesOf s).getD i.toNat 0 := (rd_bytesOf s i).symm
theorem bt_nat (s : ByteArray) (i : Nat) : bt s i = (bytesOf s).getD i 0 := by rw [bt_get, Int.toNat_natCast]
theorem toList_iff (a b : ByteArray) : a.toList = b.toList ↔ bytesOf a = bytesOf b := by
 constructor
 ·intro h
  rw [Go.ByteArray.toList_eq, Go.ByteArray.toList_eq] at h
  simp only [bytesOf, h]
 intro h
 rw [bytesOf_inj h]
theorem wr {x : Int} (h0 : -9223372036854775808 ≤ x) (h1 : x ≤ 9223372036854775807) : wrap64 x = x := by
 unfold wrap64; omega
theorem bt_lo (s : ByteArray) (i : Int) : 0 ≤ bt s i := (bt_range s i).1
theorem bt_hi (s : ByteArray) (i : Int) : bt s i ≤ 255 := (bt_range s i).2
theorem ev_const {α : Type} {g : Nat → Option α} {r : α} (h : ∀ k, g k = some r) : Ev g r := ⟨0, fun k _ => h k⟩
theorem ev_one {α : Type} {g : Nat → Option α} {r : α} (h : ∀ k, g (k + 1) = some r) : Ev g r := Ev.step h (Ev.now r)
end Go.Proofs.YtnajijaachgipaaDoor.J
end
section
namespace Go.Proofs.YtnajijaachgipaaDoor.PR
open Go.RowKit Go.Proofs.YtnajijaachgipaaDoorW.PrintWords Go.Proofs.YtnajijaachgipaaDoorW.PrintLast Go.Proofs.YtnajijaachgipaaDoorW.PrintMore Go.Proofs.YtnajijaachgipaaDoor.H
set_option linter.unusedVariables false
set_option linter.unusedSimpArgs false
namespace FJ
/-! ### more rounds -/
theorem sk_mono (k : Nat) (s : ByteArray) : LeO (sk k s) (sk (k + 1) s) := LeO.bind (fastjson_skipWS.mono s k) fun _ => LeO.refl _
theorem rs_mono (k : Nat) (s : ByteArray) : LeO (rs k s) (rs (k + 1) s) := LeO.bind (fastjson_parseRawString.mono s k) fun _ => LeO.refl _
theorem rk_mono (k : Nat) (s : ByteArray) : LeO (rk k s) (rk (k + 1) s) := LeO.bind (fastjson_parseRawKey.mono s k) fun _ => LeO.refl _
theorem rn_mono (k : Nat) (s : ByteArray) : LeO (rn k s) (rn (k + 1) s) := LeO.bind (fastjson_parseRawNumber.mono s k) fun _ => LeO.refl _
theorem word_mono {s : ByteArray} {w : List UInt8} {n : Int} {a b : Option Res} (h : LeO a b) : LeO (word s w n a) (word s w n b) := by
 unfold word
 exact LeO.ite h (LeO.ite (LeO.refl _) h)
set_option maxHeartbeats 1000000 in
theorem p_mono : ∀ k, (∀ s d, LeO (pV k s d) (pV (k + 1) s d)) ∧ (∀ s d, LeO (pA k s d) (pA (k + 1) s d)) ∧ (∀ s d ts, LeO (pAl k s d ts) (pAl (k + 1) s d ts)) ∧ (∀ s d, LeO (pO k s d) (pO (k + 1) s d)) ∧ (∀ s d ks ts, LeO (pOl k s d ks ts) (pOl (k + 1) s d ks ts))
 | 0 => ⟨fun _ _ r h => by simp [pV] at h, fun _ _ r h => by simp [pA] at h, fun _ _ _ r h => by simp [pAl] at h, fun _ _ r h => by simp [pO] at h, fun _ _ _ _ r h => by simp [pOl] at h⟩
 | k + 1 => by
  obtain ⟨iV, iA, iAl, iO, iOl⟩ := p_mono k
  refine ⟨?_, ?_, ?_, ?_, ?_⟩
  ·intro s d
   unfold pV
   refine LeO.ite (LeO.refl _) (LeO.ite (LeO.refl _) (LeO.ite (iO _ _) (LeO.ite (iA _ _) (LeO.ite (LeO.bind (rs_mono _ _) fun _ => LeO.refl _) (LeO.ite (LeO.refl _) (LeO.ite (LeO.refl _) (LeO.ite (word_mono (LeO.ite (LeO.bind (fastjson_zzFold.mono _ _ _) fun _ => LeO.refl _) (LeO.refl _))) (LeO.bind (rn_mono _ _) fun _ => LeO.refl _))))))))
  ·intro s d
   unfold pA
   exact LeO.bind (sk_mono _ _) fun x => LeO.ite (LeO.refl _) (LeO.ite (LeO.refl _) (iAl _ _ _))
  ·intro s d ts
   unfold pAl
   refine LeO.bind (sk_mono _ _) fun x => LeO.bind (iV _ _) fun r => ?_
   cases r with
   | none => exact LeO.refl _
   | some r => exact LeO.bind (sk_mono _ _) fun y => LeO.ite (LeO.refl _) (LeO.ite (iAl _ _ _) (LeO.refl _))
  ·intro s d
   unfold pO
   exact LeO.bind (sk_mono _ _) fun x => LeO.ite (LeO.refl _) (LeO.ite (LeO.refl _) (iOl _ _ _ _))
  intro s d ks ts
  unfold pOl
  refine LeO.bind (sk_mono _ _) fun x => LeO.ite (LeO.refl _) (LeO.ite (LeO.bind (rk_mono _ _) fun r => LeO.ite (LeO.refl _) (LeO.bind (sk_mono _ _) fun y => LeO.ite (LeO.refl _) (LeO.ite (LeO.bind (sk_mono _ _) fun z => LeO.bind (iV _ _) fun q => ?_) (LeO.refl _)))) (LeO.refl _))
  cases q with
  | none => exact LeO.refl _
  | some q => exact LeO.bind (sk_mono _ _) fun y => LeO.ite (LeO.refl _) (LeO.ite (iOl _ _ _ _) (LeO.refl _))
/-! ### what is made -/
theorem word_made {s : ByteArray} {w : List UInt8} {n : Int} {a : Option Res} {t : FT} {r : ByteArray} (h : word s w n a = some (some (t, r))) : t = lit n ByteArray.empty ∨ a = some (some (t, r)) := by
 unfold word at h
 split at h
 ·exact .inr h
 split at h
 ·have := Option.some.inj (Option.some.inj h)
  exact .inl (Prod.mk.inj this).1.symm
 exact .inr h
theorem leaf_made {k : Int} {x : ByteArray × ByteArray × Option Int} {t : FT} {r : ByteArray} (h : leaf k x = some (t, r)) : t = lit k x.1 := by
 unfold leaf at h
 split at h
 ·cases h
 exact (Prod.mk.inj (Option.some.inj h)).1.symm
set_option maxHeartbeats 1000000 in
theorem p_made : ∀ k, (∀ s d t r, pV k s d = some (some (t, r)) → Made t) ∧ (∀ s d t r, pA k s d = some (some (t, r)) → Made t) ∧ (∀ s d ts t r, (∀ t ∈ ts, Made t) → pAl k s d ts = some (some (t, r)) → Made t) ∧ (∀ s d t r, pO k s d = some (some (t, r)) → Made t) ∧ (∀ s d ks ts t r, ks.length = ts.length → (∀ t ∈ ts, Made t) → pOl k s d ks ts = some (some (t, r)) → Made t)
 | 0 => ⟨fun _ _ _ r h => by simp [pV] at h, fun _ _ _ r h => by simp [pA] at h, fun _ _ _ _ r _ h => by simp [pAl] at h, fun _ _ _ r h => by simp [pO] at h, fun _ _ _ _ _ r _ _ h => by simp [pOl] at h⟩
 | k + 1 => by
  obtain ⟨iV, iA, iAl, iO, iOl⟩ := p_made k
  have snoc : ∀ {ts : List FT} {t : FT}, (∀ t ∈ ts, Made t) → Made t → ∀ u ∈ ts ++ [t], Made u := fun h1 h2 u hu => by
   rcases List.mem_append.1 hu with h | h
   ·exact h1 u h
   rw [List.mem_singleton.1 h]; exact h2
  refine ⟨?_, ?_, ?_, ?_, ?_⟩
  ·intro s d t r h
   unfold pV at h
   split at h
   ·cases h
   split at h
   ·cases h
   split at h
   ·exact iO _ _ _ _ h
   split at h
   ·exact iA _ _ _ _ h
   split at h
   ·obtain ⟨q, hq, hx⟩ := Option.bind_eq_some_iff.mp h
    rw [leaf_made (Option.some.inj hx)]
    exact .leaf (.inl rfl)
   split at h
   ·rcases word_made h with rfl | e
    ·exact .leaf (.inr (.inr (.inl rfl)))
    cases e
   split at h
   ·rcases word_made h with rfl | e
    ·exact .leaf (.inr (.inr (.inr (.inl rfl))))
    cases e
   split at h
   ·rcases word_made h with rfl | e
    ·exact .leaf (.inr (.inr (.inr (.inr rfl))))
    split at e
    ·obtain ⟨q, hq, hx⟩ := Option.bind_eq_some_iff.mp e
     split at hx
     ·have := (Prod.mk.inj (Option.some.inj (Option.some.inj hx))).1
      rw [← this]
      exact .leaf (.inr (.inl rfl))
     cases hx
    cases e
   obtain ⟨q, hq, hx⟩ := Option.bind_eq_some_iff.mp h
   rw [leaf_made (Option.some.inj hx)]
   exact .leaf (.inr (.inl rfl))
  ·intro s d t r h
   unfold pA at h
   obtain ⟨q, hq, h⟩ := Option.bind_eq_some_iff.mp h
   split at h
   ·cases h
   split at h
   ·have := (Prod.mk.inj (Option.some.inj (Option.some.inj h))).1
    rw [← this]
    exact .arr (by simp)
   exact iAl _ _ _ _ _ (by simp) h
  ·intro s d ts t r hts h
   unfold pAl at h
   obtain ⟨q, hq, h⟩ := Option.bind_eq_some_iff.mp h
   obtain ⟨v, hv, h⟩ := Option.bind_eq_some_iff.mp h
   cases v with
   | none => cases h
   | some v =>
    have hm := snoc hts (iV _ _ v.1 v.2 hv)
    obtain ⟨x, hx, h⟩ := Option.bind_eq_some_iff.mp h
    split at h
    ·cases h
    split at h
    ·exact iAl _ _ _ _ _ hm h
    split at h
    ·have := (Prod.mk.inj (Option.some.inj (Option.some.inj h))).1
     rw [← this]
     exact .arr hm
    cases h
  ·intro s d t r h
   unfold pO at h
   obtain ⟨q, hq, h⟩ := Option.bind_eq_some_iff.mp h
   split at h
   ·cases h
   split at h
   ·have := (Prod.mk.inj (Option.some.inj (Option.some.inj h))).1
    rw [← this]
    exact .obj rfl (by simp)
   exact iOl _ _ _ _ _ _ rfl (by simp) h
  intro s d ks ts t r hkl hts h
  unfold pOl at h
  obtain ⟨q, hq, h⟩ := Option.bind_eq_some_iff.mp h
  split at h
  ·cases h
  split at h
  ·obtain ⟨y, hy, h⟩ := Option.bind_eq_some_iff.mp h
   split at h
   ·cases h
   obtain ⟨z, hz, h⟩ := Option.bind_eq_some_iff.mp h
   split at h
   ·cases h
   split at h
   ·obtain ⟨u, hu, h⟩ := Option.bind_eq_some_iff.mp h
    obtain ⟨v, hv, h⟩ := Option.bind_eq_some_iff.mp h
    cases v with
    | none => cases h
    | some v =>
     have hm := snoc hts (iV _ _ v.1 v.2 hv)
     obtain ⟨x, hx, h⟩ := Option.bind_eq_some_iff.mp h
     split at h
     ·cases h
     split at h
     ·exact iOl _ _ _ _ _ _ (by simp [hkl]) hm h
     split at h
     ·have := (Prod.mk.inj (Option.some.inj (Option.some.inj h))).1
      rw [← this]
      exact .obj (by simp [hkl]) hm
     cases h
   cases h
  cases h
/-! ### Parse -/
set_option maxHeartbeats 2000000 in
set_option maxRecDepth 100000 in
theorem reset_nil (g co : Nat) (w : World) (cur : Array Value) (ty : TypeId) (hh : w.heap[g]? = some (.cells cur ty (0, 0))) (hc : cur[co]? = some (.slice none 0 0)) :
  Calls Tryd.prog 48 #[.pointer (some ⟨g, co, none⟩)] w fun e w' => e = .returned (.tuple #[]) ∧ w' = w.setCell ⟨g, co, none⟩ (.slice none 0 0) := by
 have c0 : w.cell? ⟨g, co, none⟩ = some (.slice none 0 0) := by rw [cell_of_row w g co cur ty (0, 0) hh]; exact hc
 have f0 : w.frozen? ⟨g, co, none⟩ = false := by simp [World.frozen?, hh]
 have hlt : g < w.heap.size := (Array.getElem?_eq_some_iff.1 hh).1
 clear hh hc
 go_enter Tryd.func48, Tryd.ntmps48
 go_wp2
 go_loopg [10] 0 (fun kq v10 wr => v10 = .int .i64 0 ∧ wr = w)
 case atStart => exact ⟨rfl, rfl⟩
 case round =>
  obtain ⟨rfl, rfl⟩ := hrel
  go_wp2
  first | go_end0 | ((try simp only [Exit.inBlock, Exit.then]); refine bodyPost_ret (results_none rfl _ _ _) rfl ?_)
  exact ⟨rfl, rfl⟩
set_option maxHeartbeats 2000000 in
set_option maxRecDepth 100000 in
theorem b2s_calls (w : World) (base : Nat) (v : Value) (s : ByteArray) (ho : w.ownsRow base 5 1 v (bytesOf s).length (nums .u8 (bytesOf s))) :
  Calls Tryd.prog 50 #[v] w fun e w' => e = .returned (.string s) ∧ w' = w := by
 have hcv := own_string (P := Tryd.prog) Tryd.underlying47 Tryd.underlying5 Tryd.underlying9 ho
 rw [Go.Proofs.YtnajijaachgipaaDoor.J.str_bytesOf] at hcv
 obtain ⟨A0, q0, rfl⟩ := Go.Proofs.YtnajijaachgipaaDoorW.PrintWords.own_slice ho
 clear ho
 go_enter Tryd.func50, Tryd.ntmps50
 go_wp2
 go_ret
 exact ⟨rfl, rfl⟩
theorem own_far {w w1 : World} {base n : Nat} {v : Value} {xs : List Value} (h : w.ownsRow base 5 1 v n xs) (hb : ∀ k, base ≤ k → k < w.heap.size → w1.heap[k]? = w.heap[k]?) : w1.ownsRow base 5 1 v n xs := by
 refine ⟨h.1, ?_⟩
 rcases h.2 with h2 | ⟨g, cap, cur, rfl, hg, hh, h3⟩
 ·exact .inl h2
 exact .inr ⟨g, cap, cur, rfl, hg, (hb g hg (Array.getElem?_eq_some_iff.1 hh).1).trans hh, h3⟩
theorem set1 {w : World} {g : Nat} {pt : TypeId} {a b u : Value} (h : w.heap[g]? = some (.cells #[a, b] pt (0, 0))) : (w.setCell ⟨g, 0, none⟩ u).heap[g]? = some (.cells #[u, b] pt (0, 0)) := by
 rw [setCell_eq_setRow w g 0 _ pt (0, 0) u h]
 exact setRow_heap w g _ _ pt (0, 0) h
theorem set2 {w : World} {g : Nat} {pt : TypeId} {a b u v : Value} (h : w.heap[g]? = some (.cells #[a, b] pt (0, 0))) :
  ((w.setCell ⟨g, 0, none⟩ u).setCell ⟨g, 1, none⟩ v).heap[g]? = some (.cells #[u, v] pt (0, 0)) ∧ Ch w ((w.setCell ⟨g, 0, none⟩ u).setCell ⟨g, 1, none⟩ v) (fun k _ => k = g) := by
 have h1 : (w.setCell ⟨g, 0, none⟩ u).heap[g]? = some (.cells #[u, b] pt (0, 0)) := by
  rw [setCell_eq_setRow w g 0 _ pt (0, 0) u h]
  exact setRow_heap w g _ _ pt (0, 0) h
 refine ⟨?_, ((Ch.set (o := 0) h u).mono (fun _ _ _ e => e.1)).comp ((Ch.set (o := 1) h1 v).mono (fun _ _ _ e => e.1)) (fun _ _ _ e => e)⟩
 rw [setCell_eq_setRow _ g 1 _ pt (0, 0) v h1]
 exact setRow_heap _ g _ _ pt (0, 0) h1
/-- What Parse computes of a text. -/
def pP (k : Nat) (s : ByteArray) : Option (Option FT) := (sk k s).bind fun t => (pV k t 0).bind fun r => match r with
 | none => some none
 | some x => (sk k x.2).bind fun u => some (if u.size = 0 then some x.1 else none)
theorem pP_mono (k : Nat) (s : ByteArray) : LeO (pP k s) (pP (k + 1) s) := by
 refine LeO.bind (sk_mono _ _) fun t => LeO.bind ((p_mono k).1 _ _) fun r => ?_
 cases r with
 | none => exact LeO.refl _
 | some x => exact LeO.bind (sk_mono _ _) fun u => LeO.refl _
/-- What a call of Parse leaves: only the Parser is another. -/
def PPost (w : World) (g : Nat) : Option FT → Ending → World → Prop
 | none, e, w' => ∃ (et : Nat) (ep : Value), e = .returned (.tuple #[.pointer none, .iface et ep]) ∧ Ch w w' (fun k _ => k = g)
 | some t, e, w' => ∃ (b o : Nat) (P : Nat → Nat → Prop), e = .returned (.tuple #[.pointer (some ⟨b, o, none⟩), .nilIface]) ∧ Lies w' P b o t ∧ Made t ∧ Ch w w' (fun k _ => k = g)
set_option maxHeartbeats 2000000 in
set_option maxRecDepth 100000 in
theorem parse_calls (k : Nat) (s : ByteArray) (r : Option FT) (w : World) (g : Nat) (pt : TypeId) (hg : w.heap[g]? = some (.cells #[.slice none 0 0, .slice none 0 0] pt (0, 0))) (hn : s.size ≤ 100000) (h : pP k s = some r) :
  Calls Tryd.prog 27 #[.pointer (some ⟨g, 0, none⟩), .string s] w (PPost w g r) := by
 obtain ⟨t, hs, h⟩ := Option.bind_eq_some_iff.mp h
 obtain ⟨q, hq, h⟩ := Option.bind_eq_some_iff.mp h
 have HS := Aside0.mk hs
 have HQ := Aside0.mk hq
 have HH := Aside0.mk h
 have HN := Aside0.mk hn
 have c0 : w.cell? ⟨g, 0, none⟩ = some (.slice none 0 0) := by rw [cell_of_row w g 0 _ pt (0, 0) hg]; rfl
 have f0 : w.frozen? ⟨g, 0, none⟩ = false := by simp [World.frozen?, hg]
 have hlt : g < w.heap.size := (Array.getElem?_eq_some_iff.1 hg).1
 have HG := Aside0.mk hg
 have htl : t.size ≤ 140737488355328 := by have := sk_size hs; omega
 clear hs hq h hn hg
 go_enter Tryd.func27, Tryd.ntmps27
 go_wp2_with (first
  | (go_at_call 47; with_reducible refine (sk_calls HS.out _).mono ?_; rintro e w1 ⟨rfl, m1, rfl⟩)
  | ((with_reducible refine gate_builtin (b := .append) (xs := #[_, _]) rfl ?_); at_builtin; refine print_append_str (w0 := w.drewN m1) (w.drewN m1).heap.size rfl _ _ 47 9 5 rfl Tryd.underlying47 Tryd.underlying9 info_u8 (.slice none 0 0) [] t rfl rfl (World.ownsRow_nil _ _ _ _) (Below.refl _ _) (Nat.le_refl _) (by simpa using htl) ?_; intro v1 w2 hown hb hgr; rw [List.nil_append] at hown; obtain ⟨A1, q1, rfl⟩ := Go.Proofs.YtnajijaachgipaaDoorW.PrintWords.own_slice hown; have HO := Aside0.mk hown; have HB := Aside0.mk (Below.trans (drN w m1) (hb.mono (Nat.le_refl _))); have hg2 : w2.heap[g]? = some (.cells #[.slice none 0 0, .slice none 0 0] pt (0, 0)) := (HB.out.block g hlt).trans HG.out; have c2 : w2.cell? ⟨g, 0, none⟩ = some (.slice none 0 0) := (by rw [cell_of_row w2 g 0 _ pt (0, 0) hg2]; rfl); have f2 : w2.frozen? ⟨g, 0, none⟩ = false := (by simp [World.frozen?, hg2]); have hlt2 : g < w2.heap.size := (Array.getElem?_eq_some_iff.1 hg2).1; have HG2 := Aside0.mk hg2; clear hown hb hgr hg2)
  | (go_at_call 48; refine (reset_nil g 1 _ #[.slice A1 (bytesOf t).length q1, .slice none 0 0] pt ?side1 rfl).mono ?_; (case side1 => exact set1 HG2.out); rintro e w3 ⟨rfl, rfl⟩))
 obtain ⟨W5, hW5⟩ : ∃ W, W = (w2.setCell ⟨g, 0, none⟩ (.slice A1 (bytesOf t).length q1)).setCell ⟨g, 1, none⟩ (.slice none 0 0) := ⟨_, rfl⟩
 obtain ⟨hg5, hc5⟩ := set2 (u := .slice A1 (bytesOf t).length q1) (v := .slice none 0 0) HG2.out
 rw [← hW5] at hg5 hc5 ⊢
 have hsz : (w.drewN m1).heap.size = w.heap.size := rfl
 have HO5 := Aside0.mk (own_far HO.out (fun k hk hlt => hc5.block k hlt (fun _ e => by omega)))
 have HC5 := Aside0.mk (show Ch w W5 (fun k _ => k = g) from (Ch.of_below HB.out (fun k _ => k = g)).comp hc5 (fun _ _ _ e => e))
 have HS5 : Aside0 (CS zc 86 W5.drew g 1 none 0) := ⟨⟨_, pt, hg5, rfl⟩, .inl ⟨rfl, rfl⟩⟩
 have c5 : W5.cell? ⟨g, 0, none⟩ = some (.slice A1 (bytesOf t).length q1) := by rw [cell_of_row W5 g 0 _ pt (0, 0) hg5]; rfl
 have d5 : W5.drew.cell? ⟨g, 0, none⟩ = some (.slice A1 (bytesOf t).length q1) := c5
 have HT5 : Aside0 (t.size ≤ 100000) := ⟨by have := sk_size HS.out; have := HN.out; omega⟩
 clear hc5 hg5 hW5 HO HB HG2 HG c2 f2 hlt2
 have HC5' := Aside0.mk (HC5.out.comp (Ch.of_below (show Below W5.heap.size W5 W5.drew from below_drew1 (Below.refl _ _)) (fun _ _ => False)) (fun _ _ _ e => e.elim))
 have hSK : ∀ k o, k < w.heap.size → SK g 1 none (0 * 5) k o → k = g := fun k o _ e => by
  rcases e with e | ⟨c, e, _⟩
  ·exact e.1
  cases e
 clear HC5
 cases q with
 | none =>
  obtain rfl := Option.some.inj HH.out
  go_region_with (first
   | (go_at_call 50; refine (b2s_calls W5.drew _ _ t HO5.out).mono ?_; rintro e w6 ⟨rfl, rfl⟩)
   | (go_at_call 49; refine (all_vc k t 0 none HQ.out (by decide) (by decide) W5.drew g 1 none 0 ?side2 ?side3).mono ?_; (case side2 => exact HS5.out); (case side3 => have := HT5.out; omega); rintro e w7 ⟨t1, et1, ep1, rfl, hch⟩; have HC6 := Aside0.mk (HC5'.out.comp hch hSK); clear hch))
  go_wp2_with (go_at_call 41; refine (errNew _ _).mono ?_; rintro e w8 ⟨et, ep, rfl, hb8⟩; have HB8 := Aside0.mk hb8; clear hb8)
  go_ret2
  exact ⟨_, _, rfl, (HC6.out.comp (Ch.of_below HB8.out (fun _ _ => False)) (fun _ _ _ e => e.elim))⟩
 | some x =>
  obtain ⟨u, hu, hx⟩ := Option.bind_eq_some_iff.mp HH.out
  have HU := Aside0.mk hu
  have HX := Aside0.mk (Option.some.inj hx)
  clear hu hx
  by_cases hu0 : u.size = 0
  ·have hd : decide (0 < (u.size : Int)) = false := decide_eq_false (by omega)
   rw [if_pos hu0] at HX
   obtain rfl := HX.out
   go_region_with (first
    | (go_at_call 50; refine (b2s_calls W5.drew _ _ t HO5.out).mono ?_; rintro e w6 ⟨rfl, rfl⟩)
    | (go_at_call 49; refine (all_vc k t 0 (some x) HQ.out (by decide) (by decide) W5.drew g 1 none 0 ?side4 ?side5).mono ?_; (case side4 => exact HS5.out); (case side5 => have := HT5.out; omega); rintro e w7 ⟨b, o, B', n', rfl, hps, hsz7, hlies⟩; have HC6 := Aside0.mk (HC5'.out.comp hps.ch hSK); have HL := Aside0.mk hlies; clear hps hlies hsz7))
   go_wp2_with (go_at_call 47; with_reducible refine (sk_calls HU.out _).mono ?_; rintro e w8 ⟨rfl, m8, rfl⟩)
   go_ret2
   exact ⟨b, o, _, rfl, Lies.frame (W := w7) (W1 := w7.drewN m8) (P := Nw W5.drew w7 g none 0 B' n') (Q := Nw W5.drew w7 g none 0 B' n') (fun _ _ h => h) (fun _ _ _ => rfl) HL.out, (p_made k).1 _ _ _ _ HQ.out, HC6.out.comp (Ch.of_below (drN _ _) (fun _ _ => False)) (fun _ _ _ e => e.elim)⟩
  have hd : decide (0 < (u.size : Int)) = true := decide_eq_true (by omega)
  rw [if_neg hu0] at HX
  obtain rfl := HX.out
  go_region_with (first
   | (go_at_call 50; refine (b2s_calls W5.drew _ _ t HO5.out).mono ?_; rintro e w6 ⟨rfl, rfl⟩)
   | (go_at_call 49; refine (all_vc k t 0 (some x) HQ.out (by decide) (by decide) W5.drew g 1 none 0 ?side6 ?side7).mono ?_; (case side6 => exact HS5.out); (case side7 => have := HT5.out; omega); rintro e w7 ⟨b, o, B', n', rfl, hps, hsz7, hlies⟩; have HC6 := Aside0.mk (HC5'.out.comp hps.ch hSK); clear hps hlies hsz7))
  go_wp2_with (first
   | (go_at_call 47; with_reducible refine (sk_calls HU.out _).mono ?_; rintro e w8 ⟨rfl, m8, rfl⟩)
   | (go_at_call 41; refine (errNew _ _).mono ?_; rintro e w9 ⟨et, ep, rfl, hb9⟩; have HB9 := Aside0.mk hb9; clear hb9))
  go_ret2
  exact ⟨_, _, rfl, (HC6.out.comp (Ch.of_below (drN _ _) (fun _ _ => False)) (fun _ _ _ e => e.elim)).comp (Ch.of_below HB9.out (fun _ _ => False)) (fun _ _ _ e => e.elim)⟩
end FJ
end Go.Proofs.YtnajijaachgipaaDoor.PR
end
section
namespace Go.Proofs.YtnajijaachgipaaDoor.PR
open Go.RowKit Go.Proofs.YtnajijaachgipaaDoorW.PrintWords Go.Proofs.YtnajijaachgipaaDoorW.PrintLast Go.Proofs.YtnajijaachgipaaDoorW.PrintMore Go.Proofs.YtnajijaachgipaaDoor.H
set_option linter.unusedVariables false
set_option linter.unusedSimpArgs false
namespace FJ
/-- What FjReprint computes. -/
def reprint (k : Nat) (s : ByteArray) : Option (ByteArray × Bool) := if s.size ≤ 100000 then (pP k s).bind fun r => match r with
 | none => some (ByteArray.empty, false)
 | some t => if (txt t).length < 140737488355328 then some (strOfNums (txt t), true) else none
 else none
theorem reprint_mono (k : Nat) (s : ByteArray) : LeO (reprint k s) (reprint (k + 1) s) := by
 unfold reprint
 refine LeO.ite (LeO.bind (pP_mono k s) fun r => ?_) (LeO.refl _)
 cases r <;> exact LeO.refl _
theorem ch_below {w W W' : World} {g : Nat} (hb : Below w.heap.size w W) (hg : w.heap.size ≤ g) (h : Ch W W' (fun k _ => k = g)) : Below w.heap.size w W' :=
 ⟨h.os.trans hb.os, h.tape.trans hb.tape, h.output.trans hb.output, Nat.le_trans hb.size h.size, fun k hk => (h.block k (Nat.lt_of_lt_of_le hk hb.size) (fun o e => by omega)).trans (hb.block k hk)⟩
set_option maxHeartbeats 2000000 in
set_option maxRecDepth 100000 in
theorem reprint_calls (k : Nat) (s : ByteArray) (r1 : ByteArray) (r2 : Bool) (w : World) (h : reprint k s = some (r1, r2)) :
  Calls Tryd.prog 12 #[.string s] w fun e w' => e = .returned (.tuple #[.string r1, .bool r2]) ∧ Below w.heap.size w w' := by
 unfold reprint at h
 split at h
 case isFalse => cases h
 rename_i hn
 obtain ⟨q, hq, hx⟩ := Option.bind_eq_some_iff.mp h
 have HN := Aside0.mk hn
 have HQ := Aside0.mk hq
 clear h hn hq
 have HX := Aside0.mk hx
 clear hx
 cases q with
 | none =>
  obtain ⟨rfl, rfl⟩ := Prod.mk.inj (Option.some.inj HX.out)
  go_enter Tryd.func12, Tryd.ntmps12
  go_wp2_with (go_at_call 27; refine (parse_calls k s none _ w.heap.size 67 (blk_new w _) HN.out HQ.out).mono ?_; rintro e w2 ⟨et, ep, rfl, hch⟩; have HB := Aside0.mk (ch_below (below_alloc (Below.refl _ w) _) (Nat.le_refl _) hch); clear hch)
  go_ret2
  exact ⟨rfl, HB.out⟩
 | some t =>
  obtain ⟨hl, hx⟩ : (txt t).length < 140737488355328 ∧ some (strOfNums (txt t), true) = some (r1, r2) := by
   have := HX.out
   dsimp only at this
   split at this
   ·rename_i h; exact ⟨h, this⟩
   cases this
  obtain ⟨rfl, rfl⟩ := Prod.mk.inj (Option.some.inj hx)
  have HT := Aside0.mk hl
  clear hl hx HX
  go_enter Tryd.func12, Tryd.ntmps12
  go_wp2_with (first
   | (go_at_call 27; refine (parse_calls k s (some t) _ w.heap.size 67 (blk_new w _) HN.out HQ.out).mono ?_; rintro e w2 ⟨b, o, P, rfl, hlies, hmade, hch⟩; have HB := Aside0.mk (ch_below (below_alloc (Below.refl _ w) _) (Nat.le_refl _) hch); have HL := Aside0.mk hlies; have HM := Aside0.mk hmade; clear hch hlies hmade)
   | (go_at_call 28; refine (mar HL.out HM.out _ _ [] (Below.refl _ _) (World.ownsRow_nil _ _ _ _) (by simpa using HT.out)).mono ?_; rintro e w3 ⟨v3, rfl, hown, hb⟩; rw [List.nil_append] at hown; have hcv := own_string (P := Tryd.prog) Tryd.underlying47 Tryd.underlying5 Tryd.underlying9 hown; obtain ⟨A1, q1, rfl⟩ := Go.Proofs.YtnajijaachgipaaDoorW.PrintWords.own_slice hown; have HB3 := Aside0.mk (HB.out.trans (hb.mono HB.out.size)); clear hown hb))
  go_ret2
  exact ⟨rfl, HB3.out⟩
end FJ
end Go.Proofs.YtnajijaachgipaaDoor.PR
end
section
namespace Go.Proofs.YtnajijaachgipaaDoor.PR
open Go.RowKit Go.Proofs.YtnajijaachgipaaDoorW.PrintWords Go.Proofs.YtnajijaachgipaaDoorW.PrintLast Go.Proofs.YtnajijaachgipaaDoorW.PrintMore
attribute [local go_sem] max2_int min2_int max_two min_two max_three min_three max_four min_four   -- for this text's walks alone
set_option linter.unusedVariables false
set_option linter.unusedSimpArgs false
/-! ### impl_FjReprint: function 12, by hand -/
def impl_FjReprint.f (k : Nat) (a0 : ByteArray) : Option (ByteArray × Bool) := FJ.reprint k a0
theorem impl_FjReprint.mono : ∀ a0 k, LeO (impl_FjReprint.f k a0) (impl_FjReprint.f (k + 1) a0) := fun a0 k => FJ.reprint_mono k a0
theorem impl_FjReprint.calls (k : Nat) (a0 : ByteArray) (r1 : ByteArray) (r2 : Bool) (w : World) (h : impl_FjReprint.f k a0 = some (r1, r2)) :
  Calls Tryd.prog 12 #[.string a0] w fun e w' => e = .returned (.tuple #[.string r1, .bool r2]) ∧ Below w.heap.size w w' := FJ.reprint_calls k a0 r1 r2 w h
end Go.Proofs.YtnajijaachgipaaDoor.PR
end
section
namespace Go.Proofs.YtnajijaachgipaaDoor.PR
open Go.RowKit Go.Proofs.YtnajijaachgipaaDoorW.PrintWords Go.Proofs.YtnajijaachgipaaDoorW.PrintLast Go.Proofs.YtnajijaachgipaaDoorW.PrintMore
attribute [local go_sem] max2_int min2_int max_two min_two max_three min_three max_four min_four   -- for this text's walks alone
set_option linter.unusedVariables false
set_option linter.unusedSimpArgs false
/-! ### spec_Anew: function 52, never entered -/
def spec_Anew.f (a0 : ByteArray) : Option (ByteArray) := none
theorem spec_Anew.calls (a0 : ByteArray) (r : ByteArray) (w : World) (h : spec_Anew.f a0 = some r) :
  Calls Tryd.prog 52 #[.string a0] w fun e w' => e = .returned (.string r) ∧ Drawn0 w w' := by
 cases h
end Go.Proofs.YtnajijaachgipaaDoor.PR
end
