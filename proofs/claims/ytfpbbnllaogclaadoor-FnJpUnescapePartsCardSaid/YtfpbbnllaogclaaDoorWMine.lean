/- A string appended to a row of bytes of the call's own, with the word where the new row lies. -/
import Derived.Test.YtfpbbnllaogclaaDoorWMore
import Derived.Lib.AppendStr
import Derived.Lib.ConvBytes
namespace Go.Proofs.YtfpbbnllaogclaaDoorW.PrintWords
open Go.RowKit
section
variable {P : Program}
theorem app_str_at (w : World) (base : Nat) (t u ty e : TypeId) (i : TypeInfo) (ht : P.underlying t = some (.slice e)) (hu : P.underlying u = some .string) (hi : P.info? e = some i) (hz : i.zero = some (.int .u8 0))
    (hsize : i.size = 1) (hby : i.bytes = 1)
    (v : Value) (n : Nat) (xs : List Value) (hown : w.ownsRow base e 1 v n xs) (s : ByteArray)
    (hbytes : n + s.size ≤ 140737488355328) {v' : Value} {w' : World} (h : (Builtin.append_ #[t, u] ty #[v, .string s]).run P w = .ok v' w') :
    v'.ownBlock = v.ownBlock ∨ v'.ownBlock = some w.heap.size := by
  have hxl : xs.length = n := by simpa using hown.1
  rcases hown.2 with ⟨rfl, rfl⟩ | ⟨g, cap, cur, rfl, hbg, hg, hnc, hcm, hcs, htake⟩
  · by_cases hm : s.size = 0
    · have hf := Lib.run_firstCells_string (P := P) w 1 s
      have hn : Lib.strCells s = [] := List.eq_nil_of_length_eq_zero (by rw [Lib.strCells_length]; exact hm)
      rw [hm] at hf
      simp [Builtin.append_, run_underlying ht, run_underlying hu, sizeOf, typeInfo, hi, hsize, Builtin.lenOf, hm, hf] at h
      obtain ⟨rfl, _⟩ := h
      exact .inl rfl
    · have hr := run_append_nil_string (P := P) w t u ty e i (.int .u8 0) ht hu hi hz s (by omega) (by omega) (by rw [hby]; omega)
      rw [hr] at h
      injection h with h1 h2
      subst h1
      exact .inr rfl
  · by_cases hroom : n + s.size ≤ cap
    · have hcs' : cur.size = cap := by simpa using hcs
      have hr := Lib.run_append_room_string (P := P) w t u ty e i ht hu hi hsize g n cap cur hg s hroom (by omega)
      rw [hr] at h
      injection h with h1 h2
      subst h1
      exact .inl rfl
    · have holds : ∀ j u, xs[j]? = some u → w.cell? ((⟨g, 0, none⟩ : Addr).add j) = some u := hown.cells (g := g) rfl
      have hr := Lib.run_append_grow_string (P := P) w t u ty e i (.int .u8 0) ht hu hi hz ⟨g, 0, none⟩ n cap xs (by rw [hsize]; simpa using hxl) holds s (by omega) (by omega) (by rw [hby]; exact growslice_fits (by omega) (by omega))
      rw [hr] at h
      injection h with h1 h2
      subst h1
      exact .inr rfl
variable {ops : Array Oper} {rest : List Oper} {o : Oper} {a : Act} {Q : Exit → Act → World → Prop}
theorem M_append_str {w0 W : World} (base : Nat) (hgd : o.guard = none) (s x : Operand) (t u e : TypeId)
    (ho : o.op = .call { callee := .builtin .append, args := #[s, x], argTypes := #[t, u] })
    (ht : P.underlying t = some (.slice e)) (hu : P.underlying u = some .string) (hinfo : (P.info? e).map (fun i => (i.zero, i.size, i.bytes)) = some (some (.int .u8 0), 1, 1))
    (v : Value) (xs : List Int) (y : ByteArray) (ok : Nat → Prop) (hs : a.eval s = v) (hx : a.eval x = .string y) (hfresh : ∀ k, W.heap.size ≤ k → ok k)
    (HO : Kd.R (Kd.int .u8) e W base ok v xs) (HB : Below base w0 W) (hbase : base ≤ W.heap.size) (hl : xs.length + y.size ≤ 140737488355328)
    (h : ∀ v1 w1, Kd.R (Kd.int .u8) e w1 base ok v1 (xs ++ bytesOf y) → Below base w0 w1 → W.grownBy w1 v.ownBlock → (v1.ownBlock = v.ownBlock ∨ ∃ b, v1.ownBlock = some b ∧ W.heap.size ≤ b) → wpList P ops Q rest (a.put o.dst v1) w1) :
    wpList P ops Q (o :: rest) a W := by
  obtain ⟨i0, hi, hzz⟩ := Option.map_eq_some_iff.1 hinfo
  simp only [Prod.mk.injEq] at hzz
  obtain ⟨hz0, hz1, hz2⟩ := hzz
  have hown : W.ownsRow base e 1 v xs.length (nums .u8 xs) := Kd.own_of_R HO
  refine wpList_plain hgd fun K hK => ?_
  obtain ⟨v', w', hr, h2, h3, _⟩ := Lib.run_append_own_string (P := P) W base t u o.type e i0 ht hu hi hz0 hz1 hz2 v xs.length (nums .u8 xs) hown y (by simp only [maxLen]; omega) hl hbase
  have hat0 := app_str_at W base t u o.type e i0 ht hu hi hz0 hz1 hz2 v xs.length (nums .u8 xs) hown y hl hr
  have hat : v'.ownBlock = v.ownBlock ∨ ∃ b, v'.ownBlock = some b ∧ W.heap.size ≤ b := by
    rcases hat0 with hat | hat
    · exact .inl hat
    · exact .inr ⟨_, hat, Nat.le_refl _⟩
  have hl2 : (xs ++ bytesOf y).length = xs.length + y.size := by rw [List.length_append, bytesOf_length]
  have hc : nums .u8 (xs ++ bytesOf y) = nums .u8 xs ++ Lib.strCells y := by
    rw [nums_append]
    congr 1
    simp [nums, bytesOf, Lib.strCells]
  have hR : Kd.R (Kd.int .u8) e w' base ok v' (xs ++ bytesOf y) := by
    refine Kd.R_of_own (h1 := fun _ => rfl) (ok := ok) (show w'.ownsRow base e 1 v' (xs ++ bytesOf y).length (nums .u8 (xs ++ bytesOf y)) by rw [hl2, hc]; exact h2) (fun k hk => ?_)
    rcases hat with hat | ⟨b, hb, hle⟩
    · exact HO.1 k (hat ▸ hk)
    · rw [hb] at hk
      injection hk with hk
      exact hfresh k (by omega)
  unfold Oper.wp execOp
  simp only [ho, resolve, invoke, builtin, Sem.run_bind, Sem.run_pure, Result.andThen_ok, List.map_toArray, List.map_cons, List.map_nil, hs, hx, hr]
  exact hK _ _ (h v' w' hR (HB.grown h3 hbase (own_base hown)) h3 hat)
/-- A text's bytes as a row of the call's own that is only read. -/
theorem M_bytes {w0 W : World} (base : Nat) (hgd : o.guard = none) {N : Tmp} (_hd : o.dst = some N) (src dst e : TypeId) {ud : TypeDesc} (x : Operand) (s : ByteArray) (ho : o.op = .convert src dst x) (hx : a.eval x = .string s)
    (hs : P.underlying src = some ud) (ht : P.underlying dst = some (.slice e)) (he : P.underlying e = some (.int .u8)) (hz : s.size ≤ 9223372036854775807) (HB : Below base w0 W) (hbase : base ≤ W.heap.size)
    (h : ∀ v1 w1, Kd.V (Kd.int .u8) e w1 base (fun k_ => W.heap.size ≤ k_) v1 (bytesOf s) → Below base w0 w1 → W.grownBy w1 none → (∃ b, v1.ownBlock = some b ∧ W.heap.size ≤ b) → wpList P ops Q rest (a.put o.dst v1) w1) : wpList P ops Q (o :: rest) a W := by
  have hrun : (execOp a.eval o).run P W = .ok (.value (.slice (some ⟨W.heap.size, 0, none⟩) s.size (grownCap W s.size 0 e))) (Lib.bytesWorld W e s) := by
    have hr := print_bytes (P := P) src dst e hs ht he s W
    simp [execOp, ho, hx, hr]
  have hl : (bytesOf s).length = s.size := bytesOf_length s
  refine Kd.event_run hgd hrun (h _ _ ?_ (bytes_below HB hbase e s) ⟨rfl, rfl, rfl, by rw [Lib.bytesWorld_size]; omega, fun k hk _ => Lib.bytesWorld_at_old W e s k hk⟩ ⟨W.heap.size, by simp [Value.ownBlock], Nat.le_refl _⟩)
  refine ⟨some ⟨W.heap.size, 0, none⟩, grownCap W s.size 0 e, by rw [hl], by rw [hl]; exact grownCap_ge .., fun W' hW => ?_⟩
  have hb : W'.heap[W.heap.size]? = (Lib.bytesWorld W e s).heap[W.heap.size]? := hW _ (Nat.le_refl _) (by rw [Lib.bytesWorld_size]; omega)
  refine Kd.C_of_reads (enc := Value.int .u8) (d := (0 : Int)) (h1 := fun _ => rfl) ⟨rfl, by rw [hl]; exact hz, fun _ => ⟨_, rfl, fun j hj => ?_⟩⟩
  have hc := (bytes_reads W e s hz).2.2 (by rw [hl] at hj; omega)
  obtain ⟨ad, e1, hc⟩ := hc
  cases e1
  have h2 := hc j (by rw [hl] at hj; exact hj)
  rw [← h2]
  have ha : ∀ i, ((⟨W.heap.size, 0, none⟩ : Addr).add i).block = W.heap.size := fun i => by
    unfold Addr.add
    split <;> rfl
  unfold World.cell?
  rw [ha, hb]
/-- A constant text's bytes: laid as a row, then marked: a row that is only read. -/
theorem M_lit_mark {w0 W : World} (base : Nat) (hgd : o.guard = none) {N : Tmp} (_hd : o.dst = some N) (t e : TypeId) (x : Operand) (xs : List Int) {cs : Array Value} (hcs : cs = (nums .u8 xs).toArray) (ho : o.op = .convert t t x)
    (hx : a.eval x = .slice (some ⟨W.heap.size, 0, none⟩) xs.length xs.length) (ht : P.underlying t = some (.slice e)) (he : P.underlying e = some (.int .u8)) (hz : xs.length ≤ 9223372036854775807) (HB : Below base w0 W) (hbase : base ≤ W.heap.size)
    (h : ∀ v1 w1, Kd.V (Kd.int .u8) e w1 base (fun k_ => W.heap.size ≤ k_) v1 xs → Below base w0 w1 → W.grownBy w1 none → (∃ b, v1.ownBlock = some b ∧ W.heap.size ≤ b) → wpList P ops Q rest (a.put o.dst v1) w1) : wpList P ops Q (o :: rest) a (W.alloc (.cells cs e)) := by
  have hsh : (W.alloc (.cells cs e)).shape? W.heap.size = some (e, cs.size) := by
    simp [World.shape?, World.alloc, -World.alloc_eq]
  obtain ⟨w1, hw1⟩ : ∃ w1, w1 = (W.alloc (.cells cs e)).freeze ⟨W.heap.size, cs.size, none⟩ 1 := ⟨_, rfl⟩
  have hrun : (execOp a.eval o).run P (W.alloc (.cells cs e)) = .ok (.value (.slice (some ⟨W.heap.size, 0, none⟩) xs.length xs.length)) w1 := by
    simp [execOp, ho, hx, convert, run_underlying ht, run_underlying he, markStringish, hsh, hw1, Result.andThen]
  have hsz : w1.heap.size = W.heap.size + 1 := by rw [hw1]; simp [World.freeze, World.alloc, -World.alloc_eq]
  have hold : ∀ k, k < W.heap.size → w1.heap[k]? = W.heap[k]? := fun k hk => by
    have h1 : W.heap.size ≠ k := by omega
    rw [hw1]
    simp [World.freeze, World.alloc, -World.alloc_eq, Array.getElem?_modify, Array.getElem?_push, h1, Ne.symm h1]
  have hnew : w1.heap[W.heap.size]? = some (.cells cs e (cs.size, cs.size + 1)) := by
    rw [hw1]
    simp [World.freeze, World.alloc, -World.alloc_eq]
    rw [Array.getElem_modify_self]
    simp
  have hg : W.grownBy w1 none := ⟨by rw [hw1]; rfl, by rw [hw1]; rfl, by rw [hw1]; rfl, by omega, fun k hk _ => hold k hk⟩
  refine Kd.event_run hgd hrun (h _ _ ?_ (HB.trans ⟨by rw [hw1]; rfl, by rw [hw1]; rfl, by rw [hw1]; rfl, by omega, fun i hi => hold i (by omega)⟩) hg ⟨W.heap.size, by simp [Value.ownBlock], Nat.le_refl _⟩)
  refine ⟨some ⟨W.heap.size, 0, none⟩, xs.length, rfl, Nat.le_refl _, fun W' hW => ?_⟩
  have hb : W'.heap[W.heap.size]? = some (.cells cs e (cs.size, cs.size + 1)) := (hW _ (Nat.le_refl _) (by omega)).trans hnew
  refine Kd.C_of_reads (enc := Value.int .u8) (d := (0 : Int)) (h1 := fun _ => rfl) ⟨rfl, hz, fun _ => ⟨_, rfl, fun j hj => ?_⟩⟩
  rw [add_plain]
  unfold World.cell?
  simp only [hb, hcs]
  simp [nums, List.getD_eq_getElem?_getD, hj]
end
/-- An error's value: nil, or some interface value. -/
def errX (et : Nat) (ep : Value) : Option Int → Value
  | none => .nilIface
  | some _ => .iface et ep
theorem errX_none (et : Nat) (ep : Value) : errX et ep none = .nilIface := rfl
theorem errX_some (et : Nat) (ep : Value) (c : Int) : errX et ep (some c) = .iface et ep := rfl
/-- A cell that holds an error that is not nil. -/
def Kd.errk : Kd Unit where
  sz := 1
  E := []
  K := fun _ _ cs => ∃ (et : Nat) (ep : Value), cs = [.iface et ep]
  M := fun _ _ _ _ cs => ∃ (et : Nat) (ep : Value), cs = [.iface et ep]
  K_len := fun ⟨_, _, h⟩ => by rw [h]; rfl
  K_one := fun ⟨_, _, h⟩ u hu => by
    rw [h] at hu
    rw [List.mem_singleton.1 hu]
    rfl
  K_below := fun _ h => h
  K_of_M := fun h => h
  M_mono := fun _ h => h
  M_bound := fun h => h
  M_move := fun _ h => h
  M_lower := fun _ h => h
theorem errk_add (g : Nat) : (⟨g, 0, none⟩ : Addr).add 0 = ⟨g, 0, none⟩ := by
  unfold Addr.add
  split <;> simp_all
theorem errk_cell {w : World} {g : Nat} (h : Kd.C Kd.errk w (some ⟨g, 0, none⟩) 1 [()]) : ∃ (et : Nat) (ep : Value), w.cell? ⟨g, 0, none⟩ = some (.iface et ep) := by
  obtain ⟨_, _, hc⟩ := h
  obtain ⟨b, hb, hx⟩ := hc (by decide)
  obtain rfl := Option.some.inj hb
  obtain ⟨cs, hl, ⟨et, ep, rfl⟩, hr⟩ := hx 0 () rfl
  have := hr 0 _ rfl
  exact ⟨et, ep, by simpa [errk_add] using this⟩
theorem errk_of {w : World} {g : Nat} {et : Nat} {ep : Value} (h : w.cell? ⟨g, 0, none⟩ = some (.iface et ep)) : Kd.C Kd.errk w (some ⟨g, 0, none⟩) 1 [()] := by
  refine ⟨rfl, by decide, fun _ => ⟨_, rfl, fun j x hj => ?_⟩⟩
  rcases j with _ | j
  · refine ⟨[.iface et ep], rfl, ⟨et, ep, rfl⟩, fun i u hu => ?_⟩
    rcases i with _ | i
    · simp at hu; subst hu; simpa [errk_add] using h
    · simp at hu
  · simp at hj
/-- The cells of a configuration of jsonparser's that holds zeros. -/
def Kd.cfgk : Kd Unit where
  sz := 3
  E := []
  K := fun _ _ cs => cs = [.bool false, .bool false, .int .i64 0]
  M := fun _ _ _ _ cs => cs = [.bool false, .bool false, .int .i64 0]
  K_len := fun h => by rw [h]; rfl
  K_one := fun h u hu => by
    rw [h] at hu
    simp only [List.mem_cons, List.not_mem_nil, or_false] at hu
    rcases hu with rfl | rfl | rfl <;> rfl
  K_below := fun _ h => h
  K_of_M := fun h => h
  M_mono := fun _ h => h
  M_bound := fun h => h
  M_move := fun _ h => h
  M_lower := fun _ h => h
theorem cfgk_add (g j : Nat) : (⟨g, 0, none⟩ : Addr).add j = ⟨g, j, none⟩ := by
  unfold Addr.add
  split <;> simp_all
theorem cfgk_cells {w : World} {g : Nat} (h : Kd.C Kd.cfgk w (some ⟨g, 0, none⟩) 1 [()]) : w.cell? ⟨g, 0, none⟩ = some (.bool false) ∧ w.cell? ⟨g, 1, none⟩ = some (.bool false) ∧ w.cell? ⟨g, 2, none⟩ = some (.int .i64 0) := by
  obtain ⟨_, _, hc⟩ := h
  obtain ⟨b, hb, hx⟩ := hc (by decide)
  obtain rfl := Option.some.inj hb
  obtain ⟨cs, hl, hk, hr⟩ := hx 0 () rfl
  have hk : cs = [.bool false, .bool false, .int .i64 0] := hk
  subst hk
  have h0 := hr 0 _ rfl
  have h1 := hr 1 _ rfl
  have h2 := hr 2 _ rfl
  rw [cfgk_add] at h0 h1 h2
  exact ⟨by simpa using h0, by simpa using h1, by simpa using h2⟩
theorem cfgk_of {w : World} {g : Nat} (h0 : w.cell? ⟨g, 0, none⟩ = some (.bool false)) (h1 : w.cell? ⟨g, 1, none⟩ = some (.bool false)) (h2 : w.cell? ⟨g, 2, none⟩ = some (.int .i64 0)) : Kd.C Kd.cfgk w (some ⟨g, 0, none⟩) 1 [()] := by
  refine ⟨rfl, by decide, fun _ => ⟨_, rfl, fun j x hj => ?_⟩⟩
  rcases j with _ | j
  · refine ⟨[.bool false, .bool false, .int .i64 0], rfl, rfl, fun i u hu => ?_⟩
    rw [cfgk_add]
    rcases i with _ | _ | _ | i
    · simp at hu; subst hu; simpa using h0
    · simp at hu; subst hu; simpa using h1
    · simp at hu; subst hu; simpa using h2
    · simp at hu
  · simp at hj
end Go.Proofs.YtfpbbnllaogclaaDoorW.PrintWords
