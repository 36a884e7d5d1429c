/- Texts of this claim put together: WWords, WLast, WQPut, WApart, WArr, WZeros, WFoot, WKept, WShare, WN, WNEv, WMore, HErrs, Shelf, WTab, WFour, WFootNe, WAt, WEqStruct, WRepsOne, WInv, WInvWords, WGuard, WMine, PTx0, PTx1, PTx2, PTx28, PTx18, PTx29. -/
import Derived.Below
import Derived.Deep.Draws
import Derived.Deep.AppendLies
import Derived.Maps.AppendAt
import Derived.OwnWalk
import Derived.Laws.BytesArg
import Derived.Laws.MakeOwn
import Derived.Laws.OwnMore
import Derived.Deep.OwnRows
import Derived.Tactics
import Derived.Lib.ConvBytes
import Derived.Laws.Slices
import Derived.WalkKit
import Derived.KernelRfl
import Derived.RowKit3
import Derived.Deep.LoopGhost
import Derived.Deep.QuietTactic
import Derived.BigQuiet
import Derived.WideLaws
import Derived.Deep.DeepCutAuto
import Derived.Deep.CutBlock
import Derived.Deep.RegionHeld3
import Derived.Laws.Rows
import Derived.Lib.AppendStr
import Derived.ArgAppend
import Derived.Laws.IdiomCopy
import Derived.RowKit
import Derived.OrdersHeld
import Derived.Laws.BitsLemmas
import Derived.Test.YtnajijaachgipaaDoorChecked
import Derived.Lib.Strings
import Derived.Lib.Walk
import Derived.Lib.BufferWrite
import Derived.Lib.UnsafeStr
import Derived.Lib.Hide
import Derived.Lib.ParseBool
import Derived.Lib.AtoiErrMem
import Derived.Lib.IfaceEq
import Derived.RegionTactic
import Derived.Deep.RegionWith
import Derived.BigCall
import Derived.BigGuard
import Derived.Laws.IdiomStrings
import Derived.Shelf.LaysC
import Derived.Shelf.Strconv.ParseIntPublic10
import Derived.Test.YtnajijaachgipaaDoorProg
import Derived.Laws.StructEq
import Derived.Lib.Bytealg
section
set_option linter.unusedVariables false
set_option linter.unusedSimpArgs false
namespace Go.Proofs.YtnajijaachgipaaDoorW.PrintWords
open Go.RowKit
/-- A fact that the walk's simp doesn't look into. -/
structure Aside0 (p : Prop) : Prop where mk :: (out : p)
/-- The world is the old one, some orders having been drawn. -/
structure Drawn0 (w w' : World) : Prop where mk :: (out : ∃ n, w' = w.drewN n)
theorem Drawn0.refl (w : World) : Drawn0 w w := ⟨⟨0, rfl⟩⟩
theorem Drawn0.step {w w' : World} (h : Drawn0 w w') (n : Nat) : Drawn0 w (w'.drewN n) := by
  obtain ⟨m, rfl⟩ := h
  exact ⟨⟨m + n, World.drewN_drewN ..⟩⟩
theorem Drawn0.grown {w w' : World} (h : Drawn0 w w') : Grown w w' := by
  obtain ⟨n, rfl⟩ := h
  induction n with
  | zero => exact Grown.refl _
  | succ n ih => rw [← World.drew_drewN]; exact Grown.drew ih
theorem Drawn0.below {w w' : World} (h : Drawn0 w w') : Below w.heap.size w w' := by
  obtain ⟨n, rfl⟩ := h
  induction n with
  | zero => exact Below.refl _ _
  | succ n ih => rw [← World.drew_drewN]; exact ih.drew
/-! ### 1. Values and lists -/
def rd (xs : List Int) (i : Int) : Int := xs.getD i.toNat 0
def bt (s : ByteArray) (i : Int) : Int := if h : i.toNat < s.size then ((s[i.toNat]'h).toNat : Int) else 0
theorem bt_at (s : ByteArray) (i : Int) : ∀ h : i.toNat < s.size, ((s[i.toNat]'h).toNat : Int) = bt s i := fun h => by simp [bt, h]
theorem bt_range (s : ByteArray) (i : Int) : 0 ≤ bt s i ∧ bt s i ≤ 255 := by
  unfold bt
  split
  · rename_i h
    have := (s[i.toNat]'h).toNat_lt
    omega
  omega
def nums (k : IntKind) (xs : List Int) : List Value := xs.map fun x => .int k x
theorem nums_length (k : IntKind) (xs : List Int) : (nums k xs).length = xs.length := by simp [nums]
theorem nums_append (k : IntKind) (xs ys : List Int) : nums k (xs ++ ys) = nums k xs ++ nums k ys := by simp [nums]
/-! ### 2. The world -/
theorem below_alloc {w W : World} (h : Below w.heap.size w W) (o : Obj) : Below w.heap.size w (W.alloc o) := h.alloc h.size o
theorem below_drew {B : Nat} {w W : World} (h : Below B w W) : Below B w W.drew := ⟨h.os, h.tape, h.output, h.size, h.block⟩
theorem pw_below_drewN {B : Nat} {w W : World} (h : Below B w W) (n : Nat) : Below B w (W.drewN n) := ⟨h.os, h.tape, h.output, h.size, h.block⟩
theorem below_then {B : Nat} {w w1 w2 : World} (h : Below B w w1) (hB : B ≤ w1.heap.size) (k : Below w1.heap.size w1 w2) : Below B w w2 :=
  h.trans ⟨k.os, k.tape, k.output, k.size, fun i hi => k.block i (Nat.lt_of_lt_of_le hi hB)⟩
theorem grown_of_below {w w1 : World} (h : Below w.heap.size w w1) (row : Option Nat) : w.grownBy w1 row := ⟨h.os, h.tape, h.output, h.size, fun i hi _ => h.block i hi⟩
theorem pw_cell_below {w w1 : World} (h : Below w.heap.size w w1) {a : Addr} {v : Value} (hc : w.cell? a = some v) : w1.cell? a = some v := (h.cell (World.block_lt_of_cell? w a hc)).trans hc
/-! ### 3. A slice of whole numbers that is read; nil, empty and other slices alike -/
def ReadsInt (w : World) (k : IntKind) (A : Option Addr) (n : Nat) (xs : List Int) : Prop :=
  xs.length = n ∧ n ≤ 9223372036854775807 ∧ (0 < n → ∃ ad, A = some ad ∧ ∀ j, j < n → w.cell? (ad.add j) = some (.int k (xs.getD j 0)))
theorem ReadsInt.at_ {w : World} {k : IntKind} {A : Option Addr} {n : Nat} {xs : List Int} (h : ReadsInt w k A n xs) (i : Int) (h0 : 0 ≤ i) (h1 : i < n) : ∃ ad, A = some ad ∧ w.cell? (ad.add i.toNat) = some (.int k (rd xs i)) := by
  obtain ⟨ad, e, hc⟩ := h.2.2 (by omega)
  exact ⟨ad, e, hc _ (by omega)⟩
theorem ReadsInt.below {w w1 : World} {k : IntKind} {A : Option Addr} {n : Nat} {xs : List Int} (h : ReadsInt w k A n xs) (hb : Below w.heap.size w w1) : ReadsInt w1 k A n xs :=
  ⟨h.1, h.2.1, fun hn => by
    obtain ⟨ad, e, hc⟩ := h.2.2 hn
    exact ⟨ad, e, fun j hj => pw_cell_below hb (hc j hj)⟩⟩
/-! ### 4. A row of the call's own -/
theorem own_nil (W : World) (base : Nat) (e : TypeId) (size : Nat) : W.ownsRow base e size (.slice none 0 0) 0 [] := ⟨by simp, .inl ⟨rfl, rfl⟩⟩
theorem own_base {w : World} {base : Nat} {e : TypeId} {size n : Nat} {v : Value} {xs : List Value} (h : w.ownsRow base e size v n xs) (k : Nat) (hk : v.ownBlock = some k) : base ≤ k := by
  rcases h.2 with ⟨rfl, _⟩ | ⟨g, cap, cur, rfl, hb, _⟩
  · simp [Value.ownBlock] at hk
  have : g = k := by simpa [Value.ownBlock] using hk
  omega
theorem own_lt {w : World} {base : Nat} {e : TypeId} {size n : Nat} {v : Value} {xs : List Value} (h : w.ownsRow base e size v n xs) (k : Nat) (hk : v.ownBlock = some k) : k < w.heap.size := by
  rcases h.2 with ⟨rfl, _⟩ | ⟨g, cap, cur, rfl, hb, hh, _⟩
  · simp [Value.ownBlock] at hk
  have : g = k := by simpa [Value.ownBlock] using hk
  subst this
  exact (Array.getElem?_eq_some_iff.1 hh).1
theorem pw_own_below {w w1 : World} {base : Nat} {e : TypeId} {size n : Nat} {v : Value} {xs : List Value} (h : w.ownsRow base e size v n xs) (hb : Below w.heap.size w w1) : w1.ownsRow base e size v n xs :=
  h.kept (grown_of_below hb none) (by cases v.ownBlock <;> simp)
/-- The shape of whatever is owned. -/
theorem own_slice {w : World} {base n : Nat} {e : TypeId} {size : Nat} {v : Value} {xs : List Value} (h : w.ownsRow base e size v n xs) : ∃ A c, v = .slice A n c := by
  rcases h.2 with ⟨rfl, rfl⟩ | ⟨g, cap, cur, rfl, _⟩
  · exact ⟨none, 0, rfl⟩
  exact ⟨_, cap, rfl⟩
theorem own_string {P : Program} {w : World} {base n : Nat} {e' src dst e : TypeId} {v : Value} {xs : List Int} (hs : P.underlying src = some (.slice e)) (he : P.underlying e = some (.int .u8)) (hd : P.underlying dst = some .string)
    (h : w.ownsRow base e' 1 v n (nums .u8 xs)) : (convert src dst v).run P w = .ok (.string (strOfNums xs)) w := by
  have hl : xs.length = n := by have := h.1; simp [nums] at this; exact this
  rcases h.2 with ⟨rfl, rfl⟩ | ⟨g, cap, cur, rfl, _⟩
  · obtain rfl : xs = [] := List.eq_nil_of_length_eq_zero hl
    exact run_convert_bytes_nil w src e hs he 0 0 dst hd
  refine run_convert_bytes_arg w src e hs he g 0 n cap xs hl (fun i hi => ?_) dst hd
  have hc := h.cells (g := g) rfl i (.int .u8 (xs.getD i 0)) (by simp [nums, List.getElem?_eq_getElem (show i < xs.length by omega), List.getD_eq_getElem?_getD])
  have ha : (⟨g, 0, none⟩ : Addr).add i = ⟨g, 0 + i, none⟩ := by unfold Addr.add; split <;> simp_all
  rwa [ha] at hc
/-! ### 5. append(v, x): behind 'at_builtin'; the goal's world is 'W.alloc' of the variadic's box -/
section
variable {P : Program} {ops : Array Oper} {rest : List Oper} {o : Oper} {a : Act} {Q : Exit → Act → World → Prop}
end
/-! ### 6. make([]T, n), n an Int; a literal -/
section
variable {P : Program}
end
/-! ### 7. v[i] read and v[i] = x, v a row of the call's own: 'obtain ⟨g, cap, rfl, hgb, hgl⟩ := HO.out.form (by omega)' first -/
/-! ### 8. append(v, ys...): ys a slice that is read, nil let in; behind 'at_builtin' -/
section
variable {P : Program} {ops : Array Oper} {rest : List Oper} {o : Oper} {a : Act} {Q : Exit → Act → World → Prop}
end
/-! ### 9. []byte(s): a slice that is read (its row bears a conversion's mark: no row of one's own); cuts of a slice that is read -/
def bytesOf (s : ByteArray) : List Int := s.data.toList.map fun b => (b.toNat : Int)
theorem data_length (s : ByteArray) : s.data.toList.length = s.size := by rw [Array.length_toList]; rfl
theorem bytesOf_length (s : ByteArray) : (bytesOf s).length = s.size := by rw [bytesOf, List.length_map, data_length]
theorem rd_bytesOf (s : ByteArray) (i : Int) : rd (bytesOf s) i = bt s i := by
  unfold rd bt bytesOf
  split
  · rename_i h
    have h' : i.toNat < s.data.toList.length := by rw [data_length]; exact h
    simp [List.getD_eq_getElem?_getD, List.getElem?_eq_getElem h']
    rfl
  rename_i h
  have h' : s.data.toList.length ≤ i.toNat := by rw [data_length]; omega
  simp [List.getD_eq_getElem?_getD, List.getElem?_eq_none h']
/-- Laid ahead: 'have kb := fun W => print_bytes (P := A.prog) SRC DST E A.underlyingSRC A.underlyingDST A.underlyingE s W'. -/
theorem print_bytes {P : Program} (src dst e : TypeId) {u : TypeDesc} (hs : P.underlying src = some u) (hd : P.underlying dst = some (.slice e)) (he : P.underlying e = some (.int .u8)) (s : ByteArray) (W : World) :
    (convert src dst (.string s)).run P W = .ok (.slice (some ⟨W.heap.size, 0, none⟩) s.size (grownCap W s.size 0 e)) (Lib.bytesWorld W e s) := Lib.run_convert_string_bytes W src dst e s hs hd he
theorem bytes_below {B : Nat} {w W : World} (h : Below B w W) (hB : B ≤ W.heap.size) (e : TypeId) (s : ByteArray) : Below B w (Lib.bytesWorld W e s) :=
  h.trans ⟨rfl, rfl, rfl, by rw [Lib.bytesWorld_size]; omega, fun i hi => Lib.bytesWorld_at_old W e s i (by omega)⟩
/-- 'xs[:k]' and 'xs[k:]' of a slice that is read; the address of the second as_ the walk has it. -/
theorem ReadsInt.take_ {w : World} {k : IntKind} {A : Option Addr} {n : Nat} {xs : List Int} (h : ReadsInt w k A n xs) (i : Nat) (hi : i ≤ n) : ReadsInt w k A i (xs.take i) := by
  refine ⟨by rw [List.length_take, h.1]; omega, by have := h.2.1; omega, fun hp => ?_⟩
  obtain ⟨ad, e, hc⟩ := h.2.2 (by omega)
  refine ⟨ad, e, fun j hj => ?_⟩
  rw [hc j (by omega)]
  simp [List.getD_eq_getElem?_getD, hj]
/-! ### 10. Rounds: more rounds give the same answer; what ends gives a number of rounds -/
/-- Where the first answers, the second answers the same. -/
def LeO {α : Type} (a b : Option α) : Prop := ∀ r, a = some r → b = some r
theorem LeO.refl {α : Type} (a : Option α) : LeO a a := fun _ h => h
theorem LeO.none {α : Type} (b : Option α) : LeO Option.none b := fun _ h => by cases h
theorem LeO.trans {α : Type} {a b c : Option α} (h : LeO a b) (k : LeO b c) : LeO a c := fun r hr => k r (h r hr)
theorem LeO.ite {α : Type} {c : Prop} [Decidable c] {a a' b b' : Option α} (h : LeO a a') (k : LeO b b') : LeO (if c then a else b) (if c then a' else b') := by
  split
  · exact h
  exact k
theorem LeO.bind {α β : Type} {a a' : Option α} {f f' : α → Option β} (h : LeO a a') (k : ∀ x, LeO (f x) (f' x)) : LeO (a.bind f) (a'.bind f') := by
  intro r hr
  obtain ⟨x, hx, hf⟩ := Option.bind_eq_some_iff.1 hr
  exact Option.bind_eq_some_iff.2 ⟨x, h x hx, k x r hf⟩
theorem LeO.map {α β : Type} {a a' : Option α} (f : α → β) (h : LeO a a') : LeO (a.map f) (a'.map f) := by
  intro r hr
  obtain ⟨x, hx, hf⟩ := Option.map_eq_some_iff.1 hr
  exact Option.map_eq_some_iff.2 ⟨x, h x hx, hf⟩
theorem more_rounds {α : Type} {g : Nat → Option α} (h : ∀ k, LeO (g k) (g (k + 1))) (k : Nat) : ∀ j, LeO (g k) (g (k + j))
  | 0 => LeO.refl _
  | j + 1 => (more_rounds h k j).trans (h (k + j))
theorem at_rounds {α : Type} {g : Nat → Option α} (h : ∀ k, LeO (g k) (g (k + 1))) {k k' : Nat} (hk : k ≤ k') {r : α} (hr : g k = some r) : g k' = some r := by
  have := more_rounds h k (k' - k) r hr
  rwa [Nat.add_sub_cancel' hk] at this
/-! ### 11. Rows of elements of several cells (structs): read, made. R: what an element's cells say ('RepItem w': printed for each type) -/
def Reps {α : Type} (R : α → List Value → Prop) (size : Nat) (ps : List α) (cs : List Value) : Prop :=
  cs.length = ps.length * size ∧ ∀ j p, ps[j]? = some p → R p ((cs.drop (j * size)).take size)
theorem Reps.none {α : Type} (R : α → List Value → Prop) (size : Nat) : Reps R size [] [] := ⟨by simp, fun j p h => by simp at h⟩
theorem Reps.snoc {α : Type} {R : α → List Value → Prop} {size : Nat} {ps : List α} {cs c : List Value} {p : α} (h : Reps R size ps cs) (hp : R p c) (hc : c.length = size) : Reps R size (ps ++ [p]) (cs ++ c) := by
  refine ⟨by rw [List.length_append, h.1, hc, List.length_append, List.length_singleton, Nat.add_mul, Nat.one_mul], fun j q hq => ?_⟩
  rcases Nat.lt_or_ge j ps.length with hj | hj
  · rw [List.getElem?_append_left hj] at hq
    have h1 : j * size + size ≤ cs.length := by rw [h.1, ← Nat.succ_mul]; exact Nat.mul_le_mul_right _ hj
    have h2 := h.2 j q hq
    rw [List.drop_append_of_le_length (by omega), List.take_append_of_le_length (by rw [List.length_drop]; omega)]
    exact h2
  have hj' : j = ps.length := by
    have := (List.getElem?_eq_some_iff.1 hq).1
    rw [List.length_append, List.length_singleton] at this
    omega
  subst hj'
  have hq' : p = q := by simpa using hq
  subst hq'
  rw [← h.1, List.drop_left, ← hc, List.take_length]
  exact hp
theorem Reps.imp_ {α : Type} {R R' : α → List Value → Prop} {size : Nat} {ps : List α} {cs : List Value} (h : Reps R size ps cs) (hR : ∀ p c, R p c → R' p c) : Reps R' size ps cs := ⟨h.1, fun j p hj => hR _ _ (h.2 j p hj)⟩
def ReadsRow {α : Type} (R : α → List Value → Prop) (size : Nat) (w : World) (A : Option Addr) (n : Nat) (ps : List α) : Prop :=
  ps.length = n ∧ n ≤ 9223372036854775807 ∧ (0 < n → ∃ ad, A = some ad ∧ ∀ j p, ps[j]? = some p → ∃ c, c.length = size ∧ R p c ∧ ∀ i u, c[i]? = some u → w.cell? (ad.add (j * size + i)) = some u)
theorem ReadsRow.get_ {α : Type} {R : α → List Value → Prop} {size : Nat} {w : World} {A : Option Addr} {n : Nat} {ps : List α} (h : ReadsRow R size w A n ps) (d : α) (i : Int) (h0 : 0 ≤ i) (h1 : i < n) :
    ∃ ad c, A = some ad ∧ c.length = size ∧ R (ps.getD i.toNat d) c ∧ ∀ j u, c[j]? = some u → w.cell? (ad.add (i.toNat * size + j)) = some u := by
  obtain ⟨ad, e, hc⟩ := h.2.2 (by omega)
  have hl : i.toNat < ps.length := by have := h.1; omega
  obtain ⟨c, hs, hr, hcell⟩ := hc i.toNat _ (List.getElem?_eq_getElem hl)
  refine ⟨ad, c, e, hs, ?_, hcell⟩
  rw [List.getD_eq_getElem?_getD, List.getElem?_eq_getElem hl]
  exact hr
theorem ReadsRow.imp_ {α : Type} {R R' : α → List Value → Prop} {size : Nat} {w w1 : World} {A : Option Addr} {n : Nat} {ps : List α} (h : ReadsRow R size w A n ps) (hb : Below w.heap.size w w1) (hR : ∀ p c, R p c → R' p c) : ReadsRow R' size w1 A n ps :=
  ⟨h.1, h.2.1, fun hn => by
    obtain ⟨ad, e, hc⟩ := h.2.2 hn
    refine ⟨ad, e, fun j p hj => ?_⟩
    obtain ⟨c, hs, hr, hcell⟩ := hc j p hj
    exact ⟨c, hs, hR _ _ hr, fun i u hu => pw_cell_below hb (hcell i u hu)⟩⟩
theorem own_reads_row {α : Type} {R : α → List Value → Prop} {w : World} {base n size : Nat} {e : TypeId} {v : Value} {ps : List α} {cs : List Value} (h : w.ownsRow base e size v n cs) (hR : Reps R size ps cs) (hn : ps.length = n) :
    ∃ A c, v = .slice A n c ∧ ReadsRow R size w A n ps := by
  rcases Nat.eq_zero_or_pos n with h0 | h0
  · rcases h.2 with ⟨rfl, rfl⟩ | ⟨g, cap, cur, rfl, _⟩
    · exact ⟨none, 0, rfl, hn, by omega, fun hp => absurd hp (by omega)⟩
    exact ⟨_, cap, rfl, hn, by omega, fun hp => absurd hp (by omega)⟩
  obtain ⟨g, cap, rfl, _, _⟩ := h.form h0
  have hm : n ≤ 9223372036854775807 := by
    rcases h.2 with ⟨_, h1⟩ | ⟨g', cap', cur, he, _, _, h1, h2, _⟩
    · omega
    simp only [maxLen] at h2
    omega
  refine ⟨_, cap, rfl, hn, hm, fun _ => ⟨_, rfl, fun j p hj => ⟨(cs.drop (j * size)).take size, ?_, hR.2 j p hj, fun i u hu => ?_⟩⟩⟩
  · have hjl := (List.getElem?_eq_some_iff.1 hj).1
    have h1 : j * size + size ≤ cs.length := by rw [hR.1, ← Nat.succ_mul]; exact Nat.mul_le_mul_right _ hjl
    rw [List.length_take, List.length_drop]
    omega
  refine h.cells (g := g) rfl _ u ?_
  rw [List.getElem?_take] at hu
  split at hu
  · rw [List.getElem?_drop] at hu
    exact hu
  cases hu
/-- A field's address as_ the walk spells it. -/
theorem add_field (ad : Addr) (m j : Nat) (hj : 0 < j) : ad.add (m + j) = ⟨(ad.add m).block, (ad.add m).off + j, none⟩ := by
  unfold Addr.add
  by_cases hm : m = 0
  · subst hm
    simp [Nat.ne_of_gt hj]
  simp [hm, Nat.add_assoc]
section
variable {P : Program} {ops : Array Oper} {rest : List Oper} {o : Oper} {a : Act} {Q : Exit → Act → World → Prop}
/-- append(v, x), x of several cells; behind 'at_builtin'; the goal's world is 'W.alloc' of the variadic's box. -/
theorem print_append_cells {w0 W : World} (base : Nat) (hgd : o.guard = none) (s x : Operand) (t e : TypeId) (z : Value) (size bytes : Nat)
    (ho : o.op = .call { callee := .builtin .append, args := #[s, x], argTypes := #[t, t] })
    (ht : P.underlying t = some (.slice e)) (hinfo : (P.info? e).map (fun i => (i.zero, i.size, i.bytes)) = some (some z, size, bytes)) (hz : z.cells.size = size) (hs0 : 0 < size) (hb0 : 0 < bytes)
    (v : Value) (n : Nat) (xs ys : List Value) (hs : a.eval s = v) (hx : a.eval x = .slice (some ⟨W.heap.size, 0, none⟩) 1 1) (hys : ys.length = size) (h1 : ∀ u ∈ ys, u.oneCell' = true)
    (HO : W.ownsRow base e size v n xs) (HB : Below base w0 W) (hbase : base ≤ W.heap.size) (hl : (n + 1) * bytes ≤ 140737488355328)
    (h : ∀ v1 w1, w1.ownsRow base e size v1 (n + 1) (xs ++ ys) → Below base w0 w1 → W.grownBy w1 v.ownBlock → (v1.ownBlock = v.ownBlock ∨ ∃ b, v1.ownBlock = some b ∧ W.heap.size ≤ b) → wpList P ops Q rest (a.put o.dst v1) w1) :
    wpList P ops Q (o :: rest) a (W.alloc (.cells ys.toArray e)) := by
  obtain ⟨i0, hi, hzz⟩ := Option.map_eq_some_iff.1 hinfo
  simp only [Prod.mk.injEq] at hzz
  obtain ⟨hz0, hz1, hz2⟩ := hzz
  have hlen : n + 1 ≤ 140737488355328 := Nat.le_trans (Nat.le_mul_of_pos_right _ hb0) hl
  refine wpList_append_own_at (W.alloc (.cells ys.toArray e)) hgd s x t ho base e i0 z size bytes ht hi hz0 hz1 hz2 hz hs0 v n xs hs (HO.alloc _) ⟨W.heap.size, 0, none⟩ 1 1 ys hx (by rw [hys]; simp)
    (by simpa using World.news_of_block (cs := ys.toArray) (t := e) (fr := (0, 0)) (heap_alloc_new W (.cells ys.toArray e))) h1 (by simp only [maxLen]; omega) hl (by simp; omega) ?_
  intro v1 w1 hown hg _ hat
  refine h v1 w1 hown ((HB.alloc hbase _).grown hg (by simp; omega) (own_base HO)) (World.grownBy.trans (World.grownBy_alloc W _ _) hg) ?_
  rcases hat with hat | hat
  · exact .inl hat
  exact .inr ⟨_, hat, by simp⟩
end
/-! ### 12. A block of one's own that is a state: its cells, what a store leaves -/
theorem own_ne {w : World} {base : Nat} {e t : TypeId} {size n g : Nat} {v : Value} {xs : List Value} {cs : Array Value} (h : w.ownsRow base e size v n xs) (hg : w.heap[g]? = some (.cells cs t (0, 0))) (hne : e ≠ t) : some g ≠ v.ownBlock := by
  rcases h.2 with ⟨rfl, _⟩ | ⟨g', cap, cur, rfl, _, hh, _⟩
  · simp [Value.ownBlock]
  intro he
  have : g = g' := by simpa [Value.ownBlock] using he
  subst this
  rw [hg] at hh
  injection hh with hh
  injection hh with _ ht
  exact hne ht.symm
theorem blk_set {w : World} {g : Nat} {t : TypeId} {cs : Array Value} (h : w.heap[g]? = some (.cells cs t (0, 0))) (i : Nat) (u : Value) : (w.setCell ⟨g, i, none⟩ u).heap[g]? = some (.cells (cs.setIfInBounds i u) t (0, 0)) := by
  simp [World.setCell, Array.getElem?_modify, h]
theorem blk_far {w : World} {g : Nat} {t : TypeId} {cs : Array Value} (h : w.heap[g]? = some (.cells cs t (0, 0))) {p : Addr} (hp : g ≠ p.block) (u : Value) : (w.setCell p u).heap[g]? = some (.cells cs t (0, 0)) := (Below.heap_setCell w p u g hp).trans h
theorem blk_lt {w : World} {g : Nat} {o : Obj} (h : w.heap[g]? = some o) : g < w.heap.size := (Array.getElem?_eq_some_iff.1 h).1
theorem blk_cell {w : World} {g : Nat} {t : TypeId} {cs : Array Value} (h : w.heap[g]? = some (.cells cs t (0, 0))) (i : Nat) : w.cell? ⟨g, i, none⟩ = cs[i]? := cell_of_row w g i cs t (0, 0) h
theorem blk_frozen {w : World} {g : Nat} {t : TypeId} {cs : Array Value} (h : w.heap[g]? = some (.cells cs t (0, 0))) (i : Nat) : w.frozen? ⟨g, i, none⟩ = false := by simp [World.frozen?, h]
/-! ### 13. Two states at once: what a call on the state at block g (its row before: 'row') has turned -/
def KeepBut (w w' : World) (g : Nat) (row : Option Nat) : Prop := w.heap.size ≤ w'.heap.size ∧ ∀ i, i < w.heap.size → i ≠ g → some i ≠ row → w'.heap[i]? = w.heap[i]?
theorem KeepBut.refl (w : World) (g : Nat) (row : Option Nat) : KeepBut w w g row := ⟨Nat.le_refl _, fun _ _ _ _ => rfl⟩
theorem KeepBut.of_below {w w1 : World} (h : Below w.heap.size w w1) (g : Nat) (row : Option Nat) : KeepBut w w1 g row := ⟨h.size, fun i hi _ _ => h.block i hi⟩
theorem KeepBut.trans {w w1 w2 : World} {g : Nat} {row row1 : Option Nat} (h : KeepBut w w1 g row) (k : KeepBut w1 w2 g row1) (hr : row1 = row ∨ ∃ b, row1 = some b ∧ w.heap.size ≤ b) : KeepBut w w2 g row :=
  ⟨Nat.le_trans h.1 k.1, fun i hi hg hn => by
    refine (k.2 i (Nat.lt_of_lt_of_le hi h.1) hg ?_).trans (h.2 i hi hg hn)
    rcases hr with rfl | ⟨b, rfl, hb⟩
    · exact hn
    intro e
    injection e with e
    omega⟩
/-- Another block, another row: they live on. -/
theorem KeepBut.blk {w w1 : World} {g g' : Nat} {row : Option Nat} {o : Obj} (h : KeepBut w w1 g row) (hb : w.heap[g']? = some o) (hg : g' ≠ g) (hr : some g' ≠ row) : w1.heap[g']? = some o := (h.2 g' (blk_lt hb) hg hr).trans hb
theorem KeepBut.own {w w1 : World} {g : Nat} {row : Option Nat} {base : Nat} {e : TypeId} {size n : Nat} {v : Value} {xs : List Value} (h : KeepBut w w1 g row) (ho : w.ownsRow base e size v n xs) (hg : v.ownBlock ≠ some g) (hr : v.ownBlock = none ∨ v.ownBlock ≠ row) : w1.ownsRow base e size v n xs := by
  obtain ⟨h1, h2⟩ := ho
  refine ⟨h1, ?_⟩
  rcases h2 with h2 | ⟨b, cap, cur, rfl, hb, hh, r⟩
  · exact .inl h2
  refine .inr ⟨b, cap, cur, rfl, hb, h.blk hh ?_ ?_, r⟩
  · intro e
    exact hg (by rw [← e]; rfl)
  rcases hr with hr | hr
  · simp [Value.ownBlock] at hr
  exact hr
/-! ### 10b. From some number of rounds on -/
def Ev {α : Type} (g : Nat → Option α) (r : α) : Prop := ∃ K, ∀ k, K ≤ k → g k = some r
theorem Ev.of {α : Type} {g : Nat → Option α} {r : α} (hg : ∀ k, LeO (g k) (g (k + 1))) {k : Nat} (h : g k = some r) : Ev g r := ⟨k, fun _ hk => at_rounds hg hk h⟩
theorem Ev.now {α : Type} (r : α) : Ev (fun _ => some r) r := ⟨0, fun _ _ => rfl⟩
theorem Ev.bind {α β : Type} {g : Nat → Option α} {f : Nat → α → Option β} {a : α} {r : β} (h : Ev g a) (k : Ev (fun n => f n a) r) : Ev (fun n => (g n).bind (f n)) r := by
  obtain ⟨K, h⟩ := h
  obtain ⟨K', k⟩ := k
  refine ⟨max K K', fun n hn => ?_⟩
  have h1 := h n (by omega)
  have h2 := k n (by omega)
  simp only [h1, Option.bind_some]
  exact h2
/-- One round of a loop. -/
theorem Ev.step {α : Type} {g f : Nat → Option α} {r : α} (h : ∀ k, g (k + 1) = f k) (k : Ev f r) : Ev g r := by
  obtain ⟨K, k⟩ := k
  refine ⟨K + 1, fun n hn => ?_⟩
  obtain ⟨m, rfl⟩ : ∃ m, n = m + 1 := ⟨n - 1, by omega⟩
  rw [h]
  exact k m (by omega)
theorem Ev.congr {α : Type} {g f : Nat → Option α} {r : α} (h : ∀ k, g k = f k) (k : Ev f r) : Ev g r := by
  obtain ⟨K, k⟩ := k
  exact ⟨K, fun n hn => (h n).trans (k n hn)⟩
/-! ### 14. append as_ one step of a region that draws its order: for 'go_region_law' (and a region walked by hand) -/
section
variable {P : Program} {ops : Array Oper} {o : Oper} {a : Act} {Q : Exit → Act → World → Prop} {K : Act → World → Prop}
end
/-! ### 15. A row's base may be lowered -/
theorem own_weaken {w : World} {base base' : Nat} {e : TypeId} {size n : Nat} {v : Value} {xs : List Value} (h : w.ownsRow base e size v n xs) (hb : base' ≤ base) : w.ownsRow base' e size v n xs := by
  obtain ⟨h1, h2⟩ := h
  refine ⟨h1, ?_⟩
  rcases h2 with h2 | ⟨g, cap, cur, rfl, hg, r⟩
  · exact .inl h2
  exact .inr ⟨g, cap, cur, rfl, Nat.le_trans hb hg, r⟩
/-! ### 16. Parts 3 to 9 for ANY element of one cell: 'enc' (Value.int k, Value.string, Value.bool), a default 'd' -/
section
variable {α : Type} {enc : α → Value} {d : α}
def rdOf (d : α) (xs : List α) (i : Int) : α := xs.getD i.toNat d
def ReadsOf (enc : α → Value) (d : α) (w : World) (A : Option Addr) (n : Nat) (xs : List α) : Prop :=
  xs.length = n ∧ n ≤ 9223372036854775807 ∧ (0 < n → ∃ ad, A = some ad ∧ ∀ j, j < n → w.cell? (ad.add j) = some (enc (xs.getD j d)))
theorem ReadsOf.at_ {w : World} {A : Option Addr} {n : Nat} {xs : List α} (h : ReadsOf enc d w A n xs) (i : Int) (h0 : 0 ≤ i) (h1 : i < n) : ∃ ad, A = some ad ∧ w.cell? (ad.add i.toNat) = some (enc (rdOf d xs i)) := by
  obtain ⟨ad, e, hc⟩ := h.2.2 (by omega)
  exact ⟨ad, e, hc _ (by omega)⟩
theorem ReadsOf.below {w w1 : World} {A : Option Addr} {n : Nat} {xs : List α} (h : ReadsOf enc d w A n xs) (hb : Below w.heap.size w w1) : ReadsOf enc d w1 A n xs :=
  ⟨h.1, h.2.1, fun hn => by
    obtain ⟨ad, e, hc⟩ := h.2.2 hn
    exact ⟨ad, e, fun j hj => pw_cell_below hb (hc j hj)⟩⟩
theorem ReadsOf.take_ {w : World} {A : Option Addr} {n : Nat} {xs : List α} (h : ReadsOf enc d w A n xs) (i : Nat) (hi : i ≤ n) : ReadsOf enc d w A i (xs.take i) := by
  refine ⟨by rw [List.length_take, h.1]; omega, by have := h.2.1; omega, fun hp => ?_⟩
  obtain ⟨ad, e, hc⟩ := h.2.2 (by omega)
  refine ⟨ad, e, fun j hj => ?_⟩
  rw [hc j (by omega)]
  simp [List.getD_eq_getElem?_getD, hj]
end
section
variable {α : Type} {P : Program} {ops : Array Oper} {rest : List Oper} {o : Oper} {a : Act} {Q : Exit → Act → World → Prop}
end
/-! ### 17. Rows of one element type held at once: no two share a block -/
/-! ### 18. A block behind a new one; behind a draw -/
theorem blk_alloc {w : World} {g : Nat} {o : Obj} (h : w.heap[g]? = some o) (o' : Obj) : (w.alloc o').heap[g]? = some o := (Below.heap_alloc w o' g (blk_lt h)).trans h
theorem blk_drew {w : World} {g : Nat} {o : Obj} (h : w.heap[g]? = some o) : w.drew.heap[g]? = some o := h
theorem blk_drewN {w : World} {g : Nat} {o : Obj} (h : w.heap[g]? = some o) (n : Nat) : (w.drewN n).heap[g]? = some o := h
theorem blk_below {w w1 : World} {g : Nat} {o : Obj} (h : w.heap[g]? = some o) (hb : Below w.heap.size w w1) : w1.heap[g]? = some o := (hb.block g (blk_lt h)).trans h
theorem blk_new (w : World) (o : Obj) : (w.alloc o).heap[w.heap.size]? = some o := heap_alloc_new w o
/-! ### 19. Results that lie in memory beside others -/
section
variable {P : Program}
theorem results_ctt {fn : Func} {p u v : Tmp} {ty : TypeId} (h : fn.results = #[.cell p ty, .tmp u, .tmp v]) (tmps : Array Value) (w : World) (g : Nat) (t : TypeId) (cs : Array Value) (fr : Nat × Nat) (d : TypeDesc)
    (hp : tmps.getD p undef = .pointer (some ⟨g, 0, none⟩)) (hg : w.heap[g]? = some (.cells cs t fr))
    (hu : P.underlying ty = some d) (hd : (match d with | .struct _ | .array _ _ => true | _ => false) = true) (hi : (P.info? ty).map (·.size) = some cs.size) :
    (results fn tmps).run P w = .ok (.tuple #[.agg cs, tmps.getD u undef, tmps.getD v undef]) w := by
  have hp' : tmps[p]?.getD undef = .pointer (some ⟨g, 0, none⟩) := by simpa using hp
  simp [results, h, hp', asAddr, run_loadVar_row w g t ty cs fr d hg hu hd hi]
end
/-! ### 20. Rows of elements of any kind: R is what an element's cells say -/
theorem own_le {w : World} {base n m c size : Nat} {e : TypeId} {A : Option Addr} {xs : List Value} (h : w.ownsRow base e size (.slice A m c) n xs) : m ≤ c := by
  rcases h.2 with ⟨he, _⟩ | ⟨g, cap, cur, he, _, _, hnc, _⟩
  · injection he with _ h2 h3
    omega
  injection he with _ h2 h3
  omega
def OwnRow {α : Type} (R : α → List Value → Prop) (e : TypeId) (size : Nat) (w : World) (base : Nat) (v : Value) (ps : List α) : Prop :=
  ∃ inner, w.ownsRow base e size v ps.length inner ∧ Reps R size ps inner
section
variable {α : Type} {R R' : α → List Value → Prop} {e : TypeId} {size : Nat} {w w1 : World} {base : Nat} {v : Value} {ps : List α}
theorem OwnRow.none_ (R : α → List Value → Prop) (e : TypeId) (size : Nat) (w : World) (base : Nat) : OwnRow R e size w base (.slice none 0 0) [] := ⟨[], own_nil _ _ _ _, Reps.none _ _⟩
theorem OwnRow.imp_ (h : OwnRow R e size w base v ps) (hR : ∀ p c, R p c → R' p c) : OwnRow R' e size w base v ps := by
  obtain ⟨inner, ho, hr⟩ := h
  exact ⟨inner, ho, hr.imp_ hR⟩
theorem OwnRow.below (h : OwnRow R e size w base v ps) (hb : Below w.heap.size w w1) : OwnRow R e size w1 base v ps := by
  obtain ⟨inner, ho, hr⟩ := h
  exact ⟨inner, pw_own_below ho hb, hr⟩
theorem OwnRow.keep (h : OwnRow R e size w base v ps) {g : Nat} {t : TypeId} {cells : Array Value} (hb : w.heap[g]? = some (.cells cells t (0, 0))) (ht : e ≠ t) (hk : KeepBut w w1 g none) : OwnRow R e size w1 base v ps := by
  obtain ⟨inner, ho, hr⟩ := h
  exact ⟨inner, hk.own ho (Ne.symm (own_ne ho hb ht)) (by cases v.ownBlock <;> simp), hr⟩
theorem OwnRow.reads (h : OwnRow R e size w base v ps) : ∃ A c, v = .slice A ps.length c ∧ ps.length ≤ c ∧ ReadsRow R size w A ps.length ps := by
  obtain ⟨inner, ho, hr⟩ := h
  obtain ⟨A, c, rfl, hrow⟩ := own_reads_row ho hr rfl
  exact ⟨A, c, rfl, own_le ho, hrow⟩
/-- A literal: the elements' cells one behind the other. -/
theorem OwnRow.lit (W : World) (base : Nat) {inner : List Value} (hr : Reps R size ps inner) (hb : base ≤ W.heap.size) (hm : ps.length ≤ 9223372036854775807) :
    OwnRow R e size (W.alloc (.cells inner.toArray e)) base (.slice (some ⟨W.heap.size, 0, none⟩) ps.length ps.length) ps := by
  have h := World.ownsRow_lit (base := base) (e := e) (size := size) W inner.toArray ps.length hb (by simpa [maxLen] using hm) (by simpa using hr.1)
  exact ⟨inner, by simpa using h, hr⟩
end
section
variable {P : Program} {ops : Array Oper} {rest : List Oper} {o : Oper} {a : Act} {Q : Exit → Act → World → Prop} {α : Type} {R : α → List Value → Prop}
/-- append(v, x): x's cells are cs. R is that of the world AHEAD; move it over hg ('OwnRow.imp_'). -/
theorem OwnRow.append {w0 W : World} (base : Nat) (hgd : o.guard = none) (s x : Operand) (t e : TypeId) (z : Value) (size bytes : Nat)
    (ho : o.op = .call { callee := .builtin .append, args := #[s, x], argTypes := #[t, t] })
    (ht : P.underlying t = some (.slice e)) (hinfo : (P.info? e).map (fun i => (i.zero, i.size, i.bytes)) = some (some z, size, bytes)) (hz : z.cells.size = size) (hs0 : 0 < size) (hb0 : 0 < bytes)
    (v : Value) (ps : List α) (p : α) (cs : List Value) (hs : a.eval s = v) (hx : a.eval x = .slice (some ⟨W.heap.size, 0, none⟩) 1 1) (hp : R p cs) (hcs : cs.length = size) (h1 : ∀ u ∈ cs, u.oneCell' = true)
    (HO : OwnRow R e size W base v ps) (HB : Below base w0 W) (hbase : base ≤ W.heap.size) (hl : (ps.length + 1) * bytes ≤ 140737488355328)
    (h : ∀ v1 w1, OwnRow R e size w1 base v1 (ps ++ [p]) → Below base w0 w1 → W.grownBy w1 v.ownBlock → (v1.ownBlock = v.ownBlock ∨ ∃ b, v1.ownBlock = some b ∧ W.heap.size ≤ b) → wpList P ops Q rest (a.put o.dst v1) w1) :
    wpList P ops Q (o :: rest) a (W.alloc (.cells cs.toArray e)) := by
  obtain ⟨inner, hown, hr⟩ := HO
  refine print_append_cells base hgd s x t e z size bytes ho ht hinfo hz hs0 hb0 v ps.length inner cs hs hx hcs h1 hown HB hbase hl ?_
  intro v1 w1 hown1 hb1 hg1 hat1
  exact h v1 w1 ⟨inner ++ cs, by rw [List.length_append, List.length_singleton]; exact hown1, hr.snoc hp hcs⟩ hb1 hg1 hat1
end
section
variable {P : Program} {ops : Array Oper} {o : Oper} {a : Act} {Q : Exit → Act → World → Prop} {K : Act → World → Prop} {α : Type} {R : α → List Value → Prop}
end
/-! ### 21. Cuts of a slice that came in, lengths spelled as_ the lists' -/
section
variable {α : Type} {P : Program}
end
/-! ### 22. append([]byte, s...), s a string; behind 'at_builtin'. (No word on where the new row lies: two rows of bytes at once don't go by it.) -/
section
variable {P : Program} {ops : Array Oper} {rest : List Oper} {o : Oper} {a : Act} {Q : Exit → Act → World → Prop}
theorem print_append_str {w0 W : World} (base : Nat) (hgd : o.guard = none) (s x : Operand) (t u e : TypeId)
    (ho : o.op = .call { callee := .builtin .append, args := #[s, x], argTypes := #[t, u] })
    (ht : P.underlying t = some (.slice e)) (hu : P.underlying u = some .string) (hinfo : (P.info? e).map (fun i => (i.zero, i.size, i.bytes)) = some (some (.int .u8 0), 1, 1))
    (v : Value) (xs : List Int) (y : ByteArray) (hs : a.eval s = v) (hx : a.eval x = .string y)
    (HO : W.ownsRow base e 1 v xs.length (nums .u8 xs)) (HB : Below base w0 W) (hbase : base ≤ W.heap.size) (hl : xs.length + y.size ≤ 140737488355328)
    (h : ∀ v1 w1, w1.ownsRow base e 1 v1 (xs ++ bytesOf y).length (nums .u8 (xs ++ bytesOf y)) → Below base w0 w1 → W.grownBy w1 v.ownBlock → wpList P ops Q rest (a.put o.dst v1) w1) :
    wpList P ops Q (o :: rest) a W := by
  obtain ⟨i0, hi, hzz⟩ := Option.map_eq_some_iff.1 hinfo
  simp only [Prod.mk.injEq] at hzz
  obtain ⟨hz0, hz1, hz2⟩ := hzz
  refine Lib.wpList_append_own_string W hgd s x t u ho base e i0 ht hu hi hz0 hz1 hz2 v xs.length (nums .u8 xs) hs HO y hx (by simp only [maxLen]; omega) hl hbase ?_
  intro v1 w1 hown hg _
  have hl2 : (xs ++ bytesOf y).length = xs.length + y.size := by rw [List.length_append, bytesOf_length]
  have hc : nums .u8 (xs ++ bytesOf y) = nums .u8 xs ++ Lib.strCells y := by
    rw [nums_append]
    congr 1
    simp [nums, bytesOf, Lib.strCells]
  exact h v1 w1 (by rw [hl2, hc]; exact hown) (HB.grown hg hbase (own_base HO)) hg
end
/-! ### 23. KINDS: what a value's cells say, read (K) and made (M), kind by kind; every mover proved once -/
/-- ok: which blocks the rows inside may be ('not the row that is being written'). -/
structure Kd (α : Type) where
  sz : Nat
  E : List Nat
  K : World → α → List Value → Prop
  M : World → Nat → (Nat → Prop) → α → List Value → Prop
  K_len : ∀ {w x cs}, K w x cs → cs.length = sz
  K_one : ∀ {w x cs}, K w x cs → ∀ u ∈ cs, u.oneCell' = true
  K_below : ∀ {w w1 : World} {x cs}, Below w.heap.size w w1 → K w x cs → K w1 x cs
  K_of_M : ∀ {w base ok x cs}, M w base ok x cs → K w x cs
  M_mono : ∀ {w base ok ok' x cs}, (∀ k, ok k → ok' k) → M w base ok x cs → M w base ok' x cs
  M_bound : ∀ {w : World} {base ok x cs}, M w base ok x cs → M w base (fun k => ok k ∧ base ≤ k ∧ k < w.heap.size ∧ ∃ q, q ∈ E ∧ ∃ cells, w.heap[k]? = some (.cells cells q (0, 0))) x cs
  M_move : ∀ {w w1 : World} {base ok x cs}, (∀ k, ok k → w1.heap[k]? = w.heap[k]?) → M w base ok x cs → M w1 base ok x cs
  M_lower : ∀ {w base base' ok x cs}, base' ≤ base → M w base ok x cs → M w base' ok x cs
theorem own_move {w w1 : World} {base : Nat} {e : TypeId} {size n : Nat} {v : Value} {xs : List Value} (h : w.ownsRow base e size v n xs) (hm : ∀ k, v.ownBlock = some k → w1.heap[k]? = w.heap[k]?) : w1.ownsRow base e size v n xs := by
  obtain ⟨h1, h2⟩ := h
  refine ⟨h1, ?_⟩
  rcases h2 with h2 | ⟨g, cap, cur, rfl, hg, hh, r⟩
  · exact .inl h2
  exact .inr ⟨g, cap, cur, rfl, hg, (hm g (by simp [Value.ownBlock])).trans hh, r⟩
theorem own_typed {w : World} {base : Nat} {e : TypeId} {size n : Nat} {v : Value} {xs : List Value} (h : w.ownsRow base e size v n xs) (k : Nat) (hk : v.ownBlock = some k) : ∃ cells, w.heap[k]? = some (.cells cells e (0, 0)) := by
  rcases h.2 with ⟨rfl, _⟩ | ⟨g, cap, cur, rfl, hg, hh, r⟩
  · simp [Value.ownBlock] at hk
  have : g = k := by simpa [Value.ownBlock] using hk
  subst this
  exact ⟨cur, hh⟩
namespace Kd
/-- A row of elements that is read. -/
def C {α : Type} (d : Kd α) (w : World) (A : Option Addr) (n : Nat) (xs : List α) : Prop := ReadsRow (d.K w) d.sz w A n xs
/-- A row of elements (type e) of the call's own; the elements' rows are not this one. -/
def R {α : Type} (d : Kd α) (e : Nat) (w : World) (base : Nat) (ok : Nat → Prop) (v : Value) (xs : List α) : Prop :=
  (∀ k, v.ownBlock = some k → ok k) ∧ OwnRow (d.M w base (fun k => ok k ∧ some k ≠ v.ownBlock)) e d.sz w base v xs
section
variable {α : Type} {d : Kd α} {e : Nat} {w w1 : World} {base : Nat} {ok ok' : Nat → Prop} {v : Value} {xs : List α}
theorem C_below {A : Option Addr} {n : Nat} (h : d.C w A n xs) (hb : Below w.heap.size w w1) : d.C w1 A n xs := ReadsRow.imp_ h hb (fun _ _ hp => d.K_below hb hp)
theorem R_nil (d : Kd α) (e : Nat) (w : World) (base : Nat) (ok : Nat → Prop) : d.R e w base ok (.slice none 0 0) [] := ⟨fun k hk => by simp [Value.ownBlock] at hk, OwnRow.none_ _ _ _ _ _⟩
theorem R_mono (h : d.R e w base ok v xs) (hok : ∀ k, ok k → ok' k) : d.R e w base ok' v xs := ⟨fun k hk => hok k (h.1 k hk), h.2.imp_ (fun _ _ hp => d.M_mono (fun k hk => ⟨hok k hk.1, hk.2⟩) hp)⟩
theorem R_bound (h : d.R e w base ok v xs) : d.R e w base (fun k => ok k ∧ base ≤ k ∧ k < w.heap.size ∧ ∃ q, q ∈ e :: d.E ∧ ∃ cells, w.heap[k]? = some (.cells cells q (0, 0))) v xs := by
  obtain ⟨h0, inner, ho, hr⟩ := h
  refine ⟨fun k hk => ?_, inner, ho, hr.imp_ (fun _ _ hp => d.M_mono (fun k hk => ?_) (d.M_bound hp))⟩
  · obtain ⟨cells, hc⟩ := own_typed ho k hk
    exact ⟨h0 k hk, own_base ho k hk, own_lt ho k hk, e, List.mem_cons_self, cells, hc⟩
  obtain ⟨⟨h1, h2⟩, h3, h4, q, hq, hc⟩ := hk
  exact ⟨⟨h1, h3, h4, q, List.mem_cons_of_mem _ hq, hc⟩, h2⟩
theorem R_move (h : d.R e w base ok v xs) (hm : ∀ k, ok k → w1.heap[k]? = w.heap[k]?) : d.R e w1 base ok v xs := by
  obtain ⟨h0, inner, ho, hr⟩ := h
  exact ⟨h0, inner, own_move ho (fun k hk => hm k (h0 k hk)), hr.imp_ (fun _ _ hp => d.M_move (fun k hk => hm k hk.1) hp)⟩
theorem R_lower {base' : Nat} (h : d.R e w base ok v xs) (hb : base' ≤ base) : d.R e w base' ok v xs := by
  obtain ⟨h0, inner, ho, hr⟩ := h
  exact ⟨h0, inner, own_weaken ho hb, hr.imp_ (fun _ _ hp => d.M_lower hb hp)⟩
/-- Any mover: what is ok, and a block of w's, stays. -/
theorem R_step (h : d.R e w base ok v xs) (hm : ∀ k, ok k → k < w.heap.size → w1.heap[k]? = w.heap[k]?) : d.R e w1 base ok v xs :=
  R_mono (R_move (R_bound h) (fun k hk => hm k hk.1 hk.2.2.1)) (fun _ hk => hk.1)
theorem M_step {x : α} {cs : List Value} (h : d.M w base ok x cs) (hm : ∀ k, ok k → k < w.heap.size → w1.heap[k]? = w.heap[k]?) : d.M w1 base ok x cs :=
  d.M_mono (fun _ hk => hk.1) (d.M_move (fun k hk => hm k hk.1 hk.2.2.1) (d.M_bound h))
theorem R_below (h : d.R e w base ok v xs) (hb : Below w.heap.size w w1) : d.R e w1 base ok v xs := R_step h (fun k _ hk => hb.block k hk)
theorem M_below {x : α} {cs : List Value} (h : d.M w base ok x cs) (hb : Below w.heap.size w w1) : d.M w1 base ok x cs := M_step h (fun k _ hk => hb.block k hk)
/-- A store into another block. -/
theorem R_far (h : d.R e w base ok v xs) {p : Addr} (hok : ∀ k, ok k → k ≠ p.block) (u : Value) : d.R e (w.setCell p u) base ok v xs := R_step h (fun k ho _ => Below.heap_setCell w p u k (hok k ho))
theorem M_far {x : α} {cs : List Value} (h : d.M w base ok x cs) {p : Addr} (hok : ∀ k, ok k → k ≠ p.block) (u : Value) : d.M (w.setCell p u) base ok x cs := M_step h (fun k ho _ => Below.heap_setCell w p u k (hok k ho))
/-- By types alone: the rows inside are none of a block of type t. -/
theorem R_types (h : d.R e w base ok v xs) {g t : Nat} {cells : Array Value} (hb : w.heap[g]? = some (.cells cells t (0, 0))) (ht : ∀ q, q ∈ e :: d.E → q ≠ t) : d.R e w base (fun k => ok k ∧ k ≠ g) v xs :=
  R_mono (R_bound h) (fun k hk => ⟨hk.1, by
    obtain ⟨_, _, _, q, hq, cells', hc⟩ := hk
    rintro rfl
    rw [hc] at hb
    injection hb with hb
    injection hb with _ hb
    exact ht q hq hb⟩)
theorem R_reads (h : d.R e w base ok v xs) : ∃ A c, v = .slice A xs.length c ∧ xs.length ≤ c ∧ d.C w A xs.length xs := by
  obtain ⟨A, c, he, hl, hr⟩ := OwnRow.reads h.2
  exact ⟨A, c, he, hl, hr.imp_ (Below.refl _ _) (fun _ _ hp => d.K_of_M hp)⟩
theorem R_slice (h : d.R e w base ok v xs) : ∃ A c, v = .slice A xs.length c := by
  obtain ⟨A, c, he, _⟩ := R_reads h
  exact ⟨A, c, he⟩
theorem R_own (h : d.R e w base ok v xs) : ∃ inner, w.ownsRow base e d.sz v xs.length inner := by
  obtain ⟨_, inner, ho, _⟩ := h
  exact ⟨inner, ho⟩
end
/-! #### the kinds -/
def scalar {α : Type} (enc : α → Value) (h1 : ∀ x, (enc x).oneCell' = true) : Kd α where
  sz := 1
  E := []
  K := fun _ x cs => cs = [enc x]
  M := fun _ _ _ x cs => cs = [enc x]
  K_len := fun h => by rw [h]; rfl
  K_one := fun h u hu => by
    rw [h] at hu
    rw [List.mem_singleton.1 hu]
    exact h1 _
  K_below := fun _ h => h
  K_of_M := fun h => h
  M_mono := fun _ h => h
  M_bound := fun h => h
  M_move := fun _ h => h
  M_lower := fun _ h => h
def int (k : IntKind) : Kd Int := scalar (Value.int k) (fun _ => rfl)
def bool : Kd Bool := scalar Value.bool (fun _ => rfl)
def string : Kd ByteArray := scalar Value.string (fun _ => rfl)
def slice {α : Type} (e : Nat) (d : Kd α) : Kd (List α) where
  sz := 1
  E := e :: d.E
  K := fun w xs cs => ∃ A c, cs = [.slice A xs.length c] ∧ xs.length ≤ c ∧ d.C w A xs.length xs
  M := fun w base ok xs cs => ∃ v, cs = [v] ∧ d.R e w base ok v xs
  K_len := by
    rintro w x cs ⟨A, c, rfl, _⟩
    rfl
  K_one := by
    rintro w x cs ⟨A, c, rfl, _⟩ u hu
    rw [List.mem_singleton.1 hu]
    rfl
  K_below := by
    rintro w w1 x cs hb ⟨A, c, rfl, hl, hr⟩
    exact ⟨A, c, rfl, hl, C_below hr hb⟩
  K_of_M := by
    rintro w base ok x cs ⟨v, rfl, h⟩
    obtain ⟨A, c, rfl, hl, hr⟩ := R_reads h
    exact ⟨A, c, rfl, hl, hr⟩
  M_mono := by
    rintro w base ok ok' x cs hok ⟨v, rfl, h⟩
    exact ⟨v, rfl, R_mono h hok⟩
  M_bound := by
    rintro w base ok x cs ⟨v, rfl, h⟩
    exact ⟨v, rfl, R_bound h⟩
  M_move := by
    rintro w w1 base ok x cs hm ⟨v, rfl, h⟩
    exact ⟨v, rfl, R_move h hm⟩
  M_lower := by
    rintro w base base' ok x cs hb ⟨v, rfl, h⟩
    exact ⟨v, rfl, R_lower h hb⟩
/-- Two in line. -/
def pair {α β : Type} (a : Kd α) (b : Kd β) : Kd (α × β) where
  sz := a.sz + b.sz
  E := a.E ++ b.E
  K := fun w x cs => ∃ c0 c1, cs = c0 ++ c1 ∧ a.K w x.1 c0 ∧ b.K w x.2 c1
  M := fun w base ok x cs => ∃ c0 c1, cs = c0 ++ c1 ∧ a.M w base ok x.1 c0 ∧ b.M w base ok x.2 c1
  K_len := by
    rintro w x cs ⟨c0, c1, rfl, h0, h1⟩
    rw [List.length_append, a.K_len h0, b.K_len h1]
  K_one := by
    rintro w x cs ⟨c0, c1, rfl, h0, h1⟩ u hu
    rcases List.mem_append.1 hu with hu | hu
    · exact a.K_one h0 u hu
    exact b.K_one h1 u hu
  K_below := by
    rintro w w1 x cs hb ⟨c0, c1, rfl, h0, h1⟩
    exact ⟨c0, c1, rfl, a.K_below hb h0, b.K_below hb h1⟩
  K_of_M := by
    rintro w base ok x cs ⟨c0, c1, rfl, h0, h1⟩
    exact ⟨c0, c1, rfl, a.K_of_M h0, b.K_of_M h1⟩
  M_mono := by
    rintro w base ok ok' x cs hok ⟨c0, c1, rfl, h0, h1⟩
    exact ⟨c0, c1, rfl, a.M_mono hok h0, b.M_mono hok h1⟩
  M_bound := by
    rintro w base ok x cs ⟨c0, c1, rfl, h0, h1⟩
    refine ⟨c0, c1, rfl, a.M_mono ?_ (a.M_bound h0), b.M_mono ?_ (b.M_bound h1)⟩
    · rintro k ⟨h2, h3, h4, q, hq, hc⟩
      exact ⟨h2, h3, h4, q, List.mem_append_left _ hq, hc⟩
    rintro k ⟨h2, h3, h4, q, hq, hc⟩
    exact ⟨h2, h3, h4, q, List.mem_append_right _ hq, hc⟩
  M_move := by
    rintro w w1 base ok x cs hm ⟨c0, c1, rfl, h0, h1⟩
    exact ⟨c0, c1, rfl, a.M_move hm h0, b.M_move hm h1⟩
  M_lower := by
    rintro w base base' ok x cs hb ⟨c0, c1, rfl, h0, h1⟩
    exact ⟨c0, c1, rfl, a.M_lower hb h0, b.M_lower hb h1⟩
/-- A Lean structure by its fields. -/
def iso {α β : Type} (d : Kd α) (f : β → α) : Kd β where
  sz := d.sz
  E := d.E
  K := fun w x cs => d.K w (f x) cs
  M := fun w base ok x cs => d.M w base ok (f x) cs
  K_len := d.K_len
  K_one := d.K_one
  K_below := d.K_below
  K_of_M := d.K_of_M
  M_mono := d.M_mono
  M_bound := d.M_bound
  M_move := d.M_move
  M_lower := d.M_lower
/-- Nothing is of this kind: where the nesting's depth is used up. -/
def bot {α : Type} (sz : Nat) (E : List Nat) : Kd α where
  sz := sz
  E := E
  K := fun _ _ _ => False
  M := fun _ _ _ _ _ => False
  K_len := fun h => h.elim
  K_one := fun h => h.elim
  K_below := fun _ h => h
  K_of_M := fun h => h
  M_mono := fun _ h => h
  M_bound := fun h => h
  M_move := fun _ h => h
  M_lower := fun _ h => h
/-- A type nested in itself: nested at most n deep .. -/
def upto {α : Type} (F : Kd α → Kd α) (sz : Nat) (E : List Nat) : Nat → Kd α
  | 0 => bot sz E
  | n + 1 => F (upto F sz E n)
/-- .. for some n. -/
def fix {α : Type} (F : Kd α → Kd α) (sz : Nat) (E : List Nat) (hs : ∀ n, (upto F sz E n).sz = sz) (hE : ∀ n q, q ∈ (upto F sz E n).E → q ∈ E) : Kd α where
  sz := sz
  E := E
  K := fun w x cs => ∃ n, (upto F sz E n).K w x cs
  M := fun w base ok x cs => ∃ n, (upto F sz E n).M w base ok x cs
  K_len := by
    rintro w x cs ⟨n, h⟩
    rw [(upto F sz E n).K_len h, hs n]
  K_one := by
    rintro w x cs ⟨n, h⟩
    exact (upto F sz E n).K_one h
  K_below := by
    rintro w w1 x cs hb ⟨n, h⟩
    exact ⟨n, (upto F sz E n).K_below hb h⟩
  K_of_M := by
    rintro w base ok x cs ⟨n, h⟩
    exact ⟨n, (upto F sz E n).K_of_M h⟩
  M_mono := by
    rintro w base ok ok' x cs hok ⟨n, h⟩
    exact ⟨n, (upto F sz E n).M_mono hok h⟩
  M_bound := by
    rintro w base ok x cs ⟨n, h⟩
    refine ⟨n, (upto F sz E n).M_mono ?_ ((upto F sz E n).M_bound h)⟩
    rintro k ⟨h2, h3, h4, q, hq, hc⟩
    exact ⟨h2, h3, h4, q, hE n q hq, hc⟩
  M_move := by
    rintro w w1 base ok x cs hm ⟨n, h⟩
    exact ⟨n, (upto F sz E n).M_move hm h⟩
  M_lower := by
    rintro w base base' ok x cs hb ⟨n, h⟩
    exact ⟨n, (upto F sz E n).M_lower hb h⟩
/-! #### an element of a row that is read; an element appended -/
theorem C_get {α : Type} {d : Kd α} {w : World} {A : Option Addr} {n : Nat} {xs : List α} (h : d.C w A n xs) (z : α) (i : Int) (h0 : 0 ≤ i) (h1 : i < n) :
    ∃ ad c, A = some ad ∧ c.length = d.sz ∧ d.K w (xs.getD i.toNat z) c ∧ ∀ j u, c[j]? = some u → w.cell? (ad.add (i.toNat * d.sz + j)) = some u := ReadsRow.get_ h z i h0 h1
/-- What an append leaves: the old elements' rows and the new one's are not the new row's block. -/
theorem R_appended {α : Type} {d : Kd α} {e base : Nat} {ok okp : Nat → Prop} {W w1 : World} {v v1 : Value} {xs : List α} {p : α} {inner cs : List Value} (h0 : ∀ k, v.ownBlock = some k → ok k) (hr : Reps (d.M W base (fun k => ok k ∧ some k ≠ v.ownBlock)) d.sz xs inner) (hp : d.M W base okp p cs) (hokp : ∀ k, okp k → ok k ∧ some k ≠ v.ownBlock) (hfresh : ∀ k, W.heap.size ≤ k → ok k)
    (hown : w1.ownsRow base e d.sz v1 (xs.length + 1) (inner ++ cs)) (hg : W.grownBy w1 v.ownBlock) (hat : v1.ownBlock = v.ownBlock ∨ ∃ b, v1.ownBlock = some b ∧ W.heap.size ≤ b) : d.R e w1 base ok v1 (xs ++ [p]) := by
  have hne : ∀ k, some k ≠ v.ownBlock → k < W.heap.size → some k ≠ v1.ownBlock := by
    intro k hk hlt
    rcases hat with hat | ⟨b, hb, hle⟩
    · rw [hat]; exact hk
    rw [hb]
    intro he
    injection he with he
    omega
  have step : ∀ {q : α} {c : List Value} {o : Nat → Prop}, d.M W base o q c → (∀ k, o k → ok k ∧ some k ≠ v.ownBlock) → d.M w1 base (fun k => ok k ∧ some k ≠ v1.ownBlock) q c := by
    intro q c o hq ho
    have h1 := d.M_move (w1 := w1) (fun k hk => hg.block k hk.2.2.1 (ho k hk.1).2) (d.M_bound hq)
    exact d.M_mono (fun k hk => ⟨(ho k hk.1).1, hne k (ho k hk.1).2 hk.2.2.1⟩) h1
  refine ⟨fun k hk => ?_, inner ++ cs, by rw [List.length_append, List.length_singleton]; exact hown, ?_⟩
  · rcases hat with hat | ⟨b, hb, hle⟩
    · exact h0 k (hat ▸ hk)
    rw [hb] at hk
    injection hk with hk
    exact hfresh k (by omega)
  exact (hr.imp_ (fun _ _ hq => step hq (fun _ hk => hk))).snoc (step hp hokp) (d.K_len (d.K_of_M hp))
section
variable {P : Program} {ops : Array Oper} {rest : List Oper} {o : Oper} {a : Act} {Q : Exit → Act → World → Prop} {α : Type}
/-- append(v, x), behind 'at_builtin'; the goal's world is 'W.alloc' of the variadic's box; x's cells are cs, made (its rows satisfy okp). hfresh: a block that is new at W is ok. -/
theorem R_append (d : Kd α) {w0 W : World} (base : Nat) (hgd : o.guard = none) (s x : Operand) (t e : TypeId) (z : Value) (bytes : Nat)
    (ho : o.op = .call { callee := .builtin .append, args := #[s, x], argTypes := #[t, t] })
    (ht : P.underlying t = some (.slice e)) (hinfo : (P.info? e).map (fun i => (i.zero, i.size, i.bytes)) = some (some z, d.sz, bytes)) (hz : z.cells.size = d.sz) (hs0 : 0 < d.sz) (hb0 : 0 < bytes)
    (v : Value) (xs : List α) (p : α) (cs : List Value) (ok okp : Nat → Prop) (hs : a.eval s = v) (hx : a.eval x = .slice (some ⟨W.heap.size, 0, none⟩) 1 1) (hp : d.M W base okp p cs) (hokp : ∀ k, okp k → ok k ∧ some k ≠ v.ownBlock) (hfresh : ∀ k, W.heap.size ≤ k → ok k)
    (HO : d.R e W base ok v xs) (HB : Below base w0 W) (hbase : base ≤ W.heap.size) (hl : (xs.length + 1) * bytes ≤ 140737488355328)
    (h : ∀ v1 w1, d.R e w1 base ok v1 (xs ++ [p]) → Below base w0 w1 → W.grownBy w1 v.ownBlock → (v1.ownBlock = v.ownBlock ∨ ∃ b, v1.ownBlock = some b ∧ W.heap.size ≤ b) → wpList P ops Q rest (a.put o.dst v1) w1) :
    wpList P ops Q (o :: rest) a (W.alloc (.cells cs.toArray e)) := by
  obtain ⟨h0, inner, hown, hr⟩ := HO
  refine print_append_cells base hgd s x t e z d.sz bytes ho ht hinfo hz hs0 hb0 v xs.length inner cs hs hx (d.K_len (d.K_of_M hp)) (d.K_one (d.K_of_M hp)) hown HB hbase hl ?_
  intro v1 w1 hown1 hb1 hg1 hat1
  exact h v1 w1 (R_appended h0 hr hp hokp hfresh hown1 hg1 hat1) hb1 hg1 hat1
end
section
variable {P : Program} {ops : Array Oper} {o : Oper} {a : Act} {Q : Exit → Act → World → Prop} {Kc : Act → World → Prop} {α : Type}
end
theorem reads_of_C {α : Type} {enc : α → Value} {d : α} {h1 : ∀ x, (enc x).oneCell' = true} {w : World} {A : Option Addr} {n : Nat} {xs : List α} (h : (scalar enc h1).C w A n xs) : ReadsOf enc d w A n xs := by
  refine ⟨h.1, h.2.1, fun hn => ?_⟩
  obtain ⟨ad, e, hc⟩ := h.2.2 hn
  refine ⟨ad, e, fun j hj => ?_⟩
  have hl : j < xs.length := by have := h.1; omega
  obtain ⟨c, _, hK, hcell⟩ := hc j _ (List.getElem?_eq_getElem hl)
  have hK' : c = [enc xs[j]] := hK
  subst hK'
  have := hcell 0 _ rfl
  simpa [scalar, List.getD_eq_getElem?_getD, List.getElem?_eq_getElem hl] using this
end Kd
/-! ### 24. Kinds nested in themselves -/
namespace Kd
/-- F says the more, the more its argument says. -/
structure Mono {α β : Type} (F : Kd α → Kd β) : Prop where
  sz : ∀ d d' : Kd α, d.sz = d'.sz → (F d).sz = (F d').sz
  K : ∀ d d' : Kd α, d.sz = d'.sz → (∀ w x cs, d.K w x cs → d'.K w x cs) → ∀ w x cs, (F d).K w x cs → (F d').K w x cs
  M : ∀ d d' : Kd α, d.sz = d'.sz → (∀ w base ok x cs, d.M w base ok x cs → d'.M w base ok x cs) → ∀ w base ok x cs, (F d).M w base ok x cs → (F d').M w base ok x cs
theorem mono_const {α β : Type} (k : Kd β) : Mono (fun _ : Kd α => k) := ⟨fun _ _ _ => rfl, fun _ _ _ _ _ _ _ h => h, fun _ _ _ _ _ _ _ _ _ h => h⟩
theorem mono_id {α : Type} : Mono (fun d : Kd α => d) := ⟨fun _ _ h => h, fun _ _ _ h => h, fun _ _ _ h => h⟩
theorem C_imp {α : Type} {d d' : Kd α} (hs : d.sz = d'.sz) (h : ∀ w x cs, d.K w x cs → d'.K w x cs) {w : World} {A : Option Addr} {n : Nat} {xs : List α} (hc : d.C w A n xs) : d'.C w A n xs := by
  unfold C at hc ⊢
  rw [← hs]
  exact hc.imp_ (Below.refl _ _) (fun _ _ hp => h _ _ _ hp)
theorem R_imp {α : Type} {d d' : Kd α} (hs : d.sz = d'.sz) (h : ∀ w base ok x cs, d.M w base ok x cs → d'.M w base ok x cs) {e : Nat} {w : World} {base : Nat} {ok : Nat → Prop} {v : Value} {xs : List α} (hr : d.R e w base ok v xs) : d'.R e w base ok v xs := by
  unfold R at hr ⊢
  rw [← hs]
  exact ⟨hr.1, hr.2.imp_ (fun _ _ hp => h _ _ _ _ _ hp)⟩
theorem mono_slice {α β : Type} (e : Nat) {G : Kd α → Kd β} (hG : Mono G) : Mono (fun d => slice e (G d)) := by
  refine ⟨fun _ _ _ => rfl, ?_, ?_⟩
  · rintro d d' hs h w x cs ⟨A, c, rfl, hl, hr⟩
    exact ⟨A, c, rfl, hl, C_imp (hG.sz d d' hs) (hG.K d d' hs h) hr⟩
  rintro d d' hs h w base ok x cs ⟨v, rfl, hr⟩
  exact ⟨v, rfl, R_imp (hG.sz d d' hs) (hG.M d d' hs h) hr⟩
theorem mono_pair {α β γ : Type} {G : Kd α → Kd β} {H : Kd α → Kd γ} (hG : Mono G) (hH : Mono H) : Mono (fun d => pair (G d) (H d)) := by
  refine ⟨fun d d' hs => ?_, ?_, ?_⟩
  · show (G d).sz + (H d).sz = (G d').sz + (H d').sz
    rw [hG.sz d d' hs, hH.sz d d' hs]
  · rintro d d' hs h w x cs ⟨c0, c1, rfl, h0, h1⟩
    exact ⟨c0, c1, rfl, hG.K d d' hs h _ _ _ h0, hH.K d d' hs h _ _ _ h1⟩
  rintro d d' hs h w base ok x cs ⟨c0, c1, rfl, h0, h1⟩
  exact ⟨c0, c1, rfl, hG.M d d' hs h _ _ _ _ _ h0, hH.M d d' hs h _ _ _ _ _ h1⟩
theorem mono_iso {α β γ : Type} {G : Kd α → Kd β} (f : γ → β) (hG : Mono G) : Mono (fun d => iso (G d) f) :=
  ⟨hG.sz, fun d d' hs h w x cs => hG.K d d' hs h w (f x) cs, fun d d' hs h w base ok x cs => hG.M d d' hs h w base ok (f x) cs⟩
/-- The element types inside stay among E. -/
def Sub {α β : Type} (F : Kd α → Kd β) (E : List Nat) : Prop := ∀ d : Kd α, (∀ q, q ∈ d.E → q ∈ E) → ∀ q, q ∈ (F d).E → q ∈ E
theorem sub_const {α β : Type} {E : List Nat} (k : Kd β) (h : ∀ q, q ∈ k.E → q ∈ E) : Sub (fun _ : Kd α => k) E := fun _ _ => h
theorem sub_id {α : Type} {E : List Nat} : Sub (fun d : Kd α => d) E := fun _ h => h
theorem sub_slice {α β : Type} {E : List Nat} (e : Nat) {G : Kd α → Kd β} (he : e ∈ E) (hG : Sub G E) : Sub (fun d => slice e (G d)) E := fun d h q hq => by
  rcases List.mem_cons.1 hq with rfl | hq
  · exact he
  exact hG d h q hq
theorem sub_pair {α β γ : Type} {E : List Nat} {G : Kd α → Kd β} {H : Kd α → Kd γ} (hG : Sub G E) (hH : Sub H E) : Sub (fun d => pair (G d) (H d)) E := fun d h q hq => by
  rcases List.mem_append.1 hq with hq | hq
  · exact hG d h q hq
  exact hH d h q hq
theorem sub_iso {α β γ : Type} {E : List Nat} {G : Kd α → Kd β} (f : γ → β) (hG : Sub G E) : Sub (fun d => iso (G d) f) E := hG
theorem upto_E {α : Type} {F : Kd α → Kd α} {sz : Nat} {E : List Nat} (h : Sub F E) : ∀ n q, q ∈ (upto F sz E n).E → q ∈ E
  | 0, _, hq => hq
  | n + 1, q, hq => h _ (upto_E h n) q hq
theorem upto_sz {α : Type} {F : Kd α → Kd α} {sz : Nat} {E : List Nat} (h : ∀ d : Kd α, (F d).sz = sz) : ∀ n, (upto F sz E n).sz = sz
  | 0 => rfl
  | _ + 1 => h _
section
variable {α : Type} {F : Kd α → Kd α} {sz : Nat} {E : List Nat} {hs : ∀ n, (upto F sz E n).sz = sz} {hE : ∀ n q, q ∈ (upto F sz E n).E → q ∈ E}
theorem upto_M (hm : Mono F) (hs : ∀ n, (upto F sz E n).sz = sz) : ∀ n {w base ok x cs}, (upto F sz E n).M w base ok x cs → (upto F sz E (n + 1)).M w base ok x cs
  | 0, _, _, _, _, _, h => h.elim
  | n + 1, _, _, _, _, _, h => hm.M _ _ (by rw [hs n, hs (n + 1)]) (fun _ _ _ _ _ hk => upto_M hm hs n hk) _ _ _ _ _ h
theorem upto_M_le (hm : Mono F) (hs : ∀ n, (upto F sz E n).sz = sz) {n m : Nat} (hnm : n ≤ m) {w base ok x cs} (h : (upto F sz E n).M w base ok x cs) : (upto F sz E m).M w base ok x cs := by
  obtain ⟨j, rfl⟩ := Nat.exists_eq_add_of_le hnm
  induction j with
  | zero => exact h
  | succ j ih => exact upto_M hm hs _ (ih (by omega))
theorem fix_C {n : Nat} {w : World} {A : Option Addr} {m : Nat} {xs : List α} (h : (upto F sz E n).C w A m xs) : (fix F sz E hs hE).C w A m xs := C_imp (d' := fix F sz E hs hE) (hs n) (fun w x cs hp => (⟨n, hp⟩ : ∃ n, (upto F sz E n).K w x cs)) h
theorem bounded {P : Nat → Nat → Prop} (hP : ∀ n m j, n ≤ m → P n j → P m j) : ∀ m, (∀ j, j < m → ∃ n, P n j) → ∃ N, ∀ j, j < m → P N j
  | 0, _ => ⟨0, fun j hj => absurd hj (Nat.not_lt_zero j)⟩
  | m + 1, h => by
    obtain ⟨N, hN⟩ := bounded hP m (fun j hj => h j (by omega))
    obtain ⟨n, hn⟩ := h m (by omega)
    refine ⟨max N n, fun j hj => ?_⟩
    rcases Nat.lt_or_ge j m with hj' | hj'
    · exact hP N _ j (Nat.le_max_left _ _) (hN j hj')
    have : j = m := by omega
    subst this
    exact hP n _ j (Nat.le_max_right _ _) hn
theorem reps_bounded {α : Type} {R : Nat → α → List Value → Prop} (hR : ∀ n m p c, n ≤ m → R n p c → R m p c) {size : Nat} {ps : List α} {cs : List Value} (h : Reps (fun p c => ∃ n, R n p c) size ps cs) : ∃ N, Reps (R N) size ps cs := by
  obtain ⟨N, hN⟩ := bounded (P := fun n j => ∀ p, ps[j]? = some p → R n p ((cs.drop (j * size)).take size)) (fun n m j hnm hp p hj => hR n m p _ hnm (hp p hj)) ps.length
    (fun j hj => by
      obtain ⟨n, hn⟩ := h.2 j _ (List.getElem?_eq_getElem hj)
      refine ⟨n, fun p hp => ?_⟩
      rw [List.getElem?_eq_getElem hj] at hp
      injection hp with hp
      rw [← hp]
      exact hn)
  exact ⟨N, h.1, fun j p hj => hN j (List.getElem?_eq_some_iff.1 hj).1 p hj⟩
theorem fix_R_back (hm : Mono F) {e : Nat} {w : World} {base : Nat} {ok : Nat → Prop} {v : Value} {xs : List α} (h : (fix F sz E hs hE).R e w base ok v xs) : ∃ n, (upto F sz E n).R e w base ok v xs := by
  obtain ⟨h0, inner, ho, hr⟩ := h
  obtain ⟨N, hN⟩ := reps_bounded (R := fun n p c => (upto F sz E n).M w base (fun k => ok k ∧ some k ≠ v.ownBlock) p c) (fun n m p c hnm hp => upto_M_le hm hs hnm hp) hr
  refine ⟨N, h0, inner, ?_, ?_⟩
  · rw [hs N]; exact ho
  rw [hs N]; exact hN
theorem upto_R_le (hm : Mono F) (hs : ∀ n, (upto F sz E n).sz = sz) {n m : Nat} (hnm : n ≤ m) {e : Nat} {w : World} {base : Nat} {ok : Nat → Prop} {v : Value} {xs : List α} (h : (upto F sz E n).R e w base ok v xs) : (upto F sz E m).R e w base ok v xs := R_imp (by rw [hs n, hs m]) (fun _ _ _ _ _ hp => upto_M_le hm hs hnm hp) h
end
end Kd
/-! ### 25. What is held while another row is written: 'ok' says that its rows are none of that row's block -/
namespace Kd
end Kd
/-! ### 26. Words for a printer that takes every slice by its kind -/
namespace Kd
section
variable {α β : Type} {d : Kd α} {d' : Kd β} {e e' : Nat} {w w1 W : World} {base b b' : Nat} {ok ok' okv oku : Nat → Prop} {v u : Value} {xs : List α} {ys : List β}
theorem R_alloc (h : d.R e w base ok v xs) (o : Obj) : d.R e (w.alloc o) base ok v xs := R_below h (below_alloc (Below.refl _ _) o)
theorem R_drew (h : d.R e w base ok v xs) : d.R e w.drew base ok v xs := R_below h (below_drew (Below.refl _ _))
theorem R_drewN (h : d.R e w base ok v xs) (m : Nat) : d.R e (w.drewN m) base ok v xs := R_below h (pw_below_drewN (Below.refl _ _) m)
theorem C_alloc {A : Option Addr} {n : Nat} (h : d.C w A n xs) (o : Obj) : d.C (w.alloc o) A n xs := C_below h (below_alloc (Below.refl _ _) o)
theorem C_drew {A : Option Addr} {n : Nat} (h : d.C w A n xs) : d.C w.drew A n xs := C_below h (below_drew (Below.refl _ _))
theorem C_drewN {A : Option Addr} {n : Nat} (h : d.C w A n xs) (m : Nat) : d.C (w.drewN m) A n xs := C_below h (pw_below_drewN (Below.refl _ _) m)
theorem R_reads' {A : Option Addr} {n c : Nat} (h : d.R e w base ok (.slice A n c) xs) : n = xs.length ∧ n ≤ c ∧ d.C w A xs.length xs := by
  obtain ⟨A', c', he, hl, hr⟩ := R_reads h
  injection he with h1 h2 h3
  subst h1
  exact ⟨h2, by omega, hr⟩
theorem R_lt (h : d.R e w base ok v xs) : ∀ k, v.ownBlock = some k → k < w.heap.size := by
  obtain ⟨inner, ho⟩ := R_own h
  exact own_lt ho
theorem R_base (h : d.R e w base ok v xs) : ∀ k, v.ownBlock = some k → base ≤ k := by
  obtain ⟨inner, ho⟩ := R_own h
  exact own_base ho
end
/-! #### scalars -/
section
variable {w W : World} {A : Option Addr} {n : Nat}
theorem at_string {xs : List ByteArray} (h : Kd.string.C w A n xs) (i : Int) (h0 : 0 ≤ i) (h1 : i < n) : ∃ ad, A = some ad ∧ w.cell? (ad.add i.toNat) = some (.string (rdOf ByteArray.empty xs i)) :=
  ReadsOf.at_ (reads_of_C (enc := Value.string) (d := ByteArray.empty) (h1 := fun _ => rfl) h) i h0 h1
variable {α : Type} {enc : α → Value} {h1 : ∀ x, (enc x).oneCell' = true} {e base g cap : Nat} {ok : Nat → Prop} {xs : List α}
end
/-! #### events: a letter for what make and a literal leave -/
section
variable {P : Program} {ops : Array Oper} {rest : List Oper} {o : Oper} {a : Act} {Q : Exit → Act → World → Prop}
theorem event_run {W w1 : World} {v : Value} (hgd : o.guard = none) (hrun : (execOp a.eval o).run P W = .ok (.value v) w1) (h : wpList P ops Q rest (a.put o.dst v) w1) : wpList P ops Q (o :: rest) a W := by
  refine wpList_plain hgd fun K hK => ?_
  unfold Oper.wp
  rw [hrun]
  exact hK _ _ h
variable {α : Type}
end
end Kd
/-! ### 27. Cuts of a row of one's own: 'xs = xs[:n]' stays a row (R_take); 'xs = xs[k:]' is a row that begins inside its block (Kd.Q), append goes on it too -/
section
variable {P : Program}
end
/-- A row of one's own that may begin inside its block. -/
def QRow (w : World) (base : Nat) (e : TypeId) (size : Nat) (v : Value) (n : Nat) (xs : List Value) : Prop :=
  xs.length = n * size ∧
  ((n = 0 ∧ ∃ A, v = .slice A 0 0 ∧ ∀ a, A = some a → base ≤ a.block ∧ ∃ cur, w.heap[a.block]? = some (.cells cur e (0, 0))) ∨
   ∃ g off cap cur, v = .slice (some ⟨g, off * size, none⟩) n cap ∧ base ≤ g ∧ w.heap[g]? = some (.cells cur e (0, 0)) ∧ n ≤ cap ∧ off + cap ≤ maxLen ∧ cur.size = (off + cap) * size ∧ (cur.toList.drop (off * size)).take (n * size) = xs)
section
variable {w w1 : World} {base n size : Nat} {e : TypeId} {v : Value} {xs : List Value}
end
section
variable {P : Program}
end
/-! ### 28. The kinds' words for cuts: R_take; Q (a row that may begin inside its block) with all of R's movers -/
namespace Kd
def Q {α : Type} (d : Kd α) (e : Nat) (w : World) (base : Nat) (ok : Nat → Prop) (v : Value) (xs : List α) : Prop :=
  (∀ k, v.ownBlock = some k → ok k) ∧ ∃ inner, QRow w base e d.sz v xs.length inner ∧ Reps (d.M w base (fun k => ok k ∧ some k ≠ v.ownBlock)) d.sz xs inner
section
variable {α : Type} {d : Kd α} {e : Nat} {w w1 W : World} {base : Nat} {ok ok' : Nat → Prop} {v : Value} {xs : List α}
end
section
variable {P : Program} {ops : Array Oper} {rest : List Oper} {o : Oper} {a : Act} {Q' : Exit → Act → World → Prop} {Kc : Act → World → Prop} {α : Type}
end
end Kd
/-! ### 29. Movers that ask of another row no more than they need: for R and for Q -/
namespace Kd
section
variable {α : Type} {d : Kd α} {e e' : Nat} {w w1 W : World} {base : Nat} {ok : Nat → Prop} {u v : Value} {xs : List α}
theorem R_elder' (hu : d.R e W base ok u xs) (hbase : ∀ k, v.ownBlock = some k → W.heap.size ≤ k) (hb : Below W.heap.size W w1) : d.R e w1 base (fun k => ok k ∧ some k ≠ v.ownBlock) u xs :=
  R_mono (R_move (R_bound hu) (fun k hk => hb.block k hk.2.2.1)) (fun k hk => ⟨hk.1, fun he => by have := hbase k he.symm; have := hk.2.2.1; omega⟩)
theorem R_new' (h : d.R e w1 W.heap.size ok v xs) (hlt : ∀ k, u.ownBlock = some k → k < W.heap.size) : d.R e w1 W.heap.size (fun k => ok k ∧ some k ≠ u.ownBlock) v xs :=
  R_mono (R_bound h) (fun k hk => ⟨hk.1, fun he => by have := hlt k he.symm; have := hk.2.1; omega⟩)
theorem fresh' (hlt : ∀ k, u.ownBlock = some k → k < W.heap.size) : ∀ k, W.heap.size ≤ k → some k ≠ u.ownBlock := fun k hk he => by have := hlt k he.symm; omega
end
end Kd
/-! ### 30. Elements written: x[i] = T{..}, x[i].f = v, swaps, in a row of elements of any kind -/
namespace Kd
section
variable {α : Type} {d : Kd α} {e base g n cap : Nat} {ok okp : Nat → Prop} {W : World} {xs : List α}
end
end Kd
/-! ### 31. What came in, put into what is made: 'fixed d w0' (read in w0, whatever happens since), 'or_ a b', 'mix' (a slice that came in, or one that is made) -/
namespace Kd
section
variable {α : Type} {F : Kd α → Kd α} {sz : Nat} {E : List Nat} {hs : ∀ n, (upto F sz E n).sz = sz} {hE : ∀ n q, q ∈ (upto F sz E n).E → q ∈ E}
end
end Kd
/-! ### 32. A whole row appended, of elements of any kind; copy onto a row of scalars of one's own -/
namespace Kd
section
variable {P : Program} {ops : Array Oper} {rest : List Oper} {o : Oper} {a : Act} {Q : Exit → Act → World → Prop} {α : Type}
end
end Kd
/-! ### 33. A store into a row of one's own, as_ an event: no go_simp -/
namespace Kd
section
variable {P : Program} {ops : Array Oper} {rest : List Oper} {o : Oper} {a : Act} {Q : Exit → Act → World → Prop} {α : Type}
end
end Kd
/-! ### 34. Cuts that are only read, of any row -/
namespace Kd
section
variable {α : Type} {k : Kd α} {w : World} {A : Option Addr} {xs : List α} {m c : Nat}
end
end Kd
section
variable {P : Program}
end
/-! ### 35. string(b), b read (a cut too) -/
/-! ### 6. What the printer adds -/
theorem below_size {w W : World} (h : Below w.heap.size w W) : w.heap.size ≤ W.heap.size := h.size
theorem below_step {w W w2 : World} (h : Below w.heap.size w W) (k : Below W.heap.size W w2) : Below w.heap.size w w2 := below_then h h.size k
theorem ReadsInt.nil (W : World) (k : IntKind) : ReadsInt W k none ([] : List Int).length [] := ⟨rfl, by simp, fun h => absurd h (Nat.lt_irrefl 0)⟩
theorem ReadsInt.drewN {W : World} {k : IntKind} {A : Option Addr} {n : Nat} {xs : List Int} (h : ReadsInt W k A n xs) (m : Nat) : ReadsInt (W.drewN m) k A n xs := h
theorem below_set {w W : World} {g j : Nat} {v : Value} (h : Below w.heap.size w W) (hg : w.heap.size ≤ g) : Below w.heap.size w (W.setCell ⟨g, j, none⟩ v) := h.setCell hg _
theorem keep_cell {w W : World} {g : Nat} (h : KeepBut w W g none) {a : Addr} {v : Value} (hc : w.cell? a = some v) (hne : a.block ≠ g) : W.cell? a = some v := by
  have := h.2 a.block (World.block_lt_of_cell? w a hc) hne (by simp)
  simpa [World.cell?, this] using hc
theorem add_block (a : Addr) (i : Nat) : (a.add i).block = a.block := by unfold Addr.add; split <;> rfl
theorem ReadsOf.nil {α : Type} (enc : α → Value) (d : α) (W : World) : ReadsOf enc d W none ([] : List α).length [] := ⟨rfl, by simp, fun h => absurd h (Nat.lt_irrefl 0)⟩
theorem ReadsOf.drewN {α : Type} {enc : α → Value} {d : α} {W : World} {A : Option Addr} {n : Nat} {xs : List α} (h : ReadsOf enc d W A n xs) (m : Nat) : ReadsOf enc d (W.drewN m) A n xs := h
theorem ReadsInt.keep {w W : World} {k : IntKind} {A : Option Addr} {n g : Nat} {xs : List Int} (h : ReadsInt w k A n xs) (hk : KeepBut w W g none) (hf : ∀ ad, A = some ad → 0 < n → ad.block ≠ g) : ReadsInt W k A n xs :=
  ⟨h.1, h.2.1, fun hn => by
    obtain ⟨ad, e, hc⟩ := h.2.2 hn
    exact ⟨ad, e, fun j hj => keep_cell hk (hc j hj) (by rw [add_block]; exact hf ad e hn)⟩⟩
theorem ReadsOf.keep {α : Type} {enc : α → Value} {d : α} {w W : World} {A : Option Addr} {n g : Nat} {xs : List α} (h : ReadsOf enc d w A n xs) (hk : KeepBut w W g none) (hf : ∀ ad, A = some ad → 0 < n → ad.block ≠ g) : ReadsOf enc d W A n xs :=
  ⟨h.1, h.2.1, fun hn => by
    obtain ⟨ad, e, hc⟩ := h.2.2 hn
    exact ⟨ad, e, fun j hj => keep_cell hk (hc j hj) (by rw [add_block]; exact hf ad e hn)⟩⟩
theorem blk_put {w : World} {g : Nat} {t : TypeId} {cs cs' : Array Value} (h : w.heap[g]? = some (.cells cs t (0, 0))) (i : Nat) (u : Value) (e : cs.setIfInBounds i u = cs') : (w.setCell ⟨g, i, none⟩ u).heap[g]? = some (.cells cs' t (0, 0)) := e ▸ blk_set h i u
theorem below_drew1 {base : Nat} {w W : World} (h : Below base w W) : Below base w W.drew := h.drew
namespace Kd
section
variable {α β : Type} {d : Kd α} {d' : Kd β} {e e' base base' n : Nat} {ok ok' : Nat → Prop} {w W w1 W1 : World} {v u : Value} {xs : List α} {ys : List β} {A : Option Addr} {c : Nat}
end
section
variable {α : Type} {enc : α → Value} {h1 : ∀ x, (enc x).oneCell' = true} {w W : World} {A : Option Addr} {n g : Nat} {xs : List α}
end
end Kd
namespace Kd
section
variable {α : Type} {d : Kd α} {e base g : Nat} {ok : Nat → Prop} {w w1 : World} {v : Value} {xs : List α} {o : Obj}
theorem R_elderB (h : d.R e w base ok v xs) (a : Nat) (ha : w.heap.size ≤ a) : d.R e w base (fun k => ok k ∧ k ≠ a) v xs := R_mono (R_bound h) (fun k hk => ⟨hk.1, by have := hk.2.2.1; omega⟩)
theorem R_newB (h : d.R e w1 w.heap.size ok v xs) (hb : w.heap[g]? = some o) : d.R e w1 w.heap.size (fun k => ok k ∧ k ≠ g) v xs := R_mono (R_bound h) (fun k hk => ⟨hk.1, by have := blk_lt hb; have := hk.2.1; omega⟩)
end
end Kd
section
variable {P : Program} {ops : Array Oper} {rest : List Oper} {o : Oper} {a : Act} {Q : Exit → Act → World → Prop}
theorem box_event {W : World} (hgd : o.guard = none) {N : Tmp} (_hd : o.dst = some N) {cs : Array Value} {t : TypeId}
    (hrun : (execOp a.eval o).run P W = .ok (.value (.pointer (some ⟨W.heap.size, 0, none⟩))) (W.alloc (.cells cs t (0, 0))))
    (h : ∀ g, g = W.heap.size → ∀ w1, w1.heap[g]? = some (.cells cs t (0, 0)) → Below W.heap.size W w1 → wpList P ops Q rest (a.put o.dst (.pointer (some ⟨g, 0, none⟩))) w1) : wpList P ops Q (o :: rest) a W :=
  Kd.event_run hgd hrun (h _ rfl _ (blk_new W _) (below_alloc (Below.refl _ _) _))
end
namespace Kd
section
variable {α : Type} {enc : α → Value} {h1 : ∀ x, (enc x).oneCell' = true} {e base g n cap : Nat} {ok : Nat → Prop} {W : World} {xs : List α}
end
end Kd
section
variable {P : Program} {ops : Array Oper} {rest : List Oper} {o : Oper} {a : Act} {Q : Exit → Act → World → Prop}
end
namespace Kd
section
variable {α : Type} {enc : α → Value} {h1 : ∀ x, (enc x).oneCell' = true} {e base g n cap : Nat} {ok : Nat → Prop} {W : World} {xs : List α}
end
end Kd
section
variable {P : Program} {ops : Array Oper} {rest : List Oper} {o : Oper} {a : Act} {Q : Exit → Act → World → Prop} {W : World}
theorem gate_dst {N : Tmp} (_hN : o.dst = some N) (h : wpList P ops Q (o :: rest) a W) : wpList P ops Q (o :: rest) a W := h
end
/-! ### 36. Events as_ one step of a region that draws (for one_, two_, three_) -/
section
variable {P : Program} {ops : Array Oper} {o : Oper} {a : Act} {Q : Exit → Act → World → Prop} {Kc : Act → World → Prop}
namespace Kd
variable {α : Type}
end Kd
end
/-! ### 37. Results of any shape -/
inductive Vals (P : Program) (tmps : Array Value) (w : World) : List ResultVar → List Value → Prop where
  | nil : Vals P tmps w [] []
  | tmp {u : Tmp} {rs : List ResultVar} {vs : List Value} (h : Vals P tmps w rs vs) : Vals P tmps w (.tmp u :: rs) (tmps.getD u undef :: vs)
  | cell {p : Tmp} {ty : TypeId} {rs : List ResultVar} {vs : List Value} (g : Nat) (t : TypeId) (cs : Array Value) (fr : Nat × Nat) (d : TypeDesc)
      (hp : tmps.getD p undef = .pointer (some ⟨g, 0, none⟩)) (hg : w.heap[g]? = some (.cells cs t fr))
      (hu : P.underlying ty = some d) (hd : (match d with | .struct _ | .array _ _ => true | _ => false) = true) (hi : (P.info? ty).map (·.size) = some cs.size)
      (h : Vals P tmps w rs vs) : Vals P tmps w (.cell p ty :: rs) (.agg cs :: vs)
section
variable {P : Program} {tmps : Array Value} {w : World}
end
/-! ### 38. 'out = append(out[:k], out[k+1:]...)': an element taken out of a row of one's own, in place -/
namespace Kd
section
variable {P : Program} {α : Type}
end
section
variable {P : Program} {ops : Array Oper} {rest : List Oper} {o : Oper} {a : Act} {Q : Exit → Act → World → Prop} {Kc : Act → World → Prop} {α : Type}
end
end Kd
end Go.Proofs.YtnajijaachgipaaDoorW.PrintWords
end
section
namespace Go.Proofs.YtnajijaachgipaaDoorW.PrintLast
section
variable {P : Program} {ops : Array Oper} {Q : Exit → Act → World → Prop} {md : Region.Mode} {S : World → Prop} {ds : List Nat}
/-- Operation d waits for operation i, by a chain of at most 'fuel' edges. -/
def Region.reachB (md : Region.Mode) (ops : Array Oper) (i : Nat) : Nat → Nat → Bool
 | 0, _ => false
 | fuel + 1, d => match ops[d]? with
  | some o => o.after.any fun e => Region.binds md e && (e.on == i || Region.reachB md ops i fuel e.on)
  | none => false
/-- What is listed is closed under the edges. -/
def Region.closedB (md : Region.Mode) (ops : Array Oper) (listed : Array Bool) : Bool :=
 (List.range ops.size).all fun j => !listed.getD j false || match ops[j]? with
  | some o => o.after.all fun e => !Region.binds md e || listed.getD e.on false
  | none => true
/-- Each of ds that has not come up yet waits for number i. -/
def Region.lastB (md : Region.Mode) (ops : Array Oper) (listed : Array Bool) (ds : List Nat) (i : Nat) : Bool :=
 ds.all fun d => listed.getD d true || Region.reachB md ops i ops.size d
def ListedClosed (md : Region.Mode) (ops : Array Oper) (listed : Array Bool) : Prop :=
 ∀ j oj, ops[j]? = some oj → listed.getD j false = true → ∀ e ∈ oj.after, Region.binds md e = true → listed.getD e.on false = true
theorem Region.closedB_spec {listed : Array Bool} (h : Region.closedB md ops listed = true) : ListedClosed md ops listed := by
 intro j oj hj hl e he hb
 have hlt : j < ops.size := (Array.getElem?_eq_some_iff.1 hj).1
 have h1 := List.all_eq_true.1 h j (List.mem_range.2 hlt)
 simp only [hl, hj, Bool.not_true, Bool.false_or] at h1
 have h2 := Array.all_eq_true_iff_forall_mem.1 h1 e he
 simpa [hb] using h2
theorem ListedClosed.set {listed : Array Bool} {i : Nat} (h : ListedClosed md ops listed) (hi : i ∈ Region.ready md ops listed) : ListedClosed md ops (listed.setIfInBounds i true) := by
 obtain ⟨_, oi, hoi, hall⟩ := mem_ready.1 hi
 intro j oj hj hl e he hb
 by_cases hij : i = j
 ·subst hij
  have : oj = oi := Option.some.inj (hj.symm.trans hoi)
  subst this
  exact getD_set_true (hall e he hb)
 rw [getD_set_ne false hij] at hl
 exact getD_set_true (h j oj hj hl e he hb)
theorem Region.reach_listed {listed : Array Bool} {i : Nat} (hc : ListedClosed md ops listed) : ∀ (fuel d : Nat), Region.reachB md ops i fuel d = true → listed.getD d false = true → listed.getD i false = true
 | 0, _, h, _ => by simp [Region.reachB] at h
 | fuel + 1, d, h, hl => by
  unfold Region.reachB at h
  cases ho : ops[d]? with
  | none => rw [ho] at h; simp at h
  | some o =>
   rw [ho] at h
   obtain ⟨e, he, h1⟩ := Array.any_eq_true'.1 h
   simp only [Bool.and_eq_true, Bool.or_eq_true, beq_iff_eq] at h1
   have hle := hc d o ho hl e he h1.1
   rcases h1.2 with h2 | h2
   ·rw [← h2]; exact hle
   exact Region.reach_listed hc fuel e.on h2 hle
/-- What waits for i cannot come up before i is listed. -/
theorem Region.reach_not_ready {listed : Array Bool} {i d fuel : Nat} (hc : ListedClosed md ops listed) (hr : Region.reachB md ops i fuel d = true) (hun : listed.getD i true = false) : d ∉ Region.ready md ops listed := by
 intro hd
 obtain ⟨_, o, ho, hall⟩ := mem_ready.1 hd
 have hi : listed.getD i false = true := by
  cases fuel with
  | zero => simp [Region.reachB] at hr
  | succ n =>
   unfold Region.reachB at hr
   rw [ho] at hr
   obtain ⟨e, he, h1⟩ := Array.any_eq_true'.1 hr
   simp only [Bool.and_eq_true, Bool.or_eq_true, beq_iff_eq] at h1
   have hle := hall e he h1.1
   rcases h1.2 with h2 | h2
   ·rw [← h2]; exact hle
   exact Region.reach_listed hc n e.on h2 hle
 rcases Nat.lt_or_ge i listed.size with h' | h'
 ·simp [h'] at hun hi
  rw [hun] at hi
  cases hi
 simp [Array.getElem?_eq_none h'] at hun
/-- Whatever order is picked from here on, AND 'S' HOLDS BEHIND EVERY OPERATION THAT IS CARRIED OUT, those of ds apart. -/
def wpAnyLast (P : Program) (md : Region.Mode) (ops : Array Oper) (Q : Exit → Act → World → Prop) (S : World → Prop) (ds : List Nat) : Nat → Array Bool → Act → World → Prop
 | 0, listed, a, w => Region.ready md ops listed = [] ∧ Q .normal a w
 | fuel + 1, listed, a, w =>
  (Region.ready md ops listed = [] → Q .normal a w) ∧
  ∀ i ∈ Region.ready md ops listed, wpOp P ops Q i (fun a' w' => (i ∉ ds → S w → S w') ∧ wpAnyLast P md ops Q S ds fuel (listed.setIfInBounds i true) a' w') a w
theorem wpAny_of_last : ∀ (fuel : Nat) (listed : Array Bool) (a : Act) (w : World), wpAnyLast P md ops Q S ds fuel listed a w → wpAny P md ops Q fuel listed a w
 | 0, _, _, _, h => h
 | fuel + 1, _, _, _, h => ⟨h.1, fun i hi => wpOp_mono (fun a' w' h' => wpAny_of_last fuel _ a' w' h'.2) (h.2 i hi)⟩
theorem wpAnyLast_first {i : Nat} {oi : Oper} {v : Value} (hi : ops[i]? = some oi) (hsel : ∀ (j : Nat) (o : Oper) cs b, ops[j]? = some o → o.op ≠ .select cs b)
  (hQ : ∀ c a w, Q (.panic c) (a.put oi.dst v) w → Q (.panic c) a w) (n : Nat) :
  ∀ (fuel : Nat) (listed : Array Bool) (a : Act) (w : World),
   (∀ j oj, ops[j]? = some oj → j ≠ i → listed.getD j true = false → (∀ e ∈ oj.after, Region.binds md e = true → e.on ≠ i) → oi.apart ops oj = true) →
   ListedClosed md ops listed → (∀ d ∈ ds, listed.getD d true = false → Region.reachB md ops i n d = true) →
   i ∈ Region.ready md ops listed → YieldsIf P ops S oi v a → S w →
   wpAnyLast P md ops Q S ds fuel (listed.setIfInBounds i true) (a.put oi.dst v) w → wpAnyLast P md ops Q S ds (fuel + 1) listed a w := by
 intro fuel
 induction fuel with
 | zero =>
  intro listed a w _ _ _ hr hy hS H
  refine ⟨fun h => (by rw [h] at hr; cases hr), fun j hj => ?_⟩
  by_cases hji : j = i
  ·subst hji; exact hy.wpOp hi hS ⟨fun _ h => h, H⟩
  have := ready_mono hj hji
  rw [H.1] at this
  cases this
 | succ fuel ih =>
  intro listed a w hfree hc hd hr hy hS H
  refine ⟨fun h => (by rw [h] at hr; cases hr), fun j hj => ?_⟩
  by_cases hji : j = i
  ·subst hji; exact hy.wpOp hi hS ⟨fun _ h => h, H⟩
  have h1 := H.2 j (ready_mono hj hji)
  obtain ⟨hjun, oj, hoj, hall⟩ := mem_ready.1 hj
  have hiun := (mem_ready.1 hr).1
  have hnot : ∀ e ∈ oj.after, Region.binds md e = true → e.on ≠ i := fun e he hb heq => by
   have h1 := hall e he hb
   rw [heq] at h1
   rcases Nat.lt_or_ge i listed.size with h' | h'
   ·simp [h'] at hiun h1; rw [hiun] at h1; cases h1
   simp [Array.getElem?_eq_none h'] at h1
  have hjd : j ∉ ds := fun hm => Region.reach_not_ready hc (hd j hm hjun) hiun hj
  have h2 := wpOp_putIf hoj (hfree j oj hoj hji hjun hnot) (fun cs b => hsel i oi cs b hi) (fun cs b => hsel j oj cs b hoj) hQ hy h1
  have hfree' : ∀ k ok, ops[k]? = some ok → k ≠ i → (listed.setIfInBounds j true).getD k true = false →
    (∀ e ∈ ok.after, Region.binds md e = true → e.on ≠ i) → oi.apart ops ok = true := fun k ok hk hki hun hno => by
   refine hfree k ok hk hki ?_ hno
   by_cases hjk : j = k
   ·subst hjk; exact hjun
   rw [getD_set_ne true hjk] at hun; exact hun
  have hd' : ∀ d ∈ ds, (listed.setIfInBounds j true).getD d true = false → Region.reachB md ops i n d = true := fun d hm hun => by
   refine hd d hm ?_
   by_cases hjk : j = d
   ·subst hjk; exact hjun
   rw [getD_set_ne true hjk] at hun; exact hun
  refine wpOp_mono (fun a' w' h3 => ⟨h3.2.1, ih (listed.setIfInBounds j true) a' w' hfree' (hc.set hj) hd' (ready_mono hr (Ne.symm hji)) h3.1 (h3.2.1 hjd hS) ?_⟩) h2
  rw [Array.setIfInBounds_comm _ _ hji]
  exact h3.2.2
/-- Take number 'i' first, which yields whatever the world: no S is asked for, nor that anything waits for it. -/
theorem wpAnyLast_any {i : Nat} {oi : Oper} {v : Value} (hi : ops[i]? = some oi) (hsel : ∀ (j : Nat) (o : Oper) cs b, ops[j]? = some o → o.op ≠ .select cs b)
  (hQ : ∀ c a w, Q (.panic c) (a.put oi.dst v) w → Q (.panic c) a w) :
  ∀ (fuel : Nat) (listed : Array Bool) (a : Act) (w : World),
   (∀ j oj, ops[j]? = some oj → j ≠ i → listed.getD j true = false → (∀ e ∈ oj.after, Region.binds md e = true → e.on ≠ i) → oi.apart ops oj = true) →
   i ∈ Region.ready md ops listed → Yields P ops oi v a →
   wpAnyLast P md ops Q S ds fuel (listed.setIfInBounds i true) (a.put oi.dst v) w → wpAnyLast P md ops Q S ds (fuel + 1) listed a w := by
 intro fuel
 induction fuel with
 | zero =>
  intro listed a w _ hr hy H
  refine ⟨fun h => (by rw [h] at hr; cases hr), fun j hj => ?_⟩
  by_cases hji : j = i
  ·subst hji; exact (hy.yieldsIf (S := fun _ => True)).wpOp hi trivial ⟨fun _ h => h, H⟩
  have := ready_mono hj hji
  rw [H.1] at this
  cases this
 | succ fuel ih =>
  intro listed a w hfree hr hy H
  refine ⟨fun h => (by rw [h] at hr; cases hr), fun j hj => ?_⟩
  by_cases hji : j = i
  ·subst hji; exact (hy.yieldsIf (S := fun _ => True)).wpOp hi trivial ⟨fun _ h => h, H⟩
  have h1 := H.2 j (ready_mono hj hji)
  obtain ⟨hjun, oj, hoj, hall⟩ := mem_ready.1 hj
  have hiun := (mem_ready.1 hr).1
  have hnot : ∀ e ∈ oj.after, Region.binds md e = true → e.on ≠ i := fun e he hb heq => by
   have h1 := hall e he hb
   rw [heq] at h1
   rcases Nat.lt_or_ge i listed.size with h' | h'
   ·simp [h'] at hiun h1; rw [hiun] at h1; cases h1
   simp [Array.getElem?_eq_none h'] at h1
  have h2 := wpOp_put hoj (hfree j oj hoj hji hjun hnot) (fun cs b => hsel i oi cs b hi) (fun cs b => hsel j oj cs b hoj) hQ hy h1
  have hfree' : ∀ k ok, ops[k]? = some ok → k ≠ i → (listed.setIfInBounds j true).getD k true = false →
    (∀ e ∈ ok.after, Region.binds md e = true → e.on ≠ i) → oi.apart ops ok = true := fun k ok hk hki hun hno => by
   refine hfree k ok hk hki ?_ hno
   by_cases hjk : j = k
   ·subst hjk; exact hjun
   rw [getD_set_ne true hjk] at hun; exact hun
  refine wpOp_mono (fun a' w' h3 => ⟨h3.2.1, ih (listed.setIfInBounds j true) a' w' hfree' (ready_mono hr (Ne.symm hji)) h3.1 ?_⟩) h2
  rw [Array.setIfInBounds_comm _ _ hji]
  exact h3.2.2
/-- Take number 'i' first. -/
theorem wpAnyLast_take {i : Nat} {oi : Oper} {v : Value} {fuel : Nat} {listed : Array Bool} {a : Act} {w : World} (hi : ops[i]? = some oi)
  (hs : Region.noSelect ops = true) (hf : Region.free md ops listed i = true) (hr : (Region.ready md ops listed).contains i = true)
  (hc : Region.closedB md ops listed = true) (hl : Region.lastB md ops listed ds i = true)
  (hQ : ∀ c a w, Q (.panic c) (a.put oi.dst v) w → Q (.panic c) a w) (hy : YieldsIf P ops S oi v a) (hS : S w)
  (h : wpAnyLast P md ops Q S ds fuel (listed.setIfInBounds i true) (a.put oi.dst v) w) : wpAnyLast P md ops Q S ds (fuel + 1) listed a w :=
 wpAnyLast_first hi (Region.noSelect_spec hs) hQ ops.size fuel listed a w (Region.free_spec hi hf) (Region.closedB_spec hc)
  (fun d hm hun => by have := List.all_eq_true.1 hl d hm; rw [hun] at this; simpa using this) (by simpa using hr) hy hS h
theorem wpAnyLast_all {rs : List Nat} {fuel : Nat} {listed : Array Bool} {a : Act} {w : World} (hr : Region.ready md ops listed = rs) (hne : rs ≠ [])
  (h : ∀ i ∈ rs, wpOp P ops Q i (fun a' w' => (i ∉ ds → S w → S w') ∧ wpAnyLast P md ops Q S ds fuel (listed.setIfInBounds i true) a' w') a w) : wpAnyLast P md ops Q S ds (fuel + 1) listed a w :=
 ⟨fun h0 => absurd (hr ▸ h0) hne, hr ▸ h⟩
theorem wpAnyLast_done {listed : Array Bool} {a : Act} {w : World} (hr : Region.ready md ops listed = []) (h : Q .normal a w) :
  ∀ fuel, wpAnyLast P md ops Q S ds fuel listed a w
 | 0 => ⟨hr, h⟩
 | _ + 1 => ⟨fun _ => h, by rw [hr]; simp⟩
theorem wp_region_last {id : Nat} {a : Act} {w : World} (hm : P.follows .mixedOrders = true)
  (h : wpAnyLast P .any ops Q S ds ops.size (Array.replicate ops.size false) a { w with drawn := w.drawn + 1 }) : (Code.region id ops true).wp P Q a w :=
 wp_region_any hm (wpAny_of_last _ _ _ _ h)
end
section
variable {P : Program} {ops : Array Oper} {Q : Exit → Act → World → Prop} {md : Region.Mode} {S : World → Prop} {ds : List Nat}
def AllReadyL (P : Program) (md : Region.Mode) (ops : Array Oper) (Q : Exit → Act → World → Prop) (S : World → Prop) (ds : List Nat) (fuel : Nat) (listed : Array Bool) (a : Act) (w : World) (rs : List Nat) : Prop :=
 ∀ i ∈ rs, wpOp P ops Q i (fun a' w' => (i ∉ ds → S w → S w') ∧ wpAnyLast P md ops Q S ds fuel (listed.setIfInBounds i true) a' w') a w
theorem AllReadyL.nil {fuel : Nat} {listed : Array Bool} {a : Act} {w : World} : AllReadyL P md ops Q S ds fuel listed a w [] := fun _ h => by cases h
theorem AllReadyL.cons {fuel : Nat} {listed : Array Bool} {a : Act} {w : World} {i : Nat} {o : Oper} {rs : List Nat} (ho : ops[i]? = some o) (hd : i ∉ ds)
  (h : ∀ K' : Act → World → Prop, Shut (∀ a w, S w → (S w → wpAnyLast P md ops Q S ds fuel (listed.setIfInBounds i true) a w) → K' a w) → if Region.wanted o (yielded ops a.tmps) = true then Oper.wp P o a w K' Q else K' (a.put o.dst undef) w)
  (hs : AllReadyL P md ops Q S ds fuel listed a w rs) : AllReadyL P md ops Q S ds fuel listed a w (i :: rs) := fun j hj => by
 rcases List.mem_cons.1 hj with rfl | hj
 ·exact wpOp_step ho (fun K' hK => h K' (fun a w hS hW => hK a w ⟨fun _ _ => hS, hW hS⟩))
 exact hs j hj
theorem wpAnyLast_ready {rs : List Nat} {fuel : Nat} {listed : Array Bool} {a : Act} {w : World} (hr : Region.ready md ops listed = rs) (hne : rs ≠ [])
  (h : AllReadyL P md ops Q S ds fuel listed a w rs) : wpAnyLast P md ops Q S ds (fuel + 1) listed a w := wpAnyLast_all hr hne h
/-- THE SAME STEPS WITH WHAT HAS COME UP WRITTEN OUT (a literal array of Bools) and one check a step: quicker, and what is printed stays short. -/
theorem start_ {id n : Nat} {a : Act} {w : World} (l : Array Bool) (hm : P.follows .mixedOrders = true) (hn : ops.size = n) (hl : Array.replicate n false = l) (hS : S w.drew)
  (h : S w.drew → wpAnyLast P .any ops Q S ds n l a w.drew) : (Code.region id ops true).wp P Q a w := by
 subst hn
 subst hl
 exact wp_region_last hm (h hS)
def takeB (md : Region.Mode) (ops : Array Oper) (ds : List Nat) (l l' : Array Bool) (i : Nat) : Bool :=
 Region.noSelect ops && Region.free md ops l i && (Region.ready md ops l).contains i && Region.closedB md ops l && Region.lastB md ops l ds i && (l.setIfInBounds i true == l')
theorem take_ {i : Nat} {N : Option Tmp} {oi : Oper} {v : Value} {fuel : Nat} {l : Array Bool} {a : Act} {w : World} (l' : Array Bool) (hi : ops[i]? = some oi) (hN : oi.dst = N) (hc : takeB md ops ds l l' i = true)
  (hQ : ∀ c a w, Q (.panic c) (a.put oi.dst v) w → Q (.panic c) a w) (hy : YieldsIf P ops S oi v a) (hS : S w) {a' : Act} (ha : a.put N v = a')
  (h : wpAnyLast P md ops Q S ds fuel l' a' w) : wpAnyLast P md ops Q S ds (fuel + 1) l a w := by
 subst ha
 subst hN
 simp only [takeB, Bool.and_eq_true, beq_iff_eq] at hc
 obtain ⟨⟨⟨⟨⟨h1, h2⟩, h3⟩, h4⟩, h5⟩, h6⟩ := hc
 subst h6
 exact wpAnyLast_take hi h1 h2 h3 h4 h5 hQ hy hS h
def anyB (md : Region.Mode) (ops : Array Oper) (l l' : Array Bool) (i : Nat) : Bool :=
 Region.noSelect ops && Region.free md ops l i && (Region.ready md ops l).contains i && (l.setIfInBounds i true == l')
/-- An operation that yields in every world (a move, a number, an address): taken first wherever it may come up, behind a store too. -/
theorem pure_ {i : Nat} {N : Option Tmp} {oi : Oper} {v : Value} {fuel : Nat} {l : Array Bool} {a : Act} {w : World} (l' : Array Bool) (hi : ops[i]? = some oi) (hN : oi.dst = N) (hc : anyB md ops l l' i = true)
  (hQ : ∀ c a w, Q (.panic c) (a.put oi.dst v) w → Q (.panic c) a w) (hy : Yields P ops oi v a) {a' : Act} (ha : a.put N v = a')
  (h : wpAnyLast P md ops Q S ds fuel l' a' w) : wpAnyLast P md ops Q S ds (fuel + 1) l a w := by
 subst ha
 subst hN
 simp only [anyB, Bool.and_eq_true, beq_iff_eq] at hc
 obtain ⟨⟨⟨h1, h2⟩, h3⟩, h6⟩ := hc
 subst h6
 exact wpAnyLast_any hi (Region.noSelect_spec h1) hQ fuel l a w (Region.free_spec hi h2) (by simpa using h3) hy h
def readyB (md : Region.Mode) (ops : Array Oper) (l l' : Array Bool) (i : Nat) : Bool := (Region.ready md ops l == [i]) && (l.setIfInBounds i true == l')
/-- One operation alone may come up now (a call, a build, an append ..): it is run, S is shown behind it. -/
theorem one_ {i : Nat} {N : Option Tmp} {oi : Oper} {fuel : Nat} {l : Array Bool} {a : Act} {w : World} (l' : Array Bool) (hi : ops[i]? = some oi) (hN : oi.dst = N) (hc : readyB md ops l l' i = true) (hd : i ∉ ds)
  (h : ∀ K : Act → World → Prop, Shut (∀ a' w', S w' → (S w' → wpAnyLast P md ops Q S ds fuel l' a' w') → K a' w') → if Region.wanted oi (yielded ops a.tmps) = true then Oper.wp P oi a w K Q else K (a.put N undef) w) :
  wpAnyLast P md ops Q S ds (fuel + 1) l a w := by
 subst hN
 simp only [readyB, Bool.and_eq_true, beq_iff_eq] at hc
 obtain ⟨h1, h2⟩ := hc
 subst h2
 exact wpAnyLast_ready h1 (by simp) (AllReadyL.cons hi hd (fun K hK => h K hK) AllReadyL.nil)
theorem done_ {l : Array Bool} {a : Act} {w : World} {n : Nat} (hr : (Region.ready md ops l == []) = true) (h : Q .normal a w) : wpAnyLast P md ops Q S ds n l a w := wpAnyLast_done (by simpa using hr) h n
/-! ### Several operations that write or call may come up: each order is walked, what follows is shown once (join_) -/
/-- The act written out. -/
theorem norm_ {fuel : Nat} {l : Array Bool} {a a' : Act} {w : World} (ha : a = a') (h : wpAnyLast P md ops Q S ds fuel l a' w) : wpAnyLast P md ops Q S ds fuel l a w := by
 subst ha
 exact h
/-- A call of a Go function, by its contract. -/
theorem call_ {oi : Oper} {N : Option Tmp} {a : Act} {w : World} {K : Act → World → Prop} (f : FuncId) (args : Array Value) (hw : Region.wanted oi (yielded ops a.tmps) = true) (hN : oi.dst = N) (hrun : (execOp a.eval oi).run P w = .ok (.enter f args) w)
  (h : Calls P f args w fun e w' => ∃ v, e = .returned v ∧ K (a.put N v) w') : if Region.wanted oi (yielded ops a.tmps) = true then Oper.wp P oi a w K Q else K (a.put N undef) w := by
 rw [if_pos hw]
 subst hN
 unfold Oper.wp
 rw [hrun, Oper.upon_enter]
 refine h.mono fun e w'' hh => ?_
 obtain ⟨v, rfl, hk⟩ := hh
 exact hk
theorem enters_ {f : FuncId} {fn : Func} (hf : P.funcs[f]? = some fn) (hname : (fn.name == "runtime.NumGoroutine") = false) (hb : fn.body.isSome = true) (args : Array Value) (w : World) : (callFunc f args).run P w = .ok (.enter f args) w := by
 have h1 : fn.name ≠ "runtime.NumGoroutine" := by simpa using hname
 obtain ⟨c, hc⟩ := Option.isSome_iff_exists.1 hb
 simp [callFunc, hf, h1, hc]
/-- The same, the operation's run shown here: 'goes_ A.func3 (by kernel_rfl) rfl #[..] (by rfl) rfl rfl (by rfl) ?_'. -/
theorem goes_ {oi : Oper} {N : Option Tmp} {a : Act} {w : World} {K : Act → World → Prop} {f : FuncId} {fn : Func} {as_ : Array Operand} {ts : Array TypeId} (hf : P.funcs[f]? = some fn) (hname : (fn.name == "runtime.NumGoroutine") = false) (hb : fn.body.isSome = true) (args : Array Value)
  (hw : Region.wanted oi (yielded ops a.tmps) = true) (hN : oi.dst = N) (hop : oi.op = .call { callee := .value (.func f), args := as_, argTypes := ts }) (hargs : as_.map a.eval = args)
  (h : Calls P f args w fun e w' => ∃ v, e = .returned v ∧ K (a.put N v) w') : if Region.wanted oi (yielded ops a.tmps) = true then Oper.wp P oi a w K Q else K (a.put N undef) w := by
 refine call_ f args hw hN ?_ h
 have he := enters_ hf hname hb args w
 unfold execOp
 simp [hop, resolve, Deferred.ofValue, invoke, Act.eval, hargs, he]
/-- A call in a plain region, as_ an arm of go_wp2_with ('hd' first: it fails at once at another operation). -/
theorem goesL_ {rest : List Oper} {oi : Oper} {a : Act} {w : World} (N : Option Tmp) (hd : oi.dst = N) (hg : oi.guard = none) {f : FuncId} {fn : Func} {as_ : Array Operand} {ts : Array TypeId} (hf : P.funcs[f]? = some fn) (hname : (fn.name == "runtime.NumGoroutine") = false) (hb : fn.body.isSome = true) (args : Array Value)
  (hop : oi.op = .call { callee := .value (.func f), args := as_, argTypes := ts }) (hargs : as_.map a.eval = args)
  (h : Calls P f args w fun e w' => ∃ v, e = .returned v ∧ wpList P ops Q rest (a.put N v) w') : wpList P ops Q (oi :: rest) a w := by
 refine wpList_plain hg fun K hK => ?_
 have he := enters_ hf hname hb args w
 have hrun : (execOp a.eval oi).run P w = .ok (.enter f args) w := by
  unfold execOp
  simp [hop, resolve, Deferred.ofValue, invoke, Act.eval, hargs, he]
 unfold Oper.wp
 rw [hrun, Oper.upon_enter]
 refine h.mono fun e w'' hh => ?_
 obtain ⟨v, rfl, hk⟩ := hh
 subst hd
 exact hK _ _ hk
theorem i64_w (n : Int) : IntKind.i64.wrap n = Go.RowKit.wrap64 n := by unfold Go.RowKit.wrap64; exact IntKind.wrap_i64 n
theorem i32_w (n : Int) : IntKind.i32.wrap n = Go.RowKit.wrap32 n := by unfold Go.RowKit.wrap32; exact IntKind.wrap_i32 n
end
end Go.Proofs.YtnajijaachgipaaDoorW.PrintLast
end
section
namespace Go.Proofs.YtnajijaachgipaaDoorW.PrintWords
open Go.RowKit
namespace Kd
section
variable {α : Type} {d : Kd α} {e base g o n cap : Nat} {ok okp : Nat → Prop} {w W : World} {v : Value} {xs : List α}
end
section
variable {α : Type} {enc : α → Value} {h1 : ∀ x, (enc x).oneCell' = true} {e base g o n cap : Nat} {ok : Nat → Prop} {W : World} {xs : List α}
end
end Kd
end Go.Proofs.YtnajijaachgipaaDoorW.PrintWords
end
section
namespace Go.Proofs.YtnajijaachgipaaDoorW.PrintWords
open Go.RowKit
namespace Kd
/-- An element with its index: its blocks are those that f gives to it. -/
def tag {α : Type} (f : Nat → Nat) (d : Kd α) : Kd (α × Nat) where
 sz := d.sz
 E := d.E
 K := fun w x cs => d.K w x.1 cs
 M := fun w base ok x cs => d.M w base (fun k => ok k ∧ f k = x.2) x.1 cs
 K_len := fun h => d.K_len h
 K_one := fun h => d.K_one h
 K_below := fun hb h => d.K_below hb h
 K_of_M := fun h => d.K_of_M h
 M_mono := fun hok h => d.M_mono (fun k hk => ⟨hok k hk.1, hk.2⟩) h
 M_bound := fun h => d.M_mono (fun _ hk => ⟨⟨hk.1.1, hk.2⟩, hk.1.2⟩) (d.M_bound h)
 M_move := fun hm h => d.M_move (fun k hk => hm k hk.1) h
 M_lower := fun hb h => d.M_lower hb h
/-- The cells themselves. -/
def raw (sz : Nat) : Kd (List Value) where
 sz := sz
 E := []
 K := fun _ x cs => cs = x ∧ cs.length = sz ∧ ∀ u ∈ cs, u.oneCell' = true
 M := fun _ _ _ x cs => cs = x ∧ cs.length = sz ∧ ∀ u ∈ cs, u.oneCell' = true
 K_len := fun h => h.2.1
 K_one := fun h => h.2.2
 K_below := fun _ h => h
 K_of_M := fun h => h
 M_mono := fun _ h => h
 M_bound := fun h => h
 M_move := fun _ h => h
 M_lower := fun _ h => h
/-- A row of elements (type e) of the call's own, no two of which lead to one block. -/
def S {α : Type} (d : Kd α) (e : Nat) (w : World) (base : Nat) (ok : Nat → Prop) (v : Value) (xs : List α) : Prop := ∃ f, (tag f d).R e w base ok v xs.zipIdx
section
variable {α β : Type} {d : Kd α} {d' : Kd β} {e e' : Nat} {w w1 W : World} {base b : Nat} {ok ok' okv oku : Nat → Prop} {u v : Value} {xs : List α} {ys : List β}
end
section
variable {α β : Type} {d : Kd α} {d' : Kd β} {e e' g : Nat} {w w1 W : World} {base b : Nat} {ok ok' okv oku : Nat → Prop} {u v : Value} {xs : List α} {ys : List β}
end
/-! #### append, make, literals: the new element's blocks are none of the elder ones' -/
section
variable {P : Program} {ops : Array Oper} {rest : List Oper} {o : Oper} {a : Act} {Q : Exit → Act → World → Prop} {Kc : Act → World → Prop} {α : Type}
end
/-! #### a row with a hole: element i is lent, its blocks are oki; of it the row says its cells alone -/
/-- Element i is these cells; the others are d's. -/
def gap {α : Type} (f : Nat → Nat) (d : Kd α) (i : Nat) (c : List Value) : Kd (α × Nat) where
 sz := d.sz
 E := d.E
 K := fun w x cs => (x.2 = i → cs = c ∧ cs.length = d.sz ∧ ∀ u ∈ cs, u.oneCell' = true) ∧ (x.2 ≠ i → d.K w x.1 cs)
 M := fun w base ok x cs => (x.2 = i → cs = c ∧ cs.length = d.sz ∧ ∀ u ∈ cs, u.oneCell' = true) ∧ (x.2 ≠ i → d.M w base (fun k => ok k ∧ f k = x.2) x.1 cs)
 K_len := fun {w x cs} h => by
  by_cases hx : x.2 = i
  ·exact (h.1 hx).2.1
  exact d.K_len (h.2 hx)
 K_one := fun {w x cs} h => by
  by_cases hx : x.2 = i
  ·exact (h.1 hx).2.2
  exact d.K_one (h.2 hx)
 K_below := fun hb h => ⟨h.1, fun hx => d.K_below hb (h.2 hx)⟩
 K_of_M := fun h => ⟨h.1, fun hx => d.K_of_M (h.2 hx)⟩
 M_mono := fun hok h => ⟨h.1, fun hx => d.M_mono (fun k hk => ⟨hok k hk.1, hk.2⟩) (h.2 hx)⟩
 M_bound := fun h => ⟨h.1, fun hx => d.M_mono (fun _ hk => ⟨⟨hk.1.1, hk.2⟩, hk.1.2⟩) (d.M_bound (h.2 hx))⟩
 M_move := fun hm h => ⟨h.1, fun hx => d.M_move (fun k hk => hm k hk.1) (h.2 hx)⟩
 M_lower := fun hb h => ⟨h.1, fun hx => d.M_lower hb (h.2 hx)⟩
def H {α : Type} (d : Kd α) (e : Nat) (w : World) (base : Nat) (ok : Nat → Prop) (v : Value) (xs : List α) (i : Int) (oki : Nat → Prop) (c : List Value) : Prop :=
 (∀ k, oki k → ok k) ∧ ∃ f, (gap f d i.toNat c).R e w base (fun k => ok k ∧ ¬ oki k) v xs.zipIdx
section
variable {α β : Type} {d : Kd α} {e e' g n cap : Nat} {w w1 W : World} {base : Nat} {ok ok' oki okp : Nat → Prop} {u v : Value} {xs : List α} {i : Int} {c : List Value}
end
section
variable {P : Program} {ops : Array Oper} {rest : List Oper} {o : Oper} {a : Act} {Q : Exit → Act → World → Prop} {α : Type}
end
end Kd
end Go.Proofs.YtnajijaachgipaaDoorW.PrintWords
end
section
namespace Go.Proofs.YtnajijaachgipaaDoorW.PrintWords
open Go.RowKit
namespace Kd
theorem reps_one {α : Type} {R : α → List Value → Prop} {size : Nat} {ps : List α} {cs : List Value} (h : Reps R size ps cs) (hs0 : 0 < size) (hR : ∀ p c, R p c → ∀ u ∈ c, u.oneCell' = true) : ∀ u ∈ cs, u.oneCell' = true := by
 intro u hu
 obtain ⟨q, hq, rfl⟩ := List.mem_iff_getElem.1 hu
 have hql : q / size < ps.length := by
  rw [Nat.div_lt_iff_lt_mul hs0, ← h.1]
  exact hq
 refine hR _ _ (h.2 (q / size) _ (List.getElem?_eq_getElem hql)) _ ?_
 rw [List.mem_iff_getElem?]
 refine ⟨q % size, ?_⟩
 rw [List.getElem?_take, if_pos (Nat.mod_lt _ hs0), List.getElem?_drop, Nat.mul_comm, Nat.div_add_mod, List.getElem?_eq_getElem hq]
/-- An array of n elements of kind d. -/
def arr {α : Type} (n : Nat) (d : Kd α) (hs : 0 < d.sz) : Kd (List α) where
 sz := n * d.sz
 E := d.E
 K := fun w xs cs => xs.length = n ∧ Reps (d.K w) d.sz xs cs
 M := fun w base ok xs cs => xs.length = n ∧ Reps (d.M w base ok) d.sz xs cs
 K_len := fun h => by rw [← h.1]; exact h.2.1
 K_one := fun h => reps_one h.2 hs (fun _ _ hk => d.K_one hk)
 K_below := fun hb h => ⟨h.1, h.2.imp_ (fun _ _ hk => d.K_below hb hk)⟩
 K_of_M := fun h => ⟨h.1, h.2.imp_ (fun _ _ hk => d.K_of_M hk)⟩
 M_mono := fun hok h => ⟨h.1, h.2.imp_ (fun _ _ hk => d.M_mono hok hk)⟩
 M_bound := fun h => ⟨h.1, h.2.imp_ (fun _ _ hk => d.M_bound hk)⟩
 M_move := fun hm h => ⟨h.1, h.2.imp_ (fun _ _ hk => d.M_move hm hk)⟩
 M_lower := fun hb h => ⟨h.1, h.2.imp_ (fun _ _ hk => d.M_lower hb hk)⟩
section
variable {α : Type} {n : Nat} {d : Kd α} {hs : 0 < d.sz} {w : World} {base : Nat} {ok : Nat → Prop} {xs : List α} {cs : List Value}
end
section
variable {α : Type} {n : Nat} {enc : α → Value} {h1 : ∀ x, (enc x).oneCell' = true} {hs : 0 < (scalar enc h1).sz} {w : World} {base : Nat} {ok : Nat → Prop} {xs : List α} {cs : List Value}
end
end Kd
end Go.Proofs.YtnajijaachgipaaDoorW.PrintWords
end
section
namespace Go.Proofs.YtnajijaachgipaaDoorW.PrintWords
open Go.RowKit
section
variable {P : Program}
end
namespace Kd
section
variable {P : Program} {ops : Array Oper} {rest : List Oper} {o : Oper} {a : Act} {Q : Exit → Act → World → Prop} {Kc : Act → World → Prop} {α : Type}
end
/-! #### the same for rows whose elements lie apart -/
section
variable {α : Type} {d : Kd α} {e : Nat} {w : World} {base : Nat} {ok : Nat → Prop} {v : Value} {xs : List α}
end
section
variable {P : Program} {ops : Array Oper} {rest : List Oper} {o : Oper} {a : Act} {Q : Exit → Act → World → Prop} {Kc : Act → World → Prop} {α : Type}
end
end Kd
end Go.Proofs.YtnajijaachgipaaDoorW.PrintWords
end
section
namespace Go.Proofs.YtnajijaachgipaaDoorW.PrintWords
open Go.RowKit
namespace Kd
/-- What a kind reads lies in the blocks: nothing else of the world is looked at. -/
structure Heap {α : Type} (d : Kd α) : Prop where
 K : ∀ {w w1 : World} {x : α} {cs : List Value}, (∀ k, k < w.heap.size → w1.heap[k]? = w.heap[k]?) → d.K w x cs → d.K w1 x cs
theorem cell_heap {w w1 : World} (hb : ∀ k, k < w.heap.size → w1.heap[k]? = w.heap[k]?) {a : Addr} {v : Value} (h : w.cell? a = some v) : w1.cell? a = some v := by
 have := hb a.block (World.block_lt_of_cell? w a h)
 simpa [World.cell?, this] using h
theorem Heap.C {α : Type} {d : Kd α} (hd : Heap d) {w w1 : World} {A : Option Addr} {n : Nat} {xs : List α} (hb : ∀ k, k < w.heap.size → w1.heap[k]? = w.heap[k]?) (h : d.C w A n xs) : d.C w1 A n xs :=
 ⟨h.1, h.2.1, fun hn => by
  obtain ⟨ad, e, hc⟩ := h.2.2 hn
  refine ⟨ad, e, fun j p hj => ?_⟩
  obtain ⟨c, hs, hr, hcell⟩ := hc j p hj
  exact ⟨c, hs, hd.K hb hr, fun i u hu => cell_heap hb (hcell i u hu)⟩⟩
section
variable {α : Type} {d : Kd α} {e base g n c : Nat} {ok : Nat → Prop} {w w0 W : World} {A : Option Addr} {xs : List α}
end
end Kd
end Go.Proofs.YtnajijaachgipaaDoorW.PrintWords
end
section
namespace Go.Proofs.YtnajijaachgipaaDoorW.PrintWords
open Go.RowKit
def Kept (w W : World) (S : Nat → Prop) : Prop := w.heap.size ≤ W.heap.size ∧ ∀ i, i < w.heap.size → ¬ S i → W.heap[i]? = w.heap[i]?
section
variable {w W W2 : World} {S S2 S' : Nat → Prop}
theorem Kept.refl (w : World) (S : Nat → Prop) : Kept w w S := ⟨Nat.le_refl _, fun _ _ _ => rfl⟩
theorem Kept.of_below (h : Below w.heap.size w W) (S : Nat → Prop) : Kept w W S := ⟨h.size, fun i hi _ => h.block i hi⟩
theorem Kept.mono (h : Kept w W S) (hs : ∀ k, S k → S' k) : Kept w W S' := ⟨h.1, fun i hi hn => h.2 i hi (fun hk => hn (hs i hk))⟩
theorem Kept.then_ (h : Kept w W S) (k : Kept W W2 S2) (hs : ∀ k, S2 k → S k ∨ w.heap.size ≤ k) : Kept w W2 S :=
 ⟨Nat.le_trans h.1 k.1, fun i hi hn => (k.2 i (Nat.lt_of_lt_of_le hi h.1) (fun h2 => (hs i h2).elim hn (fun h3 => by omega))).trans (h.2 i hi hn)⟩
theorem Kept.below (h : Kept w W S) (hb : Below W.heap.size W W2) : Kept w W2 S := h.then_ (Kept.of_below hb (fun _ => False)) (fun _ hk => hk.elim)
theorem Kept.alloc (h : Kept w W S) (o : Obj) : Kept w (W.alloc o) S := h.below (below_alloc (Below.refl _ _) o)
theorem Kept.drew (h : Kept w W S) : Kept w W.drew S := h
theorem Kept.drewN (h : Kept w W S) (m : Nat) : Kept w (W.drewN m) S := h
theorem Kept.setCell (h : Kept w W S) {p : Addr} (hp : S p.block ∨ w.heap.size ≤ p.block) (u : Value) : Kept w (W.setCell p u) S :=
 h.then_ (S2 := fun k => k = p.block) ⟨by simp [World.setCell], fun i _ hn => Below.heap_setCell W p u i hn⟩ (fun k hk => by rw [hk]; exact hp)
/-- Beside a state: what was written is new since. -/
theorem Kept.keep {g : Nat} (h : KeepBut w W g none) (k : Kept W W2 S2) (hs : ∀ k, S2 k → w.heap.size ≤ k) : KeepBut w W2 g none :=
 ⟨Nat.le_trans h.1 k.1, fun i hi hg hr => (k.2 i (Nat.lt_of_lt_of_le hi h.1) (fun h2 => by have := hs i h2; omega)).trans (h.2 i hi hg hr)⟩
end
namespace Kd
section
variable {α : Type} {d : Kd α} {e base n c : Nat} {ok oki S S2 : Nat → Prop} {w w0 W W1 W2 : World} {v : Value} {A : Option Addr} {xs : List α} {i : Int} {cs : List Value}
end
end Kd
end Go.Proofs.YtnajijaachgipaaDoorW.PrintWords
end
section
namespace Go.Proofs.YtnajijaachgipaaDoorW.PrintWords
open Go.RowKit
/-- P holds in W and in every world that has W's blocks of ok. -/
def Foot (P : World → Prop) (W : World) (ok : Nat → Prop) : Prop := ∀ W' : World, (∀ k, ok k → k < W.heap.size → W'.heap[k]? = W.heap[k]?) → P W'
theorem heap_lt {W W1 : World} {k : Nat} (h : W1.heap[k]? = W.heap[k]?) (hlt : k < W.heap.size) : k < W1.heap.size := by
 rw [Array.getElem?_eq_getElem hlt] at h
 exact (Array.getElem?_eq_some_iff.1 h).1
namespace Foot
variable {P Q : World → Prop} {W W1 : World} {ok ok' : Nat → Prop}
theorem now (h : Foot P W ok) : P W := h W (fun _ _ _ => rfl)
theorem mono (h : Foot P W ok) (hok : ∀ k, ok k → ok' k) : Foot P W ok' := fun W' hW => h W' (fun k hk hlt => hW k (hok k hk) hlt)
theorem bound (h : Foot P W ok) : Foot P W (fun k => ok k ∧ k < W.heap.size) := fun W' hW => h W' (fun k hk hlt => hW k ⟨hk, hlt⟩ hlt)
theorem step (h : Foot P W ok) (hm : ∀ k, ok k → k < W.heap.size → W1.heap[k]? = W.heap[k]?) : Foot P W1 ok := fun W' hW => h W' (fun k hk hlt => (hW k hk (heap_lt (hm k hk hlt) hlt)).trans (hm k hk hlt))
/-- Moved, and still elder than what is new since W. -/
theorem old (h : Foot P W ok) (hb : Below W.heap.size W W1) : Foot P W1 (fun k => ok k ∧ k < W.heap.size) := (h.bound).step (fun k _ hlt => hb.block k hlt)
end Foot
namespace Kd
/-- A row that is only read: what it leads to lies in ok. -/
def F {α : Type} (d : Kd α) (W : World) (ok : Nat → Prop) (A : Option Addr) (n : Nat) (xs : List α) : Prop := Foot (fun W => d.C W A n xs) W ok
/-- An element's cells: what they lead to lies in ok. -/
def FK {α : Type} (d : Kd α) (W : World) (ok : Nat → Prop) (x : α) (c : List Value) : Prop := Foot (fun W => d.K W x c) W ok
section
variable {α β : Type} {d : Kd α} {e base n n' cc g N : Nat} {ok ok' okp S : Nat → Prop} {w w0 w1 W W1 : World} {A A' : Option Addr} {u v v1 : Value} {xs : List α} {xs' : List β} {d' : Kd β} {x : α} {c : List Value}
end
end Kd
end Go.Proofs.YtnajijaachgipaaDoorW.PrintWords
end
section
namespace Go.Proofs.YtnajijaachgipaaDoorW.PrintWords
open Go.RowKit
namespace Kd
section
variable {α : Type} {d : Kd α} {e base n cc g : Nat} {ok ok' okp S : Nat → Prop} {w w1 W W1 : World} {A : Option Addr} {u v v1 : Value} {xs : List α} {x : α} {c : List Value}
/-- A row of elements (type e) of the call's own; what the elements lead to is only read, and is not this row. -/
def N {α : Type} (d : Kd α) (e : Nat) (w : World) (base : Nat) (ok : Nat → Prop) (v : Value) (xs : List α) : Prop :=
 (∀ k, v.ownBlock = some k → ok k) ∧ ∃ rows : List (List Value), rows.length = xs.length ∧ (raw d.sz).R e w base (fun k => some k = v.ownBlock) v rows ∧ ∀ (j : Nat) (x : α) (c : List Value), xs[j]? = some x → rows[j]? = some c → FK d w (fun k => ok k ∧ some k ≠ v.ownBlock) x c
end
end Kd
end Go.Proofs.YtnajijaachgipaaDoorW.PrintWords
end
section
namespace Go.Proofs.YtnajijaachgipaaDoorW.PrintWords
open Go.RowKit
namespace Kd
section
variable {α : Type} {d : Kd α} {e base n cap g : Nat} {ok ok' okp : Nat → Prop} {w w1 W : World} {v v1 : Value} {xs ys : List α}
end
section
variable {P : Program} {ops : Array Oper} {rest : List Oper} {o : Oper} {a : Act} {Q : Exit → Act → World → Prop} {Kc : Act → World → Prop} {α : Type}
end
end Kd
end Go.Proofs.YtnajijaachgipaaDoorW.PrintWords
end
section
namespace Go.Proofs.YtnajijaachgipaaDoorW.PrintMore
open Go.RowKit Go.Proofs.YtnajijaachgipaaDoorW.PrintWords
namespace Kd
open Go.Proofs.YtnajijaachgipaaDoorW.PrintWords.Kd
end Kd
namespace Kd
open Go.Proofs.YtnajijaachgipaaDoorW.PrintWords.Kd
section
variable {α : Type} {d : Kd α} {e base g N : Nat} {ok : Nat → Prop} {W w1 : World} {u v : Value} {xs : List α}
/-- An elder row over an event that only makes: its blocks are elder than what was made. -/
theorem R_old (hu : d.R e W base ok u xs) (hb : Below W.heap.size W w1) : d.R e w1 base (fun k => ok k ∧ k < W.heap.size) u xs :=
 R_mono (R_below (R_bound hu) hb) (fun _ h => ⟨h.1, h.2.2.1⟩)
/-- It is none of the rows made since. -/
theorem R_told (h : d.R e w1 base (fun k => ok k ∧ k < N) u xs) (hbase : ∀ k, v.ownBlock = some k → N ≤ k) : d.R e w1 base (fun k => (ok k ∧ some k ≠ v.ownBlock) ∧ k < N) u xs :=
 R_mono h (fun k hk => ⟨⟨hk.1, fun e => Nat.lt_irrefl _ (Nat.lt_of_lt_of_le hk.2 (hbase k e.symm))⟩, hk.2⟩)
end
end Kd
/-- 'max' and 'min' of two whole numbers. -/
theorem max2_int (k k' : IntKind) (x y : Int) : Builtin.max2 (.int k x) (.int k' y) = pure (.int k (if x < y then y else x)) := by simp only [Builtin.max2, gt_iff_lt]
theorem min2_int (k k' : IntKind) (x y : Int) : Builtin.min2 (.int k x) (.int k' y) = pure (.int k (if y < x then y else x)) := by simp only [Builtin.min2]
theorem max_two (ats : Array TypeId) (ty : TypeId) (a b : Value) : Builtin.max_ ats ty #[a, b] = (Builtin.max2 a b >>= fun s => pure s) := by simp only [Builtin.max_, List.foldlM_cons, List.foldlM_nil]
theorem min_two (ats : Array TypeId) (ty : TypeId) (a b : Value) : Builtin.min_ ats ty #[a, b] = (Builtin.min2 a b >>= fun s => pure s) := by simp only [Builtin.min_, List.foldlM_cons, List.foldlM_nil]
theorem max_three (ats : Array TypeId) (ty : TypeId) (a b c : Value) : Builtin.max_ ats ty #[a, b, c] = (Builtin.max2 a b >>= fun s => Builtin.max2 s c >>= fun s => pure s) := by simp only [Builtin.max_, List.foldlM_cons, List.foldlM_nil]
theorem min_three (ats : Array TypeId) (ty : TypeId) (a b c : Value) : Builtin.min_ ats ty #[a, b, c] = (Builtin.min2 a b >>= fun s => Builtin.min2 s c >>= fun s => pure s) := by simp only [Builtin.min_, List.foldlM_cons, List.foldlM_nil]
theorem max_four (ats : Array TypeId) (ty : TypeId) (a b c d : Value) : Builtin.max_ ats ty #[a, b, c, d] = (Builtin.max2 a b >>= fun s => Builtin.max2 s c >>= fun s => Builtin.max2 s d >>= fun s => pure s) := by simp only [Builtin.max_, List.foldlM_cons, List.foldlM_nil]
theorem min_four (ats : Array TypeId) (ty : TypeId) (a b c d : Value) : Builtin.min_ ats ty #[a, b, c, d] = (Builtin.min2 a b >>= fun s => Builtin.min2 s c >>= fun s => Builtin.min2 s d >>= fun s => pure s) := by simp only [Builtin.min_, List.foldlM_cons, List.foldlM_nil]
end Go.Proofs.YtnajijaachgipaaDoorW.PrintMore
namespace Go.Proofs.YtnajijaachgipaaDoorW.PrintWords
open Go.RowKit
section
variable {P : Program} {ops : Array Oper} {rest : List Oper} {o : Oper} {a : Act} {Q : Exit → Act → World → Prop} {W : World}
/-- The operation is a call of this function (a cheap look ahead of a dear step). -/
theorem gate_callee {f : FuncId} {as_ : Array Operand} {ts : Array TypeId} (_ho : o.op = .call { callee := .value (.func f), args := as_, argTypes := ts }) (h : wpList P ops Q (o :: rest) a W) : wpList P ops Q (o :: rest) a W := h
/-- The operation is a builtin over these places. -/
theorem gate_builtin {b : Builtin} {xs : Array Operand} {ts : Array TypeId} (_ho : o.op = .call { callee := .builtin b, args := xs, argTypes := ts }) (h : wpList P ops Q (o :: rest) a W) : wpList P ops Q (o :: rest) a W := h
end
namespace Kd
section
variable {α : Type} {d : Kd α} {e base : Nat} {ok : Nat → Prop} {W w1 : World} {v : Value} {xs : List α}
end
section
variable {α : Type} {d : Kd α} {e base g n cap : Nat} {ok oki okp : Nat → Prop} {W : World} {xs : List α} {i : Int} {c : List Value}
end
section
variable {α : Type} {d : Kd α} {e base b b' g N : Nat} {ok ok1 : Nat → Prop} {W W2 w1 : World} {u v : Value} {xs ys : List α} {S : Nat → Prop}
end
end Kd
end Go.Proofs.YtnajijaachgipaaDoorW.PrintWords
namespace Go.Proofs.YtnajijaachgipaaDoorW.PrintWords
open Go.RowKit
namespace Kd
/-- A row that is only read, told by its value: its form, its length, what it leads to (in ok). e and base say nothing; they make it as_ the others are. -/
def V {α : Type} (d : Kd α) (_e : Nat) (W : World) (_base : Nat) (ok : Nat → Prop) (v : Value) (xs : List α) : Prop := ∃ A c, v = .slice A xs.length c ∧ xs.length ≤ c ∧ F d W ok A xs.length xs
section
variable {α β : Type} {d : Kd α} {e base base' n m c g N' lo hi : Nat} {ok ok' S : Nat → Prop} {w W w1 : World} {A : Option Addr} {ad : Addr} {u v v1 : Value} {xs : List α}
end
end Kd
end Go.Proofs.YtnajijaachgipaaDoorW.PrintWords
end
section
namespace Go.Proofs.YtnajijaachgipaaDoor.H
set_option linter.unusedVariables false
set_option linter.unusedSimpArgs false
open Go.RowKit Go.Proofs.YtnajijaachgipaaDoorW.PrintWords Go.Proofs.YtnajijaachgipaaDoorW.PrintLast Go.Proofs.YtnajijaachgipaaDoorW.PrintMore
set_option maxHeartbeats 4000000 in
set_option maxRecDepth 100000 in
theorem clone (s : ByteArray) (w : World) (hlim : s.size ≤ 281474976710656) :
  Calls Tryd.prog 124 #[.string s] w fun e w' => e = .returned (.string s) ∧ Below w.heap.size w w' := by
 by_cases h0 : s.size = 0
 ·have hs : s = ⟨#[]⟩ := by
   apply ByteArray.ext
   exact Array.eq_empty_of_size_eq_zero h0
  subst hs
  go_enter Tryd.func124, Tryd.ntmps124
  go_wp2
  go_ret
  exact ⟨rfl, Below.refl _ _⟩
 obtain ⟨i0, hi, hz0, hz1, hz2⟩ := info_parts (P := Tryd.prog) (e := 5) (z := .int .u8 0) (size := 1) (bytes := 1) (by kernel_rfl)
 have hinfo : (Tryd.prog.info? 5).map (·.size) = some 1 := by rw [hi]; simp [hz1]
 have hco : Tryd.prog.cellsOf 5 = 1 := by simp [Program.cellsOf, hi, hz1]
 obtain ⟨M, hM⟩ : ∃ M, M = madeCells (Value.int .u8 0).cells (((s.size : Nat) : Int).toNat * i0.size) := ⟨_, rfl⟩
 have hMs : M.size = s.size := by rw [hM, size_madeCells, hz1]; simp
 have hmk : ∀ W : World, (Instr.makeSlice 47 (.int .i64 (s.size : Int)) (.int .i64 (s.size : Int))).run Tryd.prog W = .ok (.slice (some ⟨W.heap.size, 0, none⟩) s.size s.size) (W.alloc (.cells M 5)) := fun W => by
  have h := run_make (P := Tryd.prog) W 47 5 i0 (.int .u8 0) Tryd.underlying47 hi hz0 .i64 .i64 (s.size : Int) (s.size : Int) (by omega) (by omega) (by rw [hz2]; omega) (by omega)
  rw [← hM] at h
  simpa using h
 clear hM
 have hcp := Lib.run_copy_row_string (P := Tryd.prog) (w.alloc (.cells M 5)) 47 9 3 5 w.heap.size 0 s.size s.size s M 5 Tryd.underlying47 hinfo (heap_alloc_new w _) (Nat.le_refl _) (by omega)
 obtain ⟨Y, hY⟩ : ∃ Y, Y = (M.toList.take 0 ++ Lib.byteCells s.data.toList ++ M.toList.drop (0 + s.size)).toArray := ⟨_, rfl⟩
 rw [← hY] at hcp
 have hYl : Y.toList = Lib.byteCells s.data.toList := by
  rw [hY, List.toList_toArray, List.take_zero, List.nil_append, List.drop_of_length_le (by rw [Array.length_toList]; omega), List.append_nil]
 have hYs : Y.size = s.size := by rw [← Array.length_toList, hYl, Lib.byteCells_length, ← Lib.size_eq]
 have hgY : ((w.alloc (.cells M 5)).setRow w.heap.size Y).heap[w.heap.size]? = some (.cells Y 5 (0, 0)) := setRow_heap _ _ M _ 5 (0, 0) (heap_alloc_new w _)
 have hne : s.data.toList ≠ [] := fun e => h0 (by rw [Lib.size_eq, e]; rfl)
 have hUS := Lib.run_unsafeString_row (P := Tryd.prog) ((w.alloc (.cells M 5)).setRow w.heap.size Y) 165 3 9 5 Tryd.underlying165 hco w.heap.size Y.size (by unfold World.shape?; rw [hgY]) s.data.toList hne (by rw [← Lib.size_eq]; omega) (by rw [← Lib.size_eq]; omega)
  (fun j x hx => Lib.cells_of_row hgY Y.size j _ (by rw [List.take_of_length_le (by rw [Array.length_toList]; exact Nat.le_refl _), hYl]; simp [Lib.byteCells, hx]))
 rw [← Lib.size_eq] at hUS
 clear hY
 go_enter Tryd.func124, Tryd.ntmps124
 go_wp2
 go_ret
 have hb1 : Below w.heap.size w (w.alloc (.cells M 5)) := (Below.refl _ w).alloc (Nat.le_refl _) _
 have hb2 : Below w.heap.size (w.alloc (.cells M 5)) ((w.alloc (.cells M 5)).setRow w.heap.size Y) := ⟨rfl, rfl, rfl, by simp, fun k hk => setRow_other _ _ _ _ (by omega)⟩
 exact ⟨rfl, Lib.below_freeze (hb1.trans hb2) (p := ⟨w.heap.size, 0, none⟩) (Nat.le_refl _) _⟩
set_option maxHeartbeats 6400000 in
set_option maxRecDepth 100000 in
theorem syntaxError (fn s : ByteArray) (te : TypeId) (pe : Value) (w : World) (hlim : s.size ≤ 281474976710656) (hv : w.cell? ⟨0, 0, none⟩ = some (.iface te pe)) :
  Calls Tryd.prog 111 #[.string fn, .string s] w fun e w' => ∃ N : Nat, e = .returned (.pointer (some ⟨N, 0, none⟩)) ∧ Below w.heap.size w w' := by
 have hG : 0 < w.heap.size := Lib.lt_of_cell hv
 have hvd : w.drew.cell? ⟨0, 0, none⟩ = some _ := hv
 go_enter Tryd.func111, Tryd.ntmps111
 go_wp2
 go_region_with (
   go_at_call 124
   refine (clone s _ hlim).mono ?_
   rintro e w2 ⟨rfl, hbel⟩
   have hv2 : w2.cell? ⟨0, 0, none⟩ = some _ := (hbel.cell (show (⟨0, 0, none⟩ : Addr).block < w.drew.heap.size from hG)).trans hvd)
 all_goals (
  go_wp2
  go_ret
  have hs2 : w.heap.size ≤ w2.heap.size := hbel.size
  exact ⟨_, rfl, ((Below.drew (Below.refl _ w)).trans hbel).alloc hs2 _⟩)
set_option maxHeartbeats 4000000 in
set_option maxRecDepth 100000 in
theorem toError_syntax (fn s : ByteArray) (base bits : Int) (te : TypeId) (pe : Value) (w : World) (hlim : s.size ≤ 281474976710656) (hv : w.cell? ⟨0, 0, none⟩ = some (.iface te pe)) :
  Calls Tryd.prog 92 #[.string fn, .string s, .int .i64 base, .int .i64 bits, .iface 154 (.int .i64 2)] w fun e w' => ∃ p : Value, e = .returned (.iface 155 p) ∧ Below w.heap.size w w' := by
 have heq : ∀ W, (binOp .eql 54 (.iface 154 (.int .i64 2)) (.iface 154 (.int .i64 2))).run Tryd.prog W = .ok (.bool true) W := fun W => Lib.run_eql_iface_int W 2 2 Tryd.underlying54 (by kernel_rfl) Tryd.underlying154
 go_enter Tryd.func92, Tryd.ntmps92
 go_wp2_with (go_at_call 111; refine (syntaxError fn s te pe _ hlim ?_).mono ?_)
 ·exact hv
 rintro e w2 ⟨N, rfl, h3⟩
 go_wp2
 go_ret
 exact ⟨_, rfl, h3⟩
set_option maxHeartbeats 6400000 in
set_option maxRecDepth 100000 in
theorem rangeError (fn s : ByteArray) (te : TypeId) (pe : Value) (w : World) (hlim : s.size ≤ 281474976710656) (hv : w.cell? ⟨1, 0, none⟩ = some (.iface te pe)) :
  Calls Tryd.prog 112 #[.string fn, .string s] w fun e w' => ∃ N : Nat, e = .returned (.pointer (some ⟨N, 0, none⟩)) ∧ Below w.heap.size w w' := by
 have hG : 1 < w.heap.size := Lib.lt_of_cell hv
 have hvd : w.drew.cell? ⟨1, 0, none⟩ = some _ := hv
 go_enter Tryd.func112, Tryd.ntmps112
 go_wp2
 go_region_with (
   go_at_call 124
   refine (clone s _ hlim).mono ?_
   rintro e w2 ⟨rfl, hbel⟩
   have hv2 : w2.cell? ⟨1, 0, none⟩ = some _ := (hbel.cell (show (⟨1, 0, none⟩ : Addr).block < w.drew.heap.size from hG)).trans hvd)
 all_goals (
  go_wp2
  go_ret
  have hs2 : w.heap.size ≤ w2.heap.size := hbel.size
  exact ⟨_, rfl, ((Below.drew (Below.refl _ w)).trans hbel).alloc hs2 _⟩)
set_option maxHeartbeats 4000000 in
set_option maxRecDepth 100000 in
theorem toError_range (fn s : ByteArray) (base bits : Int) (te : TypeId) (pe : Value) (w : World) (hlim : s.size ≤ 281474976710656) (hv : w.cell? ⟨1, 0, none⟩ = some (.iface te pe)) :
  Calls Tryd.prog 92 #[.string fn, .string s, .int .i64 base, .int .i64 bits, .iface 154 (.int .i64 1)] w fun e w' => ∃ p : Value, e = .returned (.iface 155 p) ∧ Below w.heap.size w w' := by
 have heq : ∀ W, (binOp .eql 54 (.iface 154 (.int .i64 1)) (.iface 154 (.int .i64 1))).run Tryd.prog W = .ok (.bool true) W := fun W => Lib.run_eql_iface_int W 1 1 Tryd.underlying54 (by kernel_rfl) Tryd.underlying154
 have hne : ∀ W, (binOp .eql 54 (.iface 154 (.int .i64 1)) (.iface 154 (.int .i64 2))).run Tryd.prog W = .ok (.bool false) W := fun W => Lib.run_eql_iface_int W 1 2 Tryd.underlying54 (by kernel_rfl) Tryd.underlying154
 go_enter Tryd.func92, Tryd.ntmps92
 go_wp2_with (go_at_call 112; refine (rangeError fn s te pe _ hlim ?_).mono ?_)
 ·exact hv
 rintro e w2 ⟨N, rfl, h3⟩
 go_wp2
 go_ret
 exact ⟨_, rfl, h3⟩
set_option maxHeartbeats 1000000 in
set_option maxRecDepth 100000 in
theorem errorsNew (s : ByteArray) (w : World) :
  Calls Tryd.prog 41 #[.string s] w fun e w' => ∃ (et : Nat) (ep : Value), e = .returned (.iface et ep) ∧ Below w.heap.size w w' := by
 have hb : Below w.heap.size w (w.alloc (.cells #[.string s] 117)) := (Below.refl _ w).alloc (Nat.le_refl _) _
 have HB := Aside0.mk hb
 clear hb
 go_enter Tryd.func41, Tryd.ntmps41
 go_wp2
 go_ret
 exact ⟨_, _, rfl, HB.out⟩
end Go.Proofs.YtnajijaachgipaaDoor.H
end
section
namespace Go.Proofs
open Go.Shelf
end Go.Proofs
end
section
namespace Go.Proofs.YtnajijaachgipaaDoorW.PrintLast
open Go.Proofs.YtnajijaachgipaaDoorW.PrintWords (Aside0)
def needsOf (md : Region.Mode) (o : Oper) : List Nat := (o.after.toList.filter (fun e => Region.binds md e)).map (fun e => e.on)
def clashOf (md : Region.Mode) (ops : Array Oper) (i : Nat) (oi : Oper) : List Nat := (List.range ops.size).filter fun j => !(j == i) && match ops[j]? with
 | some oj => !(oj.after.any (fun e => Region.binds md e && e.on == i) || oi.apart ops oj)
 | none => false
/-- No select in it; for each operation: what must have come up before it, and what may not come up behind it if it is taken first. -/
def rtab (md : Region.Mode) (ops : Array Oper) : Bool × List (List Nat × List Nat) := (Region.noSelect ops, (List.range ops.size).map fun i => match ops[i]? with
 | some o => (needsOf md o, clashOf md ops i o)
 | none => ([], []))
def readyAt (T : List (List Nat × List Nat)) (l : List Bool) (i : Nat) : Bool := !l.getD i true && match T[i]? with
 | some r => r.1.all (fun j => l.getD j false)
 | none => false
def readyT (T : List (List Nat × List Nat)) (l : List Bool) : List Nat := (List.range T.length).filter (readyAt T l)
def freeT (T : List (List Nat × List Nat)) (l : List Bool) (i : Nat) : Bool := match T[i]? with
 | some r => r.2.all (fun j => l.getD j true)
 | none => false
def closedT (T : List (List Nat × List Nat)) (l : List Bool) : Bool := (List.range T.length).all fun j => !l.getD j false || match T[j]? with
 | some r => r.1.all (fun k => l.getD k false)
 | none => true
def reachT (T : List (List Nat × List Nat)) (i : Nat) : Nat → Nat → Bool
 | 0, _ => false
 | fuel + 1, d => match T[d]? with
  | some r => r.1.any fun j => j == i || reachT T i fuel j
  | none => false
def lastT (T : List (List Nat × List Nat)) (l : List Bool) (ds : List Nat) (i : Nat) : Bool := ds.all fun d => l.getD d true || reachT T i T.length d
section
variable {md : Region.Mode} {ops : Array Oper} {T : Bool × List (List Nat × List Nat)} {l l' li lj lk : Array Bool} {ds : List Nat} {i j k : Nat}
theorem gd (l : Array Bool) (j : Nat) (b : Bool) : l.getD j b = l.toList.getD j b := by simp [Array.getD_eq_getD_getElem?, List.getD_eq_getElem?_getD]
theorem needs_all (o : Oper) (p : Nat → Bool) : o.after.all (fun e => !Region.binds md e || p e.on) = (needsOf md o).all p := by
 unfold needsOf
 rw [← Array.all_toList]
 induction o.after.toList with
 | nil => rfl
 | cons e r ih =>
  rw [List.all_cons, ih, List.filter_cons]
  cases h : Region.binds md e <;> simp
theorem needs_any (o : Oper) (p : Nat → Bool) : o.after.any (fun e => Region.binds md e && p e.on) = (needsOf md o).any p := by
 unfold needsOf
 rw [← Array.any_toList]
 induction o.after.toList with
 | nil => rfl
 | cons e r ih =>
  rw [List.any_cons, ih, List.filter_cons]
  cases h : Region.binds md e <;> simp
theorem rtab_length : (rtab md ops).2.length = ops.size := by simp [rtab]
theorem rtab_some {o : Oper} (h : ops[i]? = some o) : (rtab md ops).2[i]? = some (needsOf md o, clashOf md ops i o) := by
 have hi := (Array.getElem?_eq_some_iff.1 h).1
 unfold rtab
 rw [List.getElem?_map, List.getElem?_range hi, Option.map_some, h]
theorem rtab_none (h : ops[i]? = none) : (rtab md ops).2[i]? = none := by
 have hi : ops.size ≤ i := Array.getElem?_eq_none_iff.1 h
 exact List.getElem?_eq_none (by rw [rtab_length]; exact hi)
theorem readyAt_eq : readyAt (rtab md ops).2 l.toList i = (!l.getD i true && ((ops[i]?).map (·.after.all fun e => !Region.binds md e || l.getD e.on false)).getD false) := by
 unfold readyAt
 rw [gd]
 cases h : ops[i]? with
 | none => rw [rtab_none h]; rfl
 | some o =>
  rw [rtab_some h]
  simp only [Option.map_some, Option.getD_some]
  rw [← needs_all]
  simp only [gd]
theorem ready_eq : Region.ready md ops l = readyT (rtab md ops).2 l.toList := by
 unfold Region.ready readyT
 rw [rtab_length]
 refine List.filter_congr (fun i _ => ?_)
 rw [readyAt_eq]
theorem free_eq : Region.free md ops l i = freeT (rtab md ops).2 l.toList i := by
 unfold Region.free freeT
 cases h : ops[i]? with
 | none => rw [rtab_none h]
 | some oi =>
  rw [rtab_some h]
  simp only [clashOf]
  rw [List.all_filter]
  congr 1
  funext j
  rw [gd]
  cases hj : ops[j]? with
  | none => cases (j == i) <;> cases (l.toList.getD j true) <;> simp
  | some oj =>
   cases (j == i) <;> cases (l.toList.getD j true) <;> cases (oj.after.any (fun e => Region.binds md e && e.on == i) || oi.apart ops oj) <;> simp_all
theorem closed_eq : Region.closedB md ops l = closedT (rtab md ops).2 l.toList := by
 unfold Region.closedB closedT
 rw [rtab_length]
 congr 1
 funext j
 rw [gd]
 cases h : ops[j]? with
 | none => rw [rtab_none h]
 | some o =>
  rw [rtab_some h]
  simp only
  rw [← needs_all]
  simp only [gd]
theorem reach_eq : ∀ (fuel d : Nat), Region.reachB md ops i fuel d = reachT (rtab md ops).2 i fuel d
 | 0, _ => rfl
 | fuel + 1, d => by
  unfold Region.reachB reachT
  cases h : ops[d]? with
  | none => rw [rtab_none h]
  | some o =>
   rw [rtab_some h]
   simp only
   rw [← needs_any]
   congr 1
   funext e
   rw [reach_eq fuel]
theorem last_eq : Region.lastB md ops l ds i = lastT (rtab md ops).2 l.toList ds i := by
 unfold Region.lastB lastT
 rw [rtab_length]
 congr 1
 funext d
 rw [gd, reach_eq]
theorem readyAt_mem (h : readyAt T.2 l.toList i = true) (hT : rtab md ops = T) : (Region.ready md ops l).contains i = true := by
 subst hT
 rw [ready_eq]
 unfold readyT
 rw [List.contains_iff_mem, List.mem_filter, List.mem_range]
 refine ⟨?_, h⟩
 unfold readyAt at h
 rw [Bool.and_eq_true] at h
 cases hq : (rtab md ops).2[i]? with
 | none => rw [hq] at h; simp at h
 | some r => exact (List.getElem?_eq_some_iff.1 hq).1
theorem set_of (h : (l.toList.set i true == l'.toList) = true) : (l.setIfInBounds i true == l') = true := by
 rw [beq_iff_eq] at h ⊢
 apply Array.ext'
 rw [Array.toList_setIfInBounds]
 exact h
def anyT (T : Bool × List (List Nat × List Nat)) (l l' : List Bool) (i : Nat) : Bool := T.1 && freeT T.2 l i && readyAt T.2 l i && (l.set i true == l')
/-- pure_'s condition out of the table. -/
theorem any_of (hT : rtab md ops = T) (h : anyT T l.toList l'.toList i = true) : anyB md ops l l' i = true := by
 simp only [anyT, Bool.and_eq_true] at h
 obtain ⟨⟨⟨h1, h2⟩, h3⟩, h4⟩ := h
 have h5 := readyAt_mem h3 hT
 have h6 := set_of h4
 subst hT
 simp only [anyB, Bool.and_eq_true]
 exact ⟨⟨⟨h1, by rw [free_eq]; exact h2⟩, h5⟩, h6⟩
def takeT (T : Bool × List (List Nat × List Nat)) (ds : List Nat) (l l' : List Bool) (i : Nat) : Bool := T.1 && freeT T.2 l i && readyAt T.2 l i && closedT T.2 l && lastT T.2 l ds i && (l.set i true == l')
/-- take_'s. -/
theorem take_of (hT : rtab md ops = T) (h : takeT T ds l.toList l'.toList i = true) : takeB md ops ds l l' i = true := by
 simp only [takeT, Bool.and_eq_true] at h
 obtain ⟨⟨⟨⟨⟨h1, h2⟩, h3⟩, h4⟩, h5⟩, h6⟩ := h
 have h7 := readyAt_mem h3 hT
 have h8 := set_of h6
 subst hT
 simp only [takeB, Bool.and_eq_true]
 exact ⟨⟨⟨⟨⟨h1, by rw [free_eq]; exact h2⟩, h7⟩, by rw [closed_eq]; exact h4⟩, by rw [last_eq]; exact h5⟩, h8⟩
/-- one_'s and last_'s. -/
theorem one_of (hT : rtab md ops = T) (h : (readyT T.2 l.toList == [i] && l.toList.set i true == l'.toList) = true) : readyB md ops l l' i = true := by
 simp only [Bool.and_eq_true] at h
 obtain ⟨h1, h2⟩ := h
 subst hT
 simp only [readyB, Bool.and_eq_true]
 exact ⟨by rw [ready_eq]; exact h1, set_of h2⟩
/-- done_'s. -/
theorem done_of (hT : rtab md ops = T) (h : (readyT T.2 l.toList == []) = true) : (Region.ready md ops l == []) = true := by
 subst hT
 rw [ready_eq]
 exact h
/-- What d waits for, as_ bits: told in the table (B), checked in one pass: each bit is a need of d, or a bit of an earlier need's. -/
def upM (B : List Nat) (d : Nat) : List Nat → Nat
 | [] => 0
 | n :: r => (2 ^ n ||| (if n < d then B.getD n 0 else 0)) ||| upM B d r
def waitsOk (T : List (List Nat × List Nat)) (B : List Nat) : Bool := (List.range T.length).all fun d => match T[d]? with
 | some r => (B.getD d 0 ||| upM B d r.1) == upM B d r.1
 | none => false
theorem upM_bit {B : List Nat} {d i : Nat} : ∀ {ns : List Nat}, (upM B d ns).testBit i = true → ∃ n ∈ ns, n = i ∨ (n < d ∧ (B.getD n 0).testBit i = true)
 | [], h => by simp [upM] at h
 | n :: r, h => by
  unfold upM at h
  rw [Nat.testBit_or, Nat.testBit_or, Bool.or_eq_true, Bool.or_eq_true] at h
  rcases h with (h | h) | h
  ·rw [Nat.testBit_two_pow] at h
   exact ⟨n, List.mem_cons_self, .inl (by simpa using h)⟩
  ·by_cases hn : n < d
   ·rw [if_pos hn] at h
    exact ⟨n, List.mem_cons_self, .inr ⟨hn, h⟩⟩
   rw [if_neg hn] at h
   simp at h
  obtain ⟨m, hm, h2⟩ := upM_bit h
  exact ⟨m, List.mem_cons_of_mem _ hm, h2⟩
theorem reach_bit {T : List (List Nat × List Nat)} {B : List Nat} (hB : waitsOk T B = true) : ∀ (fuel d : Nat), d < fuel → d < T.length → (B.getD d 0).testBit i = true → reachT T i fuel d = true
 | 0, d, h, _, _ => by omega
 | fuel + 1, d, h, hd, hb => by
  have h1 := List.all_eq_true.1 hB d (List.mem_range.2 hd)
  cases hr : T[d]? with
  | none => rw [hr] at h1; simp at h1
  | some r =>
   rw [hr] at h1
   simp only [beq_iff_eq] at h1
   have h2 : (upM B d r.1).testBit i = true := by rw [← h1, Nat.testBit_or, hb, Bool.true_or]
   obtain ⟨n, hn, h3⟩ := upM_bit h2
   unfold reachT
   rw [hr]
   simp only
   rw [List.any_eq_true]
   refine ⟨n, hn, ?_⟩
   rcases h3 with rfl | ⟨h4, h5⟩
   ·simp
   rw [reach_bit hB fuel n (by omega) (by omega) h5, Bool.or_true]
def lastW (T : List (List Nat × List Nat)) (B : List Nat) (l : List Bool) (ds : List Nat) (i : Nat) : Bool := ds.all fun d => l.getD d true || (decide (d < T.length) && (B.getD d 0).testBit i)
def takeW (T : Bool × List (List Nat × List Nat)) (B : List Nat) (ds : List Nat) (l l' : List Bool) (i : Nat) : Bool := T.1 && freeT T.2 l i && readyAt T.2 l i && closedT T.2 l && lastW T.2 B l ds i && (l.set i true == l')
/-- take_'s, by the bits. -/
theorem take_ofW {B : List Nat} (hT : rtab md ops = T) (hB : waitsOk T.2 B = true) (h : takeW T B ds l.toList l'.toList i = true) : takeB md ops ds l l' i = true := by
 refine take_of hT ?_
 simp only [takeW, takeT, Bool.and_eq_true] at h ⊢
 obtain ⟨⟨⟨⟨⟨h1, h2⟩, h3⟩, h4⟩, h5⟩, h6⟩ := h
 refine ⟨⟨⟨⟨⟨h1, h2⟩, h3⟩, h4⟩, ?_⟩, h6⟩
 unfold lastW at h5
 unfold lastT
 rw [List.all_eq_true] at h5 ⊢
 intro d hd
 have h7 := h5 d hd
 rw [Bool.or_eq_true, Bool.and_eq_true, decide_eq_true_eq] at h7
 rcases h7 with h7 | ⟨h8, h9⟩
 ·rw [h7, Bool.true_or]
 rw [reach_bit hB _ d h8 h8 h9, Bool.or_true]
theorem with_tabW {P : Program} {Q : Exit → Act → World → Prop} {S : World → Prop} {n : Nat} {a : Act} {w : World} {B : List Nat} (hT : rtab md ops = T) (hB : waitsOk T.2 B = true) (h : Aside0 (rtab md ops = T) → Aside0 (waitsOk T.2 B = true) → wpAnyLast P md ops Q S ds n l a w) : wpAnyLast P md ops Q S ds n l a w := h ⟨hT⟩ ⟨hB⟩
end
/-- The operations of a region, by its number. -/
def opsIn : Code → Nat → Option (Array Oper)
 | .region id ops _, k => if id == k then some ops else none
 | .seq a b, k => match opsIn a k with
  | some o => some o
  | none => opsIn b k
 | .cond _ a b, k => match opsIn a k with
  | some o => some o
  | none => opsIn b k
 | .block _ c, k => opsIn c k
 | .loop c, k => opsIn c k
 | .scope c, k => opsIn c k
 | .rangeFunc _ _ a b, k => match opsIn a k with
  | some o => some o
  | none => opsIn b k
 | _, _ => none
def opsOf (f : Func) (k : Nat) : Array Oper := ((f.body.bind fun c => opsIn c k)).getD #[]
end Go.Proofs.YtnajijaachgipaaDoorW.PrintLast
end
section
namespace Go.Proofs.YtnajijaachgipaaDoorW.PrintLast
section
variable {P : Program} {ops : Array Oper} {Q : Exit → Act → World → Prop} {md : Region.Mode} {S : World → Prop} {ds : List Nat} {T : Bool × List (List Nat × List Nat)}
end
end Go.Proofs.YtnajijaachgipaaDoorW.PrintLast
end
section
namespace Go.Proofs.YtnajijaachgipaaDoorW.PrintWords
open Go.RowKit
namespace Kd
section
variable {α : Type} {d : Kd α} {W : World} {g n : Nat} {S ok : Nat → Prop} {A : Option Addr} {ad : Addr} {xs : List α}
end
end Kd
end Go.Proofs.YtnajijaachgipaaDoorW.PrintWords
end
section
namespace Go.Proofs.YtnajijaachgipaaDoorW.PrintWords
open Go.RowKit
section
variable {w w' u : World} {m B g : Nat} {o : Obj} {row : Option Nat} {S : Nat → Prop} {a : Addr} {v : Value}
end
namespace Kd
section
variable {α : Type} {d : Kd α} {e base n m : Nat} {ok : Nat → Prop} {w w' : World} {v : Value} {A : Option Addr} {xs : List α}
end
end Kd
end Go.Proofs.YtnajijaachgipaaDoorW.PrintWords
end
section
namespace Go.Proofs.YtnajijaachgipaaDoorW.PrintWords
open Go.RowKit
section
variable {P : Program} {d : Nat} {xs ys : Array Value} {f : Field} {fs : List Field} {a b : Value} {r s : Bool} {w : World}
end
end Go.Proofs.YtnajijaachgipaaDoorW.PrintWords
end
section
namespace Go.Proofs.YtnajijaachgipaaDoorW.PrintWords
/-- One cell an element. -/
theorem Reps.one {α : Type} {R : α → List Value → Prop} {ps : List α} {cs : List Value} {p : α} {v : Value} (hp : R p [v]) (h : Reps R 1 ps cs) : Reps R 1 (p :: ps) (v :: cs) := by
 refine ⟨by simp [h.1], fun j q hq => ?_⟩
 cases j with
 | zero =>
  simp only [List.getElem?_cons_zero, Option.some.injEq] at hq
  subst hq
  simpa using hp
 | succ j =>
  simp only [List.getElem?_cons_succ] at hq
  have h1 := h.2 j q hq
  simpa [Nat.mul_one] using h1
/-- More cells an element: told apart by the cells' list. -/
theorem Reps.front {α : Type} {R : α → List Value → Prop} {size : Nat} {ps : List α} {cs c all : List Value} {p : α} (hp : R p c) (hc : c.length = size) (h : Reps R size ps cs) (ha : c ++ cs = all) : Reps R size (p :: ps) all := by
 subst ha
 refine ⟨by rw [List.length_append, hc, h.1, List.length_cons, Nat.succ_mul, Nat.add_comm], fun j q hq => ?_⟩
 cases j with
 | zero =>
  simp only [List.getElem?_cons_zero, Option.some.injEq] at hq
  subst hq
  rw [Nat.zero_mul, List.drop_zero, List.take_append_of_le_length (by omega), List.take_of_length_le (by omega)]
  exact hp
 | succ j =>
  simp only [List.getElem?_cons_succ] at hq
  have h1 := h.2 j q hq
  rw [Nat.succ_mul, List.drop_append, List.drop_of_length_le (by rw [hc]; exact Nat.le_add_left _ _), List.nil_append, hc, Nat.add_sub_cancel]
  exact h1
theorem Reps.c2 {α : Type} {R : α → List Value → Prop} {ps : List α} {cs : List Value} {p : α} {va vb : Value} (hp : R p [va, vb]) (h : Reps R 2 ps cs) : Reps R 2 (p :: ps) (va :: vb :: cs) := Reps.front hp rfl h rfl
theorem Reps.c3 {α : Type} {R : α → List Value → Prop} {ps : List α} {cs : List Value} {p : α} {va vb vc : Value} (hp : R p [va, vb, vc]) (h : Reps R 3 ps cs) : Reps R 3 (p :: ps) (va :: vb :: vc :: cs) := Reps.front hp rfl h rfl
theorem Reps.c4 {α : Type} {R : α → List Value → Prop} {ps : List α} {cs : List Value} {p : α} {va vb vc vd : Value} (hp : R p [va, vb, vc, vd]) (h : Reps R 4 ps cs) : Reps R 4 (p :: ps) (va :: vb :: vc :: vd :: cs) := Reps.front hp rfl h rfl
theorem Reps.c5 {α : Type} {R : α → List Value → Prop} {ps : List α} {cs : List Value} {p : α} {va vb vc vd ve : Value} (hp : R p [va, vb, vc, vd, ve]) (h : Reps R 5 ps cs) : Reps R 5 (p :: ps) (va :: vb :: vc :: vd :: ve :: cs) := Reps.front hp rfl h rfl
theorem Reps.c6 {α : Type} {R : α → List Value → Prop} {ps : List α} {cs : List Value} {p : α} {va vb vc vd ve vf : Value} (hp : R p [va, vb, vc, vd, ve, vf]) (h : Reps R 6 ps cs) : Reps R 6 (p :: ps) (va :: vb :: vc :: vd :: ve :: vf :: cs) := Reps.front hp rfl h rfl
theorem Reps.c7 {α : Type} {R : α → List Value → Prop} {ps : List α} {cs : List Value} {p : α} {va vb vc vd ve vf vg : Value} (hp : R p [va, vb, vc, vd, ve, vf, vg]) (h : Reps R 7 ps cs) : Reps R 7 (p :: ps) (va :: vb :: vc :: vd :: ve :: vf :: vg :: cs) := Reps.front hp rfl h rfl
theorem Reps.c8 {α : Type} {R : α → List Value → Prop} {ps : List α} {cs : List Value} {p : α} {va vb vc vd ve vf vg vh : Value} (hp : R p [va, vb, vc, vd, ve, vf, vg, vh]) (h : Reps R 8 ps cs) : Reps R 8 (p :: ps) (va :: vb :: vc :: vd :: ve :: vf :: vg :: vh :: cs) := Reps.front hp rfl h rfl
theorem Reps.c9 {α : Type} {R : α → List Value → Prop} {ps : List α} {cs : List Value} {p : α} {va vb vc vd ve vf vg vh vi : Value} (hp : R p [va, vb, vc, vd, ve, vf, vg, vh, vi]) (h : Reps R 9 ps cs) : Reps R 9 (p :: ps) (va :: vb :: vc :: vd :: ve :: vf :: vg :: vh :: vi :: cs) := Reps.front hp rfl h rfl
theorem Reps.c10 {α : Type} {R : α → List Value → Prop} {ps : List α} {cs : List Value} {p : α} {va vb vc vd ve vf vg vh vi vj : Value} (hp : R p [va, vb, vc, vd, ve, vf, vg, vh, vi, vj]) (h : Reps R 10 ps cs) : Reps R 10 (p :: ps) (va :: vb :: vc :: vd :: ve :: vf :: vg :: vh :: vi :: vj :: cs) := Reps.front hp rfl h rfl
end Go.Proofs.YtnajijaachgipaaDoorW.PrintWords
end
section
namespace Go.Proofs.YtnajijaachgipaaDoorW.PrintLast
section
variable {P : Program} {ops : Array Oper} {Q : Exit → Act → World → Prop} {md : Region.Mode} {T : Bool × List (List Nat × List Nat)} {B : List Nat} {O : List Nat} {b : Nat → Bool} {i j n : Nat}
/-! The frame: what is listed has its destination filled. -/
end
end Go.Proofs.YtnajijaachgipaaDoorW.PrintLast
end
section
namespace Go.Proofs.YtnajijaachgipaaDoorW.PrintWords
open Go.RowKit
end Go.Proofs.YtnajijaachgipaaDoorW.PrintWords
namespace Go.Proofs.YtnajijaachgipaaDoorW.PrintLast
section
variable {ops : Array Oper} {a : Act} {o og : Oper} {g : Nat} {t : Tmp} {u : Bool}
end
end Go.Proofs.YtnajijaachgipaaDoorW.PrintLast
end
section
namespace Go.Proofs.YtnajijaachgipaaDoorW.PrintWords
open Go.RowKit
section
variable {P : Program} {ops : Array Oper} {rest : List Oper} {o : Oper} {a : Act} {Q : Exit → Act → World → Prop} {W : World}
/-- The gate takes the guard off (hw: 'by rfl', 'by kernel_rfl': the guard's slot holds what is wanted). -/
theorem gate_guard (hw : Region.wanted o (yielded ops a.tmps) = true) (h : wpList P ops Q ({ o with guard := none } :: rest) a W) : wpList P ops Q (o :: rest) a W := by
 have h1 : Region.wanted { o with guard := none } (yielded ops a.tmps) = true := rfl
 unfold wpList at h ⊢
 rw [if_pos h1] at h
 rw [if_pos hw]
 exact h
end
end Go.Proofs.YtnajijaachgipaaDoorW.PrintWords
end
section
namespace Go.Proofs.YtnajijaachgipaaDoorW.PrintWords
open Go.RowKit
section
variable {P : Program}
variable {ops : Array Oper} {rest : List Oper} {o : Oper} {a : Act} {Q : Exit → Act → World → Prop}
end
/-- An error's value: nil, or some interface value. -/
def errX (et : Nat) (ep : Value) : Option Int → Value
 | none => .nilIface
 | some _ => .iface et ep
theorem errX_none (et : Nat) (ep : Value) : errX et ep none = .nilIface := rfl
theorem errX_some (et : Nat) (ep : Value) (c : Int) : errX et ep (some c) = .iface et ep := rfl
/-- A cell that holds an error that is not nil. -/
def Kd.errk : Kd Unit where
 sz := 1
 E := []
 K := fun _ _ cs => ∃ (et : Nat) (ep : Value), cs = [.iface et ep]
 M := fun _ _ _ _ cs => ∃ (et : Nat) (ep : Value), cs = [.iface et ep]
 K_len := fun ⟨_, _, h⟩ => by rw [h]; rfl
 K_one := fun ⟨_, _, h⟩ u hu => by
  rw [h] at hu
  rw [List.mem_singleton.1 hu]
  rfl
 K_below := fun _ h => h
 K_of_M := fun h => h
 M_mono := fun _ h => h
 M_bound := fun h => h
 M_move := fun _ h => h
 M_lower := fun _ h => h
theorem errk_add (g : Nat) : (⟨g, 0, none⟩ : Addr).add 0 = ⟨g, 0, none⟩ := by
 unfold Addr.add
 split <;> simp_all
theorem errk_cell {w : World} {g : Nat} (h : Kd.C Kd.errk w (some ⟨g, 0, none⟩) 1 [()]) : ∃ (et : Nat) (ep : Value), w.cell? ⟨g, 0, none⟩ = some (.iface et ep) := by
 obtain ⟨_, _, hc⟩ := h
 obtain ⟨b, hb, hx⟩ := hc (by decide)
 obtain rfl := Option.some.inj hb
 obtain ⟨cs, hl, ⟨et, ep, rfl⟩, hr⟩ := hx 0 () rfl
 have := hr 0 _ rfl
 exact ⟨et, ep, by simpa [errk_add] using this⟩
theorem errk_of {w : World} {g : Nat} {et : Nat} {ep : Value} (h : w.cell? ⟨g, 0, none⟩ = some (.iface et ep)) : Kd.C Kd.errk w (some ⟨g, 0, none⟩) 1 [()] := by
 refine ⟨rfl, by decide, fun _ => ⟨_, rfl, fun j x hj => ?_⟩⟩
 rcases j with _ | j
 ·refine ⟨[.iface et ep], rfl, ⟨et, ep, rfl⟩, fun i u hu => ?_⟩
  rcases i with _ | i
  ·simp at hu; subst hu; simpa [errk_add] using h
  simp at hu
 simp at hj
end Go.Proofs.YtnajijaachgipaaDoorW.PrintWords
end
section
namespace Go.Proofs.YtnajijaachgipaaDoor.PT
open Go.RowKit Go.Proofs.YtnajijaachgipaaDoorW.PrintWords Go.Proofs.YtnajijaachgipaaDoorW.PrintLast Go.Proofs.YtnajijaachgipaaDoorW.PrintMore
attribute [local go_sem] max2_int min2_int max_two min_two max_three min_three max_four min_four   -- for this text's walks alone
set_option linter.unusedVariables false
set_option linter.unusedSimpArgs false
def errW : Option Int → Value
 | none => .nilIface
 | some c => .iface 0 (.int .i64 c)
theorem errW_none : errW none = .nilIface := rfl
theorem errW_some (c : Int) : errW (some c) = .iface 0 (.int .i64 c) := rfl
/-! #### struct type 30, nested in itself -/
structure S30 where
 f0 : Int
 f1 : ByteArray
 f2 : (List ByteArray)
 f3 : Bool
 f4 : (List S30)
/-! #### struct type 38, nested in itself -/
structure S38 where
 f0 : Int
 f1 : ByteArray
 f2 : (List ByteArray)
 f3 : (List S38)
def z38 : S38 := ⟨(0 : Int), (⟨#[]⟩ : ByteArray), ([] : List ByteArray), ([] : List S38)⟩
def F38 (d : Kd S38) : Kd S38 := Kd.iso (Kd.pair (Kd.int .i64) (Kd.pair Kd.string (Kd.pair (Kd.slice 9 Kd.string) (Kd.slice 38 d)))) (fun x : S38 => (x.f0, x.f1, x.f2, x.f3))
theorem mono38 : Kd.Mono F38 := Kd.mono_iso _ (Kd.mono_pair (Kd.mono_const _) (Kd.mono_pair (Kd.mono_const _) (Kd.mono_pair (Kd.mono_const _) (Kd.mono_slice 38 Kd.mono_id))))
theorem sub38 : Kd.Sub F38 [9, 38] := Kd.sub_iso _ (Kd.sub_pair (Kd.sub_const _ (by decide)) (Kd.sub_pair (Kd.sub_const _ (by decide)) (Kd.sub_pair (Kd.sub_const _ (by decide)) (Kd.sub_slice 38 (by decide) Kd.sub_id))))
theorem sz38 : ∀ n, (Kd.upto F38 4 [9, 38] n).sz = 4 := Kd.upto_sz (fun _ => rfl)
def k38 : Kd S38 := Kd.fix F38 4 [9, 38] sz38 (Kd.upto_E sub38)
theorem k38_open {w : World} {x : S38} {cs : List Value} (h : k38.K w x cs) : ∃ A2 c2 A3 c3, cs = [.int .i64 x.f0, .string x.f1, .slice A2 x.f2.length c2, .slice A3 x.f3.length c3] ∧ x.f2.length ≤ c2 ∧ Kd.string.C w A2 x.f2.length x.f2 ∧ x.f3.length ≤ c3 ∧ k38.C w A3 x.f3.length x.f3 := by
 obtain ⟨n, h⟩ := h
 cases n with
 | zero => exact h.elim
 | succ n =>
  obtain ⟨_, _, rfl, rfl, ⟨_, _, rfl, rfl, ⟨_, _, rfl, ⟨A2, c2, rfl, l2, g2⟩, ⟨A3, c3, rfl, l3, g3⟩⟩⟩⟩ := h
  exact ⟨A2, c2, A3, c3, rfl, l2, g2, l3, Kd.fix_C g3⟩
theorem k38_mkM (w : World) (base : Nat) (ok : Nat → Prop) (x : S38) {v2 : Value} (g2 : Kd.string.R 9 w base ok v2 x.f2) {v3 : Value} (g3 : k38.R 38 w base ok v3 x.f3) : k38.M w base ok x [.int .i64 x.f0, .string x.f1, v2, v3] := by
 obtain ⟨n3, q3⟩ := Kd.fix_R_back mono38 g3
 have r3 := Kd.upto_R_le mono38 sz38 (show n3 ≤ n3 by omega) q3
 exact ⟨n3 + 1, ⟨[.int .i64 x.f0], [.string x.f1, v2, v3], rfl, rfl, ⟨[.string x.f1], [v2, v3], rfl, rfl, ⟨[v2], [v3], rfl, ⟨v2, rfl, g2⟩, ⟨v3, rfl, r3⟩⟩⟩⟩⟩
def rd_T38 (xs : List S38) (i : Int) : S38 := xs.getD i.toNat z38
theorem at_T38 {w : World} {A : Option Addr} {n : Nat} {xs : List S38} (h : Kd.C k38 w A n xs) (i : Int) (h0 : 0 ≤ i) (h1 : i < n) : ∃ ad A2 c2 A3 c3, A = some ad ∧ w.cell? (ad.add (i.toNat * 4)) = some (.int .i64 (rd_T38 xs i).f0) ∧ w.cell? ⟨(ad.add (i.toNat * 4)).block, (ad.add (i.toNat * 4)).off + 1, none⟩ = some (.string (rd_T38 xs i).f1) ∧ w.cell? ⟨(ad.add (i.toNat * 4)).block, (ad.add (i.toNat * 4)).off + 2, none⟩ = some (.slice A2 (rd_T38 xs i).f2.length c2) ∧ w.cell? ⟨(ad.add (i.toNat * 4)).block, (ad.add (i.toNat * 4)).off + 3, none⟩ = some (.slice A3 (rd_T38 xs i).f3.length c3) ∧ (rd_T38 xs i).f2.length ≤ c2 ∧ Kd.string.C w A2 (rd_T38 xs i).f2.length (rd_T38 xs i).f2 ∧ (rd_T38 xs i).f3.length ≤ c3 ∧ k38.C w A3 (rd_T38 xs i).f3.length (rd_T38 xs i).f3 := by
 obtain ⟨ad, c, e, _, hK, hc0⟩ := Kd.C_get h z38 i h0 h1
 have hc : ∀ j u, c[j]? = some u → w.cell? (ad.add (i.toNat * 4 + j)) = some u := hc0
 obtain ⟨A2, c2, A3, c3, rfl, l2, g2, l3, g3⟩ := k38_open hK
 exact ⟨ad, A2, c2, A3, c3, e, hc 0 _ rfl, by rw [← add_field _ _ 1 (by omega)]; exact hc 1 _ rfl, by rw [← add_field _ _ 2 (by omega)]; exact hc 2 _ rfl, by rw [← add_field _ _ 3 (by omega)]; exact hc 3 _ rfl, l2, g2, l3, g3⟩
/-! #### struct type 130 -/
structure S130 where
 f0 : Int
 f1 : Int
/-! #### struct type 102, nested in itself -/
structure S102 where
 f0 : Int
 f1 : Int
 f2 : Int
 f3 : (List S130)
 f4 : (List S102)
end Go.Proofs.YtnajijaachgipaaDoor.PT
end
section
namespace Go.Proofs.YtnajijaachgipaaDoor.PT
open Go.RowKit Go.Proofs.YtnajijaachgipaaDoorW.PrintWords Go.Proofs.YtnajijaachgipaaDoorW.PrintLast Go.Proofs.YtnajijaachgipaaDoorW.PrintMore
attribute [local go_sem] max2_int min2_int max_two min_two max_three min_three max_four min_four   -- for this text's walks alone
set_option linter.unusedVariables false
set_option linter.unusedSimpArgs false
def tabG0 : List Unit := [()]
end Go.Proofs.YtnajijaachgipaaDoor.PT
end
section
namespace Go.Proofs.YtnajijaachgipaaDoor.PT
open Go.RowKit Go.Proofs.YtnajijaachgipaaDoorW.PrintWords Go.Proofs.YtnajijaachgipaaDoorW.PrintLast Go.Proofs.YtnajijaachgipaaDoorW.PrintMore
attribute [local go_sem] max2_int min2_int max_two min_two max_three min_three max_four min_four   -- for this text's walks alone
set_option linter.unusedVariables false
set_option linter.unusedSimpArgs false
def tabG1 : List Unit := [()]
end Go.Proofs.YtnajijaachgipaaDoor.PT
end
section
namespace Go.Proofs.YtnajijaachgipaaDoor.PT
open Go.RowKit Go.Proofs.YtnajijaachgipaaDoorW.PrintWords Go.Proofs.YtnajijaachgipaaDoorW.PrintLast Go.Proofs.YtnajijaachgipaaDoorW.PrintMore
attribute [local go_sem] max2_int min2_int max_two min_two max_three min_three max_four min_four   -- for this text's walks alone
set_option linter.unusedVariables false
set_option linter.unusedSimpArgs false
/-! ### spec_Same: function 18 -/
mutual
def spec_Same.j0 : Nat → Bool → Int → ByteArray → List ByteArray → List (S38) → Int → ByteArray → List ByteArray → List (S38) → Option (Bool)
 | 0, _, _, _, _, _, _, _, _, _ => none
 | k + 1, x36, x280000, x280001, x280002, x280003, x281000, x281001, x281002, x281003 => if x36 = true then (some false) else (spec_Same.l0 k 0 x280000 x280001 x280002 x280003 x281000 x281001 x281002 x281003)
def spec_Same.l0 : Nat → Int → Int → ByteArray → List ByteArray → List (S38) → Int → ByteArray → List ByteArray → List (S38) → Option (Bool)
 | 0, _, _, _, _, _, _, _, _, _ => none
 | k + 1, x5, x280000, x280001, x280002, x280003, x281000, x281001, x281002, x281003 => if x5 < (x280002.length : Int) then (if 0 ≤ x5 then (if x5 < (x281002.length : Int) then (if (rdOf ByteArray.empty x280002 x5).toList = (rdOf ByteArray.empty x281002 x5).toList then (spec_Same.l0 k (wrap64 (x5 + 1)) x280000 x280001 x280002 x280003 x281000 x281001 x281002 x281003) else (some false)) else (none)) else (none)) else (spec_Same.l1 k 0 x280000 x280001 x280002 x280003 x281000 x281001 x281002 x281003)
def spec_Same.l1 : Nat → Int → Int → ByteArray → List ByteArray → List (S38) → Int → ByteArray → List ByteArray → List (S38) → Option (Bool)
 | 0, _, _, _, _, _, _, _, _, _ => none
 | k + 1, x6, x280000, x280001, x280002, x280003, x281000, x281001, x281002, x281003 => if x6 < (x280003.length : Int) then (if 0 ≤ x6 then (if x6 < (x281003.length : Int) then ((spec_Same.f k ((rd_T38 x280003 x6).f0) ((rd_T38 x280003 x6).f1) ((rd_T38 x280003 x6).f2) ((rd_T38 x280003 x6).f3) ((rd_T38 x281003 x6).f0) ((rd_T38 x281003 x6).f1) ((rd_T38 x281003 x6).f2) ((rd_T38 x281003 x6).f3)).bind fun t285 => (if t285 = true then (spec_Same.l1 k (wrap64 (x6 + 1)) x280000 x280001 x280002 x280003 x281000 x281001 x281002 x281003) else (some false))) else (none)) else (none)) else (some true)
def spec_Same.f : Nat → Int → ByteArray → List ByteArray → List (S38) → Int → ByteArray → List ByteArray → List (S38) → Option (Bool)
 | 0, _, _, _, _, _, _, _, _ => none
 | k + 1, a0_0, a0_1, l0_2, l0_3, a1_0, a1_1, l1_2, l1_3 => if a0_0 = a1_0 then (if a0_1.toList = a1_1.toList then (if (l0_2.length : Int) = (l1_2.length : Int) then (spec_Same.j0 k ((l0_3.length : Int) != (l1_3.length : Int)) a0_0 a0_1 l0_2 l0_3 a1_0 a1_1 l1_2 l1_3) else (spec_Same.j0 k true a0_0 a0_1 l0_2 l0_3 a1_0 a1_1 l1_2 l1_3)) else (spec_Same.j0 k true a0_0 a0_1 l0_2 l0_3 a1_0 a1_1 l1_2 l1_3)) else (spec_Same.j0 k true a0_0 a0_1 l0_2 l0_3 a1_0 a1_1 l1_2 l1_3)
end
theorem spec_Same.mono_l : ∀ k, (∀ y0 y1 y2 y3 y4 y5 y6 y7, LeO (spec_Same.f k y0 y1 y2 y3 y4 y5 y6 y7) (spec_Same.f (k + 1) y0 y1 y2 y3 y4 y5 y6 y7)) ∧ (∀ y0 y1 y2 y3 y4 y5 y6 y7 y8, LeO (spec_Same.j0 k y0 y1 y2 y3 y4 y5 y6 y7 y8) (spec_Same.j0 (k + 1) y0 y1 y2 y3 y4 y5 y6 y7 y8)) ∧ (∀ y0 y1 y2 y3 y4 y5 y6 y7 y8, LeO (spec_Same.l0 k y0 y1 y2 y3 y4 y5 y6 y7 y8) (spec_Same.l0 (k + 1) y0 y1 y2 y3 y4 y5 y6 y7 y8)) ∧ (∀ y0 y1 y2 y3 y4 y5 y6 y7 y8, LeO (spec_Same.l1 k y0 y1 y2 y3 y4 y5 y6 y7 y8) (spec_Same.l1 (k + 1) y0 y1 y2 y3 y4 y5 y6 y7 y8))
 | 0 => ⟨fun _ _ _ _ _ _ _ _ r h => by simp [spec_Same.f] at h, fun _ _ _ _ _ _ _ _ _ r h => by simp [spec_Same.j0] at h, fun _ _ _ _ _ _ _ _ _ r h => by simp [spec_Same.l0] at h, fun _ _ _ _ _ _ _ _ _ r h => by simp [spec_Same.l1] at h⟩
 | k + 1 => by
  obtain ⟨ih0, ih1, ih2, ih3⟩ := spec_Same.mono_l k
  refine ⟨?_, ?_, ?_, ?_⟩
  ·intro y0 y1 y2 y3 y4 y5 y6 y7
   unfold spec_Same.f
   repeat' first
   | (with_reducible exact ih0 _ _ _ _ _ _ _ _)
   | (with_reducible exact ih1 _ _ _ _ _ _ _ _ _)
   | (with_reducible exact ih2 _ _ _ _ _ _ _ _ _)
   | (with_reducible exact ih3 _ _ _ _ _ _ _ _ _)
   | (with_reducible exact LeO.refl _)
   | (with_reducible exact LeO.none _)
   | (with_reducible refine LeO.ite ?_ ?_)
   | (with_reducible refine LeO.bind ?_ (fun _ => ?_))
   | exact ih0 _ _ _ _ _ _ _ _
   | exact ih1 _ _ _ _ _ _ _ _ _
   | exact ih2 _ _ _ _ _ _ _ _ _
   | exact ih3 _ _ _ _ _ _ _ _ _
   | exact LeO.none _
   | refine LeO.ite ?_ ?_
   | refine LeO.bind ?_ (fun _ => ?_)
  ·intro y0 y1 y2 y3 y4 y5 y6 y7 y8
   unfold spec_Same.j0
   repeat' first
   | (with_reducible exact ih0 _ _ _ _ _ _ _ _)
   | (with_reducible exact ih1 _ _ _ _ _ _ _ _ _)
   | (with_reducible exact ih2 _ _ _ _ _ _ _ _ _)
   | (with_reducible exact ih3 _ _ _ _ _ _ _ _ _)
   | (with_reducible exact LeO.refl _)
   | (with_reducible exact LeO.none _)
   | (with_reducible refine LeO.ite ?_ ?_)
   | (with_reducible refine LeO.bind ?_ (fun _ => ?_))
   | exact ih0 _ _ _ _ _ _ _ _
   | exact ih1 _ _ _ _ _ _ _ _ _
   | exact ih2 _ _ _ _ _ _ _ _ _
   | exact ih3 _ _ _ _ _ _ _ _ _
   | exact LeO.none _
   | refine LeO.ite ?_ ?_
   | refine LeO.bind ?_ (fun _ => ?_)
  ·intro y0 y1 y2 y3 y4 y5 y6 y7 y8
   unfold spec_Same.l0
   repeat' first
   | (with_reducible exact ih0 _ _ _ _ _ _ _ _)
   | (with_reducible exact ih1 _ _ _ _ _ _ _ _ _)
   | (with_reducible exact ih2 _ _ _ _ _ _ _ _ _)
   | (with_reducible exact ih3 _ _ _ _ _ _ _ _ _)
   | (with_reducible exact LeO.refl _)
   | (with_reducible exact LeO.none _)
   | (with_reducible refine LeO.ite ?_ ?_)
   | (with_reducible refine LeO.bind ?_ (fun _ => ?_))
   | exact ih0 _ _ _ _ _ _ _ _
   | exact ih1 _ _ _ _ _ _ _ _ _
   | exact ih2 _ _ _ _ _ _ _ _ _
   | exact ih3 _ _ _ _ _ _ _ _ _
   | exact LeO.none _
   | refine LeO.ite ?_ ?_
   | refine LeO.bind ?_ (fun _ => ?_)
  intro y0 y1 y2 y3 y4 y5 y6 y7 y8
  unfold spec_Same.l1
  repeat' first
  | (with_reducible exact ih0 _ _ _ _ _ _ _ _)
  | (with_reducible exact ih1 _ _ _ _ _ _ _ _ _)
  | (with_reducible exact ih2 _ _ _ _ _ _ _ _ _)
  | (with_reducible exact ih3 _ _ _ _ _ _ _ _ _)
  | (with_reducible exact LeO.refl _)
  | (with_reducible exact LeO.none _)
  | (with_reducible refine LeO.ite ?_ ?_)
  | (with_reducible refine LeO.bind ?_ (fun _ => ?_))
  | exact ih0 _ _ _ _ _ _ _ _
  | exact ih1 _ _ _ _ _ _ _ _ _
  | exact ih2 _ _ _ _ _ _ _ _ _
  | exact ih3 _ _ _ _ _ _ _ _ _
  | exact LeO.none _
  | refine LeO.ite ?_ ?_
  | refine LeO.bind ?_ (fun _ => ?_)
theorem spec_Same.mono : ∀ a0 a1 a2 a3 a4 a5 a6 a7 k, LeO (spec_Same.f k a0 a1 a2 a3 a4 a5 a6 a7) (spec_Same.f (k + 1) a0 a1 a2 a3 a4 a5 a6 a7) := by
 intro a0 a1 a2 a3 a4 a5 a6 a7 k
 obtain ⟨ih0, ih1, ih2, ih3⟩ := spec_Same.mono_l k
 exact ih0 a0 a1 a2 a3 a4 a5 a6 a7
def spec_Same.T6 : Bool × List (List Nat × List Nat) := (true, [([], []), ([0], [0]), ([], []), ([1, 2], [1, 2]), ([3], [3]), ([], []), ([5], [5]), ([], []), ([6, 7], [6, 7]), ([8], [8]), ([4, 9], [4, 9])])
def spec_Same.B6 : List Nat := [0, 1, 0, 7, 15, 0, 32, 0, 224, 480, 1023]
theorem spec_Same.tab6 : rtab .any (opsOf Tryd.f18 6) = spec_Same.T6 := by kernel_rfl
theorem spec_Same.bits6 : waitsOk spec_Same.T6.2 spec_Same.B6 = true := by kernel_rfl
def spec_Same.T11 : Bool × List (List Nat × List Nat) := (true, [([], []), ([0], [0]), ([], []), ([1, 2], [1, 2]), ([3], [3]), ([], []), ([5], [5]), ([], []), ([6, 7], [6, 7]), ([8], [8]), ([4, 9], [4, 9]), ([10], [10])])
def spec_Same.B11 : List Nat := [0, 1, 0, 7, 15, 0, 32, 0, 224, 480, 1023, 2047]
theorem spec_Same.tab11 : rtab .any (opsOf Tryd.f18 11) = spec_Same.T11 := by kernel_rfl
theorem spec_Same.bits11 : waitsOk spec_Same.T11.2 spec_Same.B11 = true := by kernel_rfl
set_option maxHeartbeats 8000000 in
set_option maxRecDepth 100000 in
theorem spec_Same.calls (k : Nat) : ∀ (a0_0 : Int) (a0_1 : ByteArray) (A0_2 : Option Addr) (c0_2 : Nat) (l0_2 : List ByteArray) (A0_3 : Option Addr) (c0_3 : Nat) (l0_3 : List (S38)) (a1_0 : Int) (a1_1 : ByteArray) (A1_2 : Option Addr) (c1_2 : Nat) (l1_2 : List ByteArray) (A1_3 : Option Addr) (c1_3 : Nat) (l1_3 : List (S38)) (r : Bool) (w : World) (hr0_2 : Kd.C Kd.string w A0_2 l0_2.length l0_2) (hc0_2 : l0_2.length ≤ c0_2) (hr0_3 : Kd.C k38 w A0_3 l0_3.length l0_3) (hc0_3 : l0_3.length ≤ c0_3) (hr1_2 : Kd.C Kd.string w A1_2 l1_2.length l1_2) (hc1_2 : l1_2.length ≤ c1_2) (hr1_3 : Kd.C k38 w A1_3 l1_3.length l1_3) (hc1_3 : l1_3.length ≤ c1_3) (h : spec_Same.f k a0_0 a0_1 l0_2 l0_3 a1_0 a1_1 l1_2 l1_3 = some r),
  Calls Tryd.prog 18 #[.agg #[.int .i64 a0_0, .string a0_1, .slice A0_2 l0_2.length c0_2, .slice A0_3 l0_3.length c0_3], .agg #[.int .i64 a1_0, .string a1_1, .slice A1_2 l1_2.length c1_2, .slice A1_3 l1_3.length c1_3]] w fun e w' => e = .returned (.bool r) ∧ Below w.heap.size w w' := by
 induction k using Nat.strongRecOn with
 | _ k ih =>
 intro a0_0 a0_1 A0_2 c0_2 l0_2 A0_3 c0_3 l0_3 a1_0 a1_1 A1_2 c1_2 l1_2 A1_3 c1_3 l1_3 r w hr0_2 hc0_2 hr0_3 hc0_3 hr1_2 hc1_2 hr1_3 hc1_3 h
 cases k with
 | zero => exact absurd h (by simp [spec_Same.f])
 | succ k =>
 simp only [spec_Same.f] at h
 have hu38 := Tryd.underlying38
 have HR0_2 := Aside0.mk hr0_2
 have HC0_2 := Aside0.mk hc0_2
 clear hr0_2 hc0_2
 have HR0_3 := Aside0.mk hr0_3
 have HC0_3 := Aside0.mk hc0_3
 clear hr0_3 hc0_3
 have HR1_2 := Aside0.mk hr1_2
 have HC1_2 := Aside0.mk hc1_2
 clear hr1_2 hc1_2
 have HR1_3 := Aside0.mk hr1_3
 have HC1_3 := Aside0.mk hc1_3
 clear hr1_3 hc1_3
 have HB := Aside0.mk (Below.refl w.heap.size w)
 have H : (if a0_0 = a1_0 then (if a0_1.toList = a1_1.toList then (if (l0_2.length : Int) = (l1_2.length : Int) then (spec_Same.j0 k ((l0_3.length : Int) != (l1_3.length : Int)) a0_0 a0_1 l0_2 l0_3 a1_0 a1_1 l1_2 l1_3) else (spec_Same.j0 k true a0_0 a0_1 l0_2 l0_3 a1_0 a1_1 l1_2 l1_3)) else (spec_Same.j0 k true a0_0 a0_1 l0_2 l0_3 a1_0 a1_1 l1_2 l1_3)) else (spec_Same.j0 k true a0_0 a0_1 l0_2 l0_3 a1_0 a1_1 l1_2 l1_3)) = some r := h
 clear h
 have HC3 := Aside0.mk H
 clear H
 go_enter Tryd.func18, Tryd.ntmps18
 go_upto_region 1 with (first | ((with_reducible refine gate_dst (N := 2) rfl ?_); (try (refine gate_guard (by rfl) ?_; dsimp only)); refine box_event ?hg (N := 2) ?hd (cs := #[.int .i64 a0_0, .string a0_1, .slice A0_2 l0_2.length c0_2, .slice A0_3 l0_3.length c0_3]) (t := 38) ?hr ?_; (case hd => rfl); (case hg => rfl); (case hr => first | (go_simp; done) | (go_simp; rfl)); intro gb279 hg w4 hbox hb; have n0_ := Aside0.mk (below_step (by repeat (first | (with_reducible first | exact HB.out | apply below_alloc | apply pw_below_drewN | apply below_drew1) | exact HB.out)) hb); have n1_ := Aside0.mk (hbox); have n2_ := Aside0.mk ((by rw [hg]; exact (below_size (by repeat (first | (with_reducible first | exact HB.out | apply below_alloc | apply pw_below_drewN | apply below_drew1) | exact HB.out))) : w.heap.size ≤ gb279)); have n3_ := Aside0.mk ((by rw [hg]; exact (below_size (by repeat (first | (with_reducible first | exact HB.out | apply below_alloc | apply pw_below_drewN | apply below_drew1) | exact HB.out))) : w.heap.size ≤ gb279)); clear HB; have HB := n0_; have BK279 := n1_; have GW279 := n2_; have GE279 := n3_; clear n0_ n1_ n2_ n3_; clear hb hbox hg) | ((with_reducible refine gate_dst (N := 3) rfl ?_); (try (refine gate_guard (by rfl) ?_; dsimp only)); refine box_event ?hg (N := 3) ?hd (cs := #[.int .i64 a1_0, .string a1_1, .slice A1_2 l1_2.length c1_2, .slice A1_3 l1_3.length c1_3]) (t := 38) ?hr ?_; (case hd => rfl); (case hg => rfl); (case hr => first | (go_simp; done) | (go_simp; rfl)); intro gb280 hg w5 hbox hb; have n0_ := Aside0.mk (blk_below (g := gb279) (o := .cells #[.int .i64 a0_0, .string a0_1, .slice A0_2 l0_2.length c0_2, .slice A0_3 l0_3.length c0_3] 38 (0, 0)) (by (with_reducible repeat (first | refine blk_drewN ?_ _ | refine blk_drew ?_ | refine blk_alloc ?_ _)); exact BK279.out) hb); have n1_ := Aside0.mk (below_step (by repeat (first | (with_reducible first | exact HB.out | apply below_alloc | apply pw_below_drewN | apply below_drew1 | refine below_set ?_ GE279.out) | exact HB.out)) hb); have n2_ := Aside0.mk (hbox); have n3_ := Aside0.mk ((by rw [hg]; exact (below_size (by repeat (first | (with_reducible first | exact HB.out | apply below_alloc | apply pw_below_drewN | apply below_drew1 | refine below_set ?_ GE279.out) | exact HB.out))) : w.heap.size ≤ gb280)); have n4_ := Aside0.mk ((by rw [hg]; exact (below_size (by repeat (first | (with_reducible first | exact HB.out | apply below_alloc | apply pw_below_drewN | apply below_drew1 | refine below_set ?_ GE279.out) | exact HB.out))) : w.heap.size ≤ gb280)); have n5_ := Aside0.mk ((by rw [hg]; exact Nat.ne_of_lt (blk_lt (g := gb279) (o := .cells #[.int .i64 a0_0, .string a0_1, .slice A0_2 l0_2.length c0_2, .slice A0_3 l0_3.length c0_3] 38 (0, 0)) (by (with_reducible repeat (first | refine blk_drewN ?_ _ | refine blk_drew ?_ | refine blk_alloc ?_ _)); exact BK279.out)) : gb279 ≠ gb280)); have n6_ := Aside0.mk ((by rw [hg]; exact Nat.ne_of_gt (blk_lt (g := gb279) (o := .cells #[.int .i64 a0_0, .string a0_1, .slice A0_2 l0_2.length c0_2, .slice A0_3 l0_3.length c0_3] 38 (0, 0)) (by (with_reducible repeat (first | refine blk_drewN ?_ _ | refine blk_drew ?_ | refine blk_alloc ?_ _)); exact BK279.out)) : gb280 ≠ gb279)); clear BK279; clear HB; have BK279 := n0_; have HB := n1_; have BK280 := n2_; have GW280 := n3_; have GE280 := n4_; have NB279_280 := n5_; have NB280_279 := n6_; clear n0_ n1_ n2_ n3_ n4_ n5_ n6_; clear hb hbox hg))
 (try simp only [Act.put, List.setIfInBounds_toArray, List.set_cons_zero, List.set_cons_succ])
 go_cut [36] (fun v36 wc => ∃ (kq : Nat) (x36_2 : Bool), v36 = .bool x36_2 ∧ Aside0 (spec_Same.j0 kq x36_2 a0_0 a0_1 l0_2 l0_3 a1_0 a1_1 l1_2 l1_3 = some r) ∧ Aside0 (kq ≤ k) ∧ Aside0 (wc.heap[gb279]? = some (.cells #[.int .i64 a0_0, .string a0_1, (.slice A0_2 l0_2.length c0_2), (.slice A0_3 l0_3.length c0_3)] 38 (0, 0))) ∧ Aside0 (wc.heap[gb280]? = some (.cells #[.int .i64 a1_0, .string a1_1, (.slice A1_2 l1_2.length c1_2), (.slice A1_3 l1_3.length c1_3)] 38 (0, 0))) ∧ Aside0 (Below w.heap.size w wc))
 case first =>
  have H := HC3.out
  clear HC3
  by_cases c6 : a0_0 = a1_0
  ·rw [if_pos c6] at H
   have c6b0 : (a0_0 == a1_0) = true := beq_iff_eq.mpr c6
   have c6b1 : (a0_0 != a1_0) = false := bne_eq_false_iff_eq.mpr c6
   clear c6
   (first | rw [c6b0] | (simp only [i64_w, i32_w]; rw [c6b0]) | rw [c6b1] | skip)
   by_cases c7 : a0_1.toList = a1_1.toList
   ·rw [if_pos c7] at H
    have c7b0 : (a0_1.toList == a1_1.toList) = true := beq_iff_eq.mpr c7
    have c7b1 : (a0_1.toList != a1_1.toList) = false := bne_eq_false_iff_eq.mpr c7
    clear c7
    by_cases c8 : (l0_2.length : Int) = (l1_2.length : Int)
    ·rw [if_pos c8] at H
     have c8b0 : ((l0_2.length : Int) == (l1_2.length : Int)) = true := beq_iff_eq.mpr c8
     have c8b1 : ((l0_2.length : Int) != (l1_2.length : Int)) = false := bne_eq_false_iff_eq.mpr c8
     have c8b2 : decide (l0_2.length = l1_2.length) = true := decide_eq_true (by omega)
     clear c8
     have H' := Aside0.mk H
     clear H
     have hnb9 := NB279_280.out
     have hnc9 := NB280_279.out
     have hcz10_0 : w5.cell? ⟨gb279, 0, none⟩ = some (.int .i64 a0_0) := (blk_cell BK279.out 0).trans rfl
     have hcz10_1 : w5.cell? ⟨gb279, 1, none⟩ = some (.string a0_1) := (blk_cell BK279.out 1).trans rfl
     have hcz10_2 : w5.cell? ⟨gb279, 2, none⟩ = some (.slice A0_2 l0_2.length c0_2) := (blk_cell BK279.out 2).trans rfl
     have hcz10_3 : w5.cell? ⟨gb279, 3, none⟩ = some (.slice A0_3 l0_3.length c0_3) := (blk_cell BK279.out 3).trans rfl
     have hfz10_0 := blk_frozen BK279.out 0
     have hfz10_1 := blk_frozen BK279.out 1
     have hfz10_2 := blk_frozen BK279.out 2
     have hfz10_3 := blk_frozen BK279.out 3
     have hcz11_0 : w5.cell? ⟨gb280, 0, none⟩ = some (.int .i64 a1_0) := (blk_cell BK280.out 0).trans rfl
     have hcz11_1 : w5.cell? ⟨gb280, 1, none⟩ = some (.string a1_1) := (blk_cell BK280.out 1).trans rfl
     have hcz11_2 : w5.cell? ⟨gb280, 2, none⟩ = some (.slice A1_2 l1_2.length c1_2) := (blk_cell BK280.out 2).trans rfl
     have hcz11_3 : w5.cell? ⟨gb280, 3, none⟩ = some (.slice A1_3 l1_3.length c1_3) := (blk_cell BK280.out 3).trans rfl
     have hfz11_0 := blk_frozen BK280.out 0
     have hfz11_1 := blk_frozen BK280.out 1
     have hfz11_2 := blk_frozen BK280.out 2
     have hfz11_3 := blk_frozen BK280.out 3
     go_wp2
     go_meet
     case rel => exact ⟨_, (((l0_3.length : Int) != (l1_3.length : Int))), (by first | rfl | (simp; done) | (simp [*]; done)), H', ⟨by first | omega | exact Nat.le_refl _⟩, ⟨by (with_reducible repeat (first | refine blk_drewN ?_ _ | refine blk_drew ?_ | refine blk_alloc ?_ _)); exact BK279.out⟩, ⟨by (with_reducible repeat (first | refine blk_drewN ?_ _ | refine blk_drew ?_ | refine blk_alloc ?_ _)); exact BK280.out⟩, ⟨by repeat (first | (with_reducible first | exact HB.out | apply below_alloc | apply pw_below_drewN | apply below_drew1 | refine below_set ?_ GE279.out | refine below_set ?_ GE280.out) | exact HB.out)⟩⟩
    rw [if_neg c8] at H
    have c8b0 : ((l0_2.length : Int) == (l1_2.length : Int)) = false := beq_eq_false_iff_ne.mpr c8
    have c8b1 : ((l0_2.length : Int) != (l1_2.length : Int)) = true := bne_iff_ne.mpr c8
    have c8b2 : decide (l0_2.length = l1_2.length) = false := decide_eq_false (by omega)
    have H' := Aside0.mk H
    clear H
    have hnb12 := NB279_280.out
    have hnc12 := NB280_279.out
    have hcz13_0 : w5.cell? ⟨gb279, 0, none⟩ = some (.int .i64 a0_0) := (blk_cell BK279.out 0).trans rfl
    have hcz13_1 : w5.cell? ⟨gb279, 1, none⟩ = some (.string a0_1) := (blk_cell BK279.out 1).trans rfl
    have hcz13_2 : w5.cell? ⟨gb279, 2, none⟩ = some (.slice A0_2 l0_2.length c0_2) := (blk_cell BK279.out 2).trans rfl
    have hcz13_3 : w5.cell? ⟨gb279, 3, none⟩ = some (.slice A0_3 l0_3.length c0_3) := (blk_cell BK279.out 3).trans rfl
    have hfz13_0 := blk_frozen BK279.out 0
    have hfz13_1 := blk_frozen BK279.out 1
    have hfz13_2 := blk_frozen BK279.out 2
    have hfz13_3 := blk_frozen BK279.out 3
    have hcz14_0 : w5.cell? ⟨gb280, 0, none⟩ = some (.int .i64 a1_0) := (blk_cell BK280.out 0).trans rfl
    have hcz14_1 : w5.cell? ⟨gb280, 1, none⟩ = some (.string a1_1) := (blk_cell BK280.out 1).trans rfl
    have hcz14_2 : w5.cell? ⟨gb280, 2, none⟩ = some (.slice A1_2 l1_2.length c1_2) := (blk_cell BK280.out 2).trans rfl
    have hcz14_3 : w5.cell? ⟨gb280, 3, none⟩ = some (.slice A1_3 l1_3.length c1_3) := (blk_cell BK280.out 3).trans rfl
    have hfz14_0 := blk_frozen BK280.out 0
    have hfz14_1 := blk_frozen BK280.out 1
    have hfz14_2 := blk_frozen BK280.out 2
    have hfz14_3 := blk_frozen BK280.out 3
    go_wp2
    go_meet
    case rel => exact ⟨_, (true), (by first | rfl | (simp; done) | (simp [*]; done)), H', ⟨by first | omega | exact Nat.le_refl _⟩, ⟨by (with_reducible repeat (first | refine blk_drewN ?_ _ | refine blk_drew ?_ | refine blk_alloc ?_ _)); exact BK279.out⟩, ⟨by (with_reducible repeat (first | refine blk_drewN ?_ _ | refine blk_drew ?_ | refine blk_alloc ?_ _)); exact BK280.out⟩, ⟨by repeat (first | (with_reducible first | exact HB.out | apply below_alloc | apply pw_below_drewN | apply below_drew1 | refine below_set ?_ GE279.out | refine below_set ?_ GE280.out) | exact HB.out)⟩⟩
   rw [if_neg c7] at H
   have c7b0 : (a0_1.toList == a1_1.toList) = false := beq_eq_false_iff_ne.mpr c7
   have c7b1 : (a0_1.toList != a1_1.toList) = true := bne_iff_ne.mpr c7
   have H' := Aside0.mk H
   clear H
   have hnb15 := NB279_280.out
   have hnc15 := NB280_279.out
   have hcz16_0 : w5.cell? ⟨gb279, 0, none⟩ = some (.int .i64 a0_0) := (blk_cell BK279.out 0).trans rfl
   have hcz16_1 : w5.cell? ⟨gb279, 1, none⟩ = some (.string a0_1) := (blk_cell BK279.out 1).trans rfl
   have hcz16_2 : w5.cell? ⟨gb279, 2, none⟩ = some (.slice A0_2 l0_2.length c0_2) := (blk_cell BK279.out 2).trans rfl
   have hcz16_3 : w5.cell? ⟨gb279, 3, none⟩ = some (.slice A0_3 l0_3.length c0_3) := (blk_cell BK279.out 3).trans rfl
   have hfz16_0 := blk_frozen BK279.out 0
   have hfz16_1 := blk_frozen BK279.out 1
   have hfz16_2 := blk_frozen BK279.out 2
   have hfz16_3 := blk_frozen BK279.out 3
   have hcz17_0 : w5.cell? ⟨gb280, 0, none⟩ = some (.int .i64 a1_0) := (blk_cell BK280.out 0).trans rfl
   have hcz17_1 : w5.cell? ⟨gb280, 1, none⟩ = some (.string a1_1) := (blk_cell BK280.out 1).trans rfl
   have hcz17_2 : w5.cell? ⟨gb280, 2, none⟩ = some (.slice A1_2 l1_2.length c1_2) := (blk_cell BK280.out 2).trans rfl
   have hcz17_3 : w5.cell? ⟨gb280, 3, none⟩ = some (.slice A1_3 l1_3.length c1_3) := (blk_cell BK280.out 3).trans rfl
   have hfz17_0 := blk_frozen BK280.out 0
   have hfz17_1 := blk_frozen BK280.out 1
   have hfz17_2 := blk_frozen BK280.out 2
   have hfz17_3 := blk_frozen BK280.out 3
   go_wp2
   go_meet
   case rel => exact ⟨_, (true), (by first | rfl | (simp; done) | (simp [*]; done)), H', ⟨by first | omega | exact Nat.le_refl _⟩, ⟨by (with_reducible repeat (first | refine blk_drewN ?_ _ | refine blk_drew ?_ | refine blk_alloc ?_ _)); exact BK279.out⟩, ⟨by (with_reducible repeat (first | refine blk_drewN ?_ _ | refine blk_drew ?_ | refine blk_alloc ?_ _)); exact BK280.out⟩, ⟨by repeat (first | (with_reducible first | exact HB.out | apply below_alloc | apply pw_below_drewN | apply below_drew1 | refine below_set ?_ GE279.out | refine below_set ?_ GE280.out) | exact HB.out)⟩⟩
  rw [if_neg c6] at H
  have c6b0 : (a0_0 == a1_0) = false := beq_eq_false_iff_ne.mpr c6
  have c6b1 : (a0_0 != a1_0) = true := bne_iff_ne.mpr c6
  (first | rw [c6b0] | (simp only [i64_w, i32_w]; rw [c6b0]) | rw [c6b1] | skip)
  have H' := Aside0.mk H
  clear H
  have hnb18 := NB279_280.out
  have hnc18 := NB280_279.out
  have hcz19_0 : w5.cell? ⟨gb279, 0, none⟩ = some (.int .i64 a0_0) := (blk_cell BK279.out 0).trans rfl
  have hcz19_1 : w5.cell? ⟨gb279, 1, none⟩ = some (.string a0_1) := (blk_cell BK279.out 1).trans rfl
  have hcz19_2 : w5.cell? ⟨gb279, 2, none⟩ = some (.slice A0_2 l0_2.length c0_2) := (blk_cell BK279.out 2).trans rfl
  have hcz19_3 : w5.cell? ⟨gb279, 3, none⟩ = some (.slice A0_3 l0_3.length c0_3) := (blk_cell BK279.out 3).trans rfl
  have hfz19_0 := blk_frozen BK279.out 0
  have hfz19_1 := blk_frozen BK279.out 1
  have hfz19_2 := blk_frozen BK279.out 2
  have hfz19_3 := blk_frozen BK279.out 3
  have hcz20_0 : w5.cell? ⟨gb280, 0, none⟩ = some (.int .i64 a1_0) := (blk_cell BK280.out 0).trans rfl
  have hcz20_1 : w5.cell? ⟨gb280, 1, none⟩ = some (.string a1_1) := (blk_cell BK280.out 1).trans rfl
  have hcz20_2 : w5.cell? ⟨gb280, 2, none⟩ = some (.slice A1_2 l1_2.length c1_2) := (blk_cell BK280.out 2).trans rfl
  have hcz20_3 : w5.cell? ⟨gb280, 3, none⟩ = some (.slice A1_3 l1_3.length c1_3) := (blk_cell BK280.out 3).trans rfl
  have hfz20_0 := blk_frozen BK280.out 0
  have hfz20_1 := blk_frozen BK280.out 1
  have hfz20_2 := blk_frozen BK280.out 2
  have hfz20_3 := blk_frozen BK280.out 3
  go_wp2
  go_meet
  case rel => exact ⟨_, (true), (by first | rfl | (simp; done) | (simp [*]; done)), H', ⟨by first | omega | exact Nat.le_refl _⟩, ⟨by (with_reducible repeat (first | refine blk_drewN ?_ _ | refine blk_drew ?_ | refine blk_alloc ?_ _)); exact BK279.out⟩, ⟨by (with_reducible repeat (first | refine blk_drewN ?_ _ | refine blk_drew ?_ | refine blk_alloc ?_ _)); exact BK280.out⟩, ⟨by repeat (first | (with_reducible first | exact HB.out | apply below_alloc | apply pw_below_drewN | apply below_drew1 | refine below_set ?_ GE279.out | refine below_set ?_ GE280.out) | exact HB.out)⟩⟩
 case rest =>
  clear HC3
  try clear c1
  try clear p2
  try clear c6
  try clear c6b0
  try clear c6b1
  try clear c7
  try clear c7b0
  try clear c7b1
  try clear c8
  try clear c8b0
  try clear c8b1
  try clear c8b2
  try clear c9
  try clear c12
  try clear c15
  try clear c18
  try clear hcz10_0
  try clear hcz10_1
  try clear hcz10_2
  try clear hcz10_3
  try clear hcz11_0
  try clear hcz11_1
  try clear hcz11_2
  try clear hcz11_3
  try clear hcz13_0
  try clear hcz13_1
  try clear hcz13_2
  try clear hcz13_3
  try clear hcz14_0
  try clear hcz14_1
  try clear hcz14_2
  try clear hcz14_3
  try clear hcz16_0
  try clear hcz16_1
  try clear hcz16_2
  try clear hcz16_3
  try clear hcz17_0
  try clear hcz17_1
  try clear hcz17_2
  try clear hcz17_3
  try clear hcz19_0
  try clear hcz19_1
  try clear hcz19_2
  try clear hcz19_3
  try clear hcz20_0
  try clear hcz20_1
  try clear hcz20_2
  try clear hcz20_3
  try clear hfz10_0
  try clear hfz10_1
  try clear hfz10_2
  try clear hfz10_3
  try clear hfz11_0
  try clear hfz11_1
  try clear hfz11_2
  try clear hfz11_3
  try clear hfz13_0
  try clear hfz13_1
  try clear hfz13_2
  try clear hfz13_3
  try clear hfz14_0
  try clear hfz14_1
  try clear hfz14_2
  try clear hfz14_3
  try clear hfz16_0
  try clear hfz16_1
  try clear hfz16_2
  try clear hfz16_3
  try clear hfz17_0
  try clear hfz17_1
  try clear hfz17_2
  try clear hfz17_3
  try clear hfz19_0
  try clear hfz19_1
  try clear hfz19_2
  try clear hfz19_3
  try clear hfz20_0
  try clear hfz20_1
  try clear hfz20_2
  try clear hfz20_3
  obtain ⟨kq, x36_2, rfl, HA, HJ2, BK279, BK280, HB⟩ := hcut
  cases kq with
  | zero => exact absurd HA.out (by simp [spec_Same.j0])
  | succ kj2 =>
   have H := HA.out
   clear HA
   simp only [spec_Same.j0] at H
   by_cases c21 : x36_2 = true
   ·subst c21
    have H1 : (some false) = some r := by rw [if_pos rfl] at H; exact H
    clear H
    have H := H1
    clear H1
    obtain rfl := Option.some.inj H
    go_wp2
    go_ret
    exact ⟨by first | rfl | (simp [errW_none, errW_some] <;> rfl) | (simp [*, errW_none, errW_some] <;> rfl) | (simp [errW_none, errW_some] <;> exact ⟨rfl, rfl⟩) | (simp [*, errW_none, errW_some] <;> exact ⟨rfl, rfl⟩), by repeat (first | (with_reducible first | exact HB.out | apply below_alloc | apply pw_below_drewN | apply below_drew1 | refine below_set ?_ GE279.out | refine below_set ?_ GE280.out) | exact HB.out)⟩
   replace c21 := Bool.eq_false_iff.mpr c21
   subst c21
   have H1 : (spec_Same.l0 kj2 0 a0_0 a0_1 l0_2 l0_3 a1_0 a1_1 l1_2 l1_3) = some r := by rw [if_neg (show ¬ (false = true) by decide)] at H; exact H
   clear H
   have H := H1
   clear H1
   have H' := Aside0.mk H
   clear H
   go_wp2
   try simp only [Act.put, List.setIfInBounds_toArray, List.set_cons_succ, List.set_cons_zero]
   go_loopg [5] kj2 (fun kq v5 w' => ∃ (x5_2 : Int), v5 = .int .i64 x5_2 ∧ Aside0 (spec_Same.l0 kq x5_2 a0_0 a0_1 l0_2 l0_3 a1_0 a1_1 l1_2 l1_3 = some r) ∧ Aside0 (kq ≤ kj2) ∧ Aside0 (w'.heap[gb279]? = some (.cells #[.int .i64 a0_0, .string a0_1, (.slice A0_2 l0_2.length c0_2), (.slice A0_3 l0_3.length c0_3)] 38 (0, 0))) ∧ Aside0 (w'.heap[gb280]? = some (.cells #[.int .i64 a1_0, .string a1_1, (.slice A1_2 l1_2.length c1_2), (.slice A1_3 l1_3.length c1_3)] 38 (0, 0))) ∧ Aside0 (Below w.heap.size w w'))
   case atStart => exact ⟨(0), (by first | rfl | (simp; done) | (simp [*]; done)), H', ⟨Nat.le_refl _⟩, ⟨by (with_reducible repeat (first | refine blk_drewN ?_ _ | refine blk_drew ?_ | refine blk_alloc ?_ _)); exact BK279.out⟩, ⟨by (with_reducible repeat (first | refine blk_drewN ?_ _ | refine blk_drew ?_ | refine blk_alloc ?_ _)); exact BK280.out⟩, ⟨by repeat (first | (with_reducible first | exact HB.out | apply below_alloc | apply pw_below_drewN | apply below_drew1 | refine below_set ?_ GE279.out | refine below_set ?_ GE280.out) | exact HB.out)⟩⟩
   case round =>
    clear H'
    try clear c1
    try clear c2
    try clear p2
    try clear c6
    try clear c6b0
    try clear c6b1
    try clear c7
    try clear c7b0
    try clear c7b1
    try clear c8
    try clear c8b0
    try clear c8b1
    try clear c8b2
    try clear c9
    try clear c12
    try clear c15
    try clear c18
    try clear c21
    try clear hcz10_0
    try clear hcz10_1
    try clear hcz10_2
    try clear hcz10_3
    try clear hcz11_0
    try clear hcz11_1
    try clear hcz11_2
    try clear hcz11_3
    try clear hcz13_0
    try clear hcz13_1
    try clear hcz13_2
    try clear hcz13_3
    try clear hcz14_0
    try clear hcz14_1
    try clear hcz14_2
    try clear hcz14_3
    try clear hcz16_0
    try clear hcz16_1
    try clear hcz16_2
    try clear hcz16_3
    try clear hcz17_0
    try clear hcz17_1
    try clear hcz17_2
    try clear hcz17_3
    try clear hcz19_0
    try clear hcz19_1
    try clear hcz19_2
    try clear hcz19_3
    try clear hcz20_0
    try clear hcz20_1
    try clear hcz20_2
    try clear hcz20_3
    try clear hfz10_0
    try clear hfz10_1
    try clear hfz10_2
    try clear hfz10_3
    try clear hfz11_0
    try clear hfz11_1
    try clear hfz11_2
    try clear hfz11_3
    try clear hfz13_0
    try clear hfz13_1
    try clear hfz13_2
    try clear hfz13_3
    try clear hfz14_0
    try clear hfz14_1
    try clear hfz14_2
    try clear hfz14_3
    try clear hfz16_0
    try clear hfz16_1
    try clear hfz16_2
    try clear hfz16_3
    try clear hfz17_0
    try clear hfz17_1
    try clear hfz17_2
    try clear hfz17_3
    try clear hfz19_0
    try clear hfz19_1
    try clear hfz19_2
    try clear hfz19_3
    try clear hfz20_0
    try clear hfz20_1
    try clear hfz20_2
    try clear hfz20_3
    try clear p2
    obtain ⟨x5_2, rfl, HA, HK2, BK279, BK280, HB⟩ := hrel
    cases gk with
    | zero => exact absurd HA.out (by simp [spec_Same.l0])
    | succ k2 =>
     have H := HA.out
     clear HA
     simp only [spec_Same.l0] at H
     by_cases c22 : x5_2 < (l0_2.length : Int)
     ·rw [if_pos c22] at H
      have c22b0 : decide (x5_2 < (l0_2.length : Int)) = true := decide_eq_true c22
      clear c22
      by_cases c23 : 0 ≤ x5_2
      ·rw [if_pos c23] at H
       have c23b0 : decide (0 ≤ x5_2) = true := decide_eq_true c23
       clear c23
       by_cases c24 : x5_2 < (l1_2.length : Int)
       ·rw [if_pos c24] at H
        have c24b0 : decide (x5_2 < (l1_2.length : Int)) = true := decide_eq_true c24
        clear c24
        by_cases c25 : (rdOf ByteArray.empty l0_2 x5_2).toList = (rdOf ByteArray.empty l1_2 x5_2).toList
        ·rw [if_pos c25] at H
         have c25b0 : ((rdOf ByteArray.empty l0_2 x5_2).toList == (rdOf ByteArray.empty l1_2 x5_2).toList) = true := beq_iff_eq.mpr c25
         have c25b1 : ((rdOf ByteArray.empty l0_2 x5_2).toList != (rdOf ByteArray.empty l1_2 x5_2).toList) = false := bne_eq_false_iff_eq.mpr c25
         clear c25
         have H' := Aside0.mk H
         clear H
         have hnb26 := NB279_280.out
         have hnc26 := NB280_279.out
         have hcz27_0 : wr.cell? ⟨gb279, 0, none⟩ = some (.int .i64 a0_0) := (blk_cell BK279.out 0).trans rfl
         have hcz27_1 : wr.cell? ⟨gb279, 1, none⟩ = some (.string a0_1) := (blk_cell BK279.out 1).trans rfl
         have hcz27_2 : wr.cell? ⟨gb279, 2, none⟩ = some (.slice A0_2 l0_2.length c0_2) := (blk_cell BK279.out 2).trans rfl
         have hcz27_3 : wr.cell? ⟨gb279, 3, none⟩ = some (.slice A0_3 l0_3.length c0_3) := (blk_cell BK279.out 3).trans rfl
         have hfz27_0 := blk_frozen BK279.out 0
         have hfz27_1 := blk_frozen BK279.out 1
         have hfz27_2 := blk_frozen BK279.out 2
         have hfz27_3 := blk_frozen BK279.out 3
         try go_wp2
         have n0_ := Aside0.mk (blk_drew BK279.out)
         have n1_ := Aside0.mk (blk_drew BK280.out)
         have n2_ := Aside0.mk (below_drew1 HB.out)
         clear BK279
         clear BK280
         clear HB
         have BK279 := n0_
         have BK280 := n1_
         have HB := n2_
         clear n0_ n1_ n2_
         have p281 : 0 ≤ (x5_2 : Int) := of_decide_eq_true (by assumption)
         have q281 : x5_2 < (l0_2.length : Int) := of_decide_eq_true (by assumption)
         obtain ⟨ad281, e281, hx281_0⟩ := Kd.at_string HR0_2.out x5_2 p281 q281
         have hw281_0 := hx281_0
         cases e281
         replace hx281_0 := (HB.out.cell (World.block_lt_of_cell? w _ hx281_0)).trans hx281_0
         replace p281 := eq_true p281
         replace q281 := eq_true q281
         have p282 : 0 ≤ (x5_2 : Int) := of_decide_eq_true (by assumption)
         have q282 : x5_2 < (l1_2.length : Int) := of_decide_eq_true (by assumption)
         obtain ⟨ad282, e282, hx282_0⟩ := Kd.at_string HR1_2.out x5_2 p282 q282
         have hw282_0 := hx282_0
         cases e282
         replace hx282_0 := (HB.out.cell (World.block_lt_of_cell? w _ hx282_0)).trans hx282_0
         replace p282 := eq_true p282
         replace q282 := eq_true q282
         refine start_ (n := 11) (S := fun w' => w'.cell? ⟨gb279, 0, none⟩ = some (.int .i64 a0_0) ∧ w'.cell? ⟨gb279, 1, none⟩ = some (.string a0_1) ∧ w'.cell? ⟨gb279, 2, none⟩ = some (.slice (some ad281) l0_2.length c0_2) ∧ w'.cell? ⟨gb279, 3, none⟩ = some (.slice A0_3 l0_3.length c0_3) ∧ w'.cell? ⟨gb280, 0, none⟩ = some (.int .i64 a1_0) ∧ w'.cell? ⟨gb280, 1, none⟩ = some (.string a1_1) ∧ w'.cell? ⟨gb280, 2, none⟩ = some (.slice (some ad282) l1_2.length c1_2) ∧ w'.cell? ⟨gb280, 3, none⟩ = some (.slice A1_3 l1_3.length c1_3) ∧ w'.cell? (ad281.add (x5_2).toNat) = some (.string (rdOf ByteArray.empty l0_2 x5_2)) ∧ w'.cell? (ad282.add (x5_2).toNat) = some (.string (rdOf ByteArray.empty l1_2 x5_2))) (ds := []) #[false, false, false, false, false, false, false, false, false, false, false] (by kernel_rfl) rfl rfl ⟨(blk_cell BK279.out 0).trans rfl, (blk_cell BK279.out 1).trans rfl, (blk_cell BK279.out 2).trans rfl, (blk_cell BK279.out 3).trans rfl, (blk_cell BK280.out 0).trans rfl, (blk_cell BK280.out 1).trans rfl, (blk_cell BK280.out 2).trans rfl, (blk_cell BK280.out 3).trans rfl, ((HB.out.cell (World.block_lt_of_cell? w _ hw281_0)).trans hw281_0), ((HB.out.cell (World.block_lt_of_cell? w _ hw282_0)).trans hw282_0)⟩ (fun hHeld => ?_); refine with_tabW spec_Same.tab6 spec_Same.bits6 (fun HT_ HW_ => ?_)
         generalize wr.drew = w28 at BK279 BK280 HB hx281_0 hx282_0 hHeld ⊢
         refine pure_ (i := 0) (N := some 44) (v := ?_) (a' := ?_) #[true, false, false, false, false, false, false, false, false, false, false] rfl rfl (any_of HT_.out (by kernel_rfl)) (fun _ _ _ h => h) (Or.inl ⟨by rfl, ?_⟩) ?_ ?_
         rotate_left
         ·intro w'
          go_simp
          with_reducible rfl
         rotate_left
         ·simp only [Act.put, List.setIfInBounds_toArray, List.set_cons_zero, List.set_cons_succ, i64_w, i32_w]
          rfl
         refine pure_ (i := 2) (N := some 46) (v := ?_) (a' := ?_) #[true, false, true, false, false, false, false, false, false, false, false] rfl rfl (any_of HT_.out (by kernel_rfl)) (fun _ _ _ h => h) (Or.inl ⟨by rfl, ?_⟩) ?_ ?_
         rotate_left
         ·intro w'
          go_simp
          with_reducible rfl
         rotate_left
         ·simp only [Act.put, List.setIfInBounds_toArray, List.set_cons_zero, List.set_cons_succ, i64_w, i32_w]
          rfl
         refine pure_ (i := 5) (N := some 49) (v := ?_) (a' := ?_) #[true, false, true, false, false, true, false, false, false, false, false] rfl rfl (any_of HT_.out (by kernel_rfl)) (fun _ _ _ h => h) (Or.inl ⟨by rfl, ?_⟩) ?_ ?_
         rotate_left
         ·intro w'
          go_simp
          with_reducible rfl
         rotate_left
         ·simp only [Act.put, List.setIfInBounds_toArray, List.set_cons_zero, List.set_cons_succ, i64_w, i32_w]
          rfl
         refine pure_ (i := 7) (N := some 51) (v := ?_) (a' := ?_) #[true, false, true, false, false, true, false, true, false, false, false] rfl rfl (any_of HT_.out (by kernel_rfl)) (fun _ _ _ h => h) (Or.inl ⟨by rfl, ?_⟩) ?_ ?_
         rotate_left
         ·intro w'
          go_simp
          with_reducible rfl
         rotate_left
         ·simp only [Act.put, List.setIfInBounds_toArray, List.set_cons_zero, List.set_cons_succ, i64_w, i32_w]
          rfl
         refine take_ (i := 1) (N := some 45) (v := ?_) (a' := ?_) #[true, true, true, false, false, true, false, true, false, false, false] rfl rfl (take_ofW HT_.out HW_.out (by kernel_rfl)) (fun _ _ _ h => h) (Or.inl ⟨by rfl, ?_⟩) hHeld ?_ ?_
         rotate_left
         ·rintro w' ⟨s0, s1, s2, s3, s4, s5, s6, s7, s8, s9⟩
          go_simp
          with_reducible rfl
         rotate_left
         ·simp only [Act.put, List.setIfInBounds_toArray, List.set_cons_zero, List.set_cons_succ, i64_w, i32_w]
          rfl
         refine pure_ (i := 3) (N := some 47) (v := ?_) (a' := ?_) #[true, true, true, true, false, true, false, true, false, false, false] rfl rfl (any_of HT_.out (by kernel_rfl)) (fun _ _ _ h => h) (Or.inl ⟨by rfl, ?_⟩) ?_ ?_
         rotate_left
         ·intro w'
          go_simp
          with_reducible rfl
         rotate_left
         ·simp only [Act.put, List.setIfInBounds_toArray, List.set_cons_zero, List.set_cons_succ, i64_w, i32_w]
          rfl
         refine take_ (i := 4) (N := some 48) (v := ?_) (a' := ?_) #[true, true, true, true, true, true, false, true, false, false, false] rfl rfl (take_ofW HT_.out HW_.out (by kernel_rfl)) (fun _ _ _ h => h) (Or.inl ⟨by rfl, ?_⟩) hHeld ?_ ?_
         rotate_left
         ·rintro w' ⟨s0, s1, s2, s3, s4, s5, s6, s7, s8, s9⟩
          go_simp
          with_reducible rfl
         rotate_left
         ·simp only [Act.put, List.setIfInBounds_toArray, List.set_cons_zero, List.set_cons_succ, i64_w, i32_w]
          rfl
         refine take_ (i := 6) (N := some 50) (v := ?_) (a' := ?_) #[true, true, true, true, true, true, true, true, false, false, false] rfl rfl (take_ofW HT_.out HW_.out (by kernel_rfl)) (fun _ _ _ h => h) (Or.inl ⟨by rfl, ?_⟩) hHeld ?_ ?_
         rotate_left
         ·rintro w' ⟨s0, s1, s2, s3, s4, s5, s6, s7, s8, s9⟩
          go_simp
          with_reducible rfl
         rotate_left
         ·simp only [Act.put, List.setIfInBounds_toArray, List.set_cons_zero, List.set_cons_succ, i64_w, i32_w]
          rfl
         refine pure_ (i := 8) (N := some 52) (v := ?_) (a' := ?_) #[true, true, true, true, true, true, true, true, true, false, false] rfl rfl (any_of HT_.out (by kernel_rfl)) (fun _ _ _ h => h) (Or.inl ⟨by rfl, ?_⟩) ?_ ?_
         rotate_left
         ·intro w'
          go_simp
          with_reducible rfl
         rotate_left
         ·simp only [Act.put, List.setIfInBounds_toArray, List.set_cons_zero, List.set_cons_succ, i64_w, i32_w]
          rfl
         refine take_ (i := 9) (N := some 53) (v := ?_) (a' := ?_) #[true, true, true, true, true, true, true, true, true, true, false] rfl rfl (take_ofW HT_.out HW_.out (by kernel_rfl)) (fun _ _ _ h => h) (Or.inl ⟨by rfl, ?_⟩) hHeld ?_ ?_
         rotate_left
         ·rintro w' ⟨s0, s1, s2, s3, s4, s5, s6, s7, s8, s9⟩
          go_simp
          with_reducible rfl
         rotate_left
         ·simp only [Act.put, List.setIfInBounds_toArray, List.set_cons_zero, List.set_cons_succ, i64_w, i32_w]
          rfl
         refine pure_ (i := 10) (N := some 54) (v := ?_) (a' := ?_) #[true, true, true, true, true, true, true, true, true, true, true] rfl rfl (any_of HT_.out (by kernel_rfl)) (fun _ _ _ h => h) (Or.inl ⟨by rfl, ?_⟩) ?_ ?_
         rotate_left
         ·intro w'
          go_simp
          with_reducible rfl
         rotate_left
         ·simp only [Act.put, List.setIfInBounds_toArray, List.set_cons_zero, List.set_cons_succ, i64_w, i32_w]
          rfl
         refine done_ (done_of HT_.out (by kernel_rfl)) ?_
         try go_wp2
         go_roundg k2
         case measure => have := HJ2.out; have := HK2.out; omega
         case rel => exact ⟨(wrap64 (x5_2 + 1)), (by first | rfl | (simp; done) | (simp [*]; done)), H', ⟨by have := HJ2.out; have := HK2.out; omega⟩, ⟨by (with_reducible repeat (first | refine blk_drewN ?_ _ | refine blk_drew ?_ | refine blk_alloc ?_ _)); exact BK279.out⟩, ⟨by (with_reducible repeat (first | refine blk_drewN ?_ _ | refine blk_drew ?_ | refine blk_alloc ?_ _)); exact BK280.out⟩, ⟨by repeat (first | (with_reducible first | exact HB.out | apply below_alloc | apply pw_below_drewN | apply below_drew1 | refine below_set ?_ GE279.out | refine below_set ?_ GE280.out) | exact HB.out)⟩⟩
        rw [if_neg c25] at H
        have c25b0 : ((rdOf ByteArray.empty l0_2 x5_2).toList == (rdOf ByteArray.empty l1_2 x5_2).toList) = false := beq_eq_false_iff_ne.mpr c25
        have c25b1 : ((rdOf ByteArray.empty l0_2 x5_2).toList != (rdOf ByteArray.empty l1_2 x5_2).toList) = true := bne_iff_ne.mpr c25
        obtain rfl := Option.some.inj H
        have hnb29 := NB279_280.out
        have hnc29 := NB280_279.out
        have hcz30_0 : wr.cell? ⟨gb279, 0, none⟩ = some (.int .i64 a0_0) := (blk_cell BK279.out 0).trans rfl
        have hcz30_1 : wr.cell? ⟨gb279, 1, none⟩ = some (.string a0_1) := (blk_cell BK279.out 1).trans rfl
        have hcz30_2 : wr.cell? ⟨gb279, 2, none⟩ = some (.slice A0_2 l0_2.length c0_2) := (blk_cell BK279.out 2).trans rfl
        have hcz30_3 : wr.cell? ⟨gb279, 3, none⟩ = some (.slice A0_3 l0_3.length c0_3) := (blk_cell BK279.out 3).trans rfl
        have hfz30_0 := blk_frozen BK279.out 0
        have hfz30_1 := blk_frozen BK279.out 1
        have hfz30_2 := blk_frozen BK279.out 2
        have hfz30_3 := blk_frozen BK279.out 3
        try go_wp2
        have n0_ := Aside0.mk (blk_drew BK279.out)
        have n1_ := Aside0.mk (blk_drew BK280.out)
        have n2_ := Aside0.mk (below_drew1 HB.out)
        clear BK279
        clear BK280
        clear HB
        have BK279 := n0_
        have BK280 := n1_
        have HB := n2_
        clear n0_ n1_ n2_
        have p281 : 0 ≤ (x5_2 : Int) := of_decide_eq_true (by assumption)
        have q281 : x5_2 < (l0_2.length : Int) := of_decide_eq_true (by assumption)
        obtain ⟨ad281, e281, hx281_0⟩ := Kd.at_string HR0_2.out x5_2 p281 q281
        have hw281_0 := hx281_0
        cases e281
        replace hx281_0 := (HB.out.cell (World.block_lt_of_cell? w _ hx281_0)).trans hx281_0
        replace p281 := eq_true p281
        replace q281 := eq_true q281
        have p282 : 0 ≤ (x5_2 : Int) := of_decide_eq_true (by assumption)
        have q282 : x5_2 < (l1_2.length : Int) := of_decide_eq_true (by assumption)
        obtain ⟨ad282, e282, hx282_0⟩ := Kd.at_string HR1_2.out x5_2 p282 q282
        have hw282_0 := hx282_0
        cases e282
        replace hx282_0 := (HB.out.cell (World.block_lt_of_cell? w _ hx282_0)).trans hx282_0
        replace p282 := eq_true p282
        replace q282 := eq_true q282
        refine start_ (n := 11) (S := fun w' => w'.cell? ⟨gb279, 0, none⟩ = some (.int .i64 a0_0) ∧ w'.cell? ⟨gb279, 1, none⟩ = some (.string a0_1) ∧ w'.cell? ⟨gb279, 2, none⟩ = some (.slice (some ad281) l0_2.length c0_2) ∧ w'.cell? ⟨gb279, 3, none⟩ = some (.slice A0_3 l0_3.length c0_3) ∧ w'.cell? ⟨gb280, 0, none⟩ = some (.int .i64 a1_0) ∧ w'.cell? ⟨gb280, 1, none⟩ = some (.string a1_1) ∧ w'.cell? ⟨gb280, 2, none⟩ = some (.slice (some ad282) l1_2.length c1_2) ∧ w'.cell? ⟨gb280, 3, none⟩ = some (.slice A1_3 l1_3.length c1_3) ∧ w'.cell? (ad281.add (x5_2).toNat) = some (.string (rdOf ByteArray.empty l0_2 x5_2)) ∧ w'.cell? (ad282.add (x5_2).toNat) = some (.string (rdOf ByteArray.empty l1_2 x5_2))) (ds := []) #[false, false, false, false, false, false, false, false, false, false, false] (by kernel_rfl) rfl rfl ⟨(blk_cell BK279.out 0).trans rfl, (blk_cell BK279.out 1).trans rfl, (blk_cell BK279.out 2).trans rfl, (blk_cell BK279.out 3).trans rfl, (blk_cell BK280.out 0).trans rfl, (blk_cell BK280.out 1).trans rfl, (blk_cell BK280.out 2).trans rfl, (blk_cell BK280.out 3).trans rfl, ((HB.out.cell (World.block_lt_of_cell? w _ hw281_0)).trans hw281_0), ((HB.out.cell (World.block_lt_of_cell? w _ hw282_0)).trans hw282_0)⟩ (fun hHeld => ?_); refine with_tabW spec_Same.tab6 spec_Same.bits6 (fun HT_ HW_ => ?_)
        generalize wr.drew = w31 at BK279 BK280 HB hx281_0 hx282_0 hHeld ⊢
        refine pure_ (i := 0) (N := some 44) (v := ?_) (a' := ?_) #[true, false, false, false, false, false, false, false, false, false, false] rfl rfl (any_of HT_.out (by kernel_rfl)) (fun _ _ _ h => h) (Or.inl ⟨by rfl, ?_⟩) ?_ ?_
        rotate_left
        ·intro w'
         go_simp
         with_reducible rfl
        rotate_left
        ·simp only [Act.put, List.setIfInBounds_toArray, List.set_cons_zero, List.set_cons_succ, i64_w, i32_w]
         rfl
        refine pure_ (i := 2) (N := some 46) (v := ?_) (a' := ?_) #[true, false, true, false, false, false, false, false, false, false, false] rfl rfl (any_of HT_.out (by kernel_rfl)) (fun _ _ _ h => h) (Or.inl ⟨by rfl, ?_⟩) ?_ ?_
        rotate_left
        ·intro w'
         go_simp
         with_reducible rfl
        rotate_left
        ·simp only [Act.put, List.setIfInBounds_toArray, List.set_cons_zero, List.set_cons_succ, i64_w, i32_w]
         rfl
        refine pure_ (i := 5) (N := some 49) (v := ?_) (a' := ?_) #[true, false, true, false, false, true, false, false, false, false, false] rfl rfl (any_of HT_.out (by kernel_rfl)) (fun _ _ _ h => h) (Or.inl ⟨by rfl, ?_⟩) ?_ ?_
        rotate_left
        ·intro w'
         go_simp
         with_reducible rfl
        rotate_left
        ·simp only [Act.put, List.setIfInBounds_toArray, List.set_cons_zero, List.set_cons_succ, i64_w, i32_w]
         rfl
        refine pure_ (i := 7) (N := some 51) (v := ?_) (a' := ?_) #[true, false, true, false, false, true, false, true, false, false, false] rfl rfl (any_of HT_.out (by kernel_rfl)) (fun _ _ _ h => h) (Or.inl ⟨by rfl, ?_⟩) ?_ ?_
        rotate_left
        ·intro w'
         go_simp
         with_reducible rfl
        rotate_left
        ·simp only [Act.put, List.setIfInBounds_toArray, List.set_cons_zero, List.set_cons_succ, i64_w, i32_w]
         rfl
        refine take_ (i := 1) (N := some 45) (v := ?_) (a' := ?_) #[true, true, true, false, false, true, false, true, false, false, false] rfl rfl (take_ofW HT_.out HW_.out (by kernel_rfl)) (fun _ _ _ h => h) (Or.inl ⟨by rfl, ?_⟩) hHeld ?_ ?_
        rotate_left
        ·rintro w' ⟨s0, s1, s2, s3, s4, s5, s6, s7, s8, s9⟩
         go_simp
         with_reducible rfl
        rotate_left
        ·simp only [Act.put, List.setIfInBounds_toArray, List.set_cons_zero, List.set_cons_succ, i64_w, i32_w]
         rfl
        refine pure_ (i := 3) (N := some 47) (v := ?_) (a' := ?_) #[true, true, true, true, false, true, false, true, false, false, false] rfl rfl (any_of HT_.out (by kernel_rfl)) (fun _ _ _ h => h) (Or.inl ⟨by rfl, ?_⟩) ?_ ?_
        rotate_left
        ·intro w'
         go_simp
         with_reducible rfl
        rotate_left
        ·simp only [Act.put, List.setIfInBounds_toArray, List.set_cons_zero, List.set_cons_succ, i64_w, i32_w]
         rfl
        refine take_ (i := 4) (N := some 48) (v := ?_) (a' := ?_) #[true, true, true, true, true, true, false, true, false, false, false] rfl rfl (take_ofW HT_.out HW_.out (by kernel_rfl)) (fun _ _ _ h => h) (Or.inl ⟨by rfl, ?_⟩) hHeld ?_ ?_
        rotate_left
        ·rintro w' ⟨s0, s1, s2, s3, s4, s5, s6, s7, s8, s9⟩
         go_simp
         with_reducible rfl
        rotate_left
        ·simp only [Act.put, List.setIfInBounds_toArray, List.set_cons_zero, List.set_cons_succ, i64_w, i32_w]
         rfl
        refine take_ (i := 6) (N := some 50) (v := ?_) (a' := ?_) #[true, true, true, true, true, true, true, true, false, false, false] rfl rfl (take_ofW HT_.out HW_.out (by kernel_rfl)) (fun _ _ _ h => h) (Or.inl ⟨by rfl, ?_⟩) hHeld ?_ ?_
        rotate_left
        ·rintro w' ⟨s0, s1, s2, s3, s4, s5, s6, s7, s8, s9⟩
         go_simp
         with_reducible rfl
        rotate_left
        ·simp only [Act.put, List.setIfInBounds_toArray, List.set_cons_zero, List.set_cons_succ, i64_w, i32_w]
         rfl
        refine pure_ (i := 8) (N := some 52) (v := ?_) (a' := ?_) #[true, true, true, true, true, true, true, true, true, false, false] rfl rfl (any_of HT_.out (by kernel_rfl)) (fun _ _ _ h => h) (Or.inl ⟨by rfl, ?_⟩) ?_ ?_
        rotate_left
        ·intro w'
         go_simp
         with_reducible rfl
        rotate_left
        ·simp only [Act.put, List.setIfInBounds_toArray, List.set_cons_zero, List.set_cons_succ, i64_w, i32_w]
         rfl
        refine take_ (i := 9) (N := some 53) (v := ?_) (a' := ?_) #[true, true, true, true, true, true, true, true, true, true, false] rfl rfl (take_ofW HT_.out HW_.out (by kernel_rfl)) (fun _ _ _ h => h) (Or.inl ⟨by rfl, ?_⟩) hHeld ?_ ?_
        rotate_left
        ·rintro w' ⟨s0, s1, s2, s3, s4, s5, s6, s7, s8, s9⟩
         go_simp
         with_reducible rfl
        rotate_left
        ·simp only [Act.put, List.setIfInBounds_toArray, List.set_cons_zero, List.set_cons_succ, i64_w, i32_w]
         rfl
        refine pure_ (i := 10) (N := some 54) (v := ?_) (a' := ?_) #[true, true, true, true, true, true, true, true, true, true, true] rfl rfl (any_of HT_.out (by kernel_rfl)) (fun _ _ _ h => h) (Or.inl ⟨by rfl, ?_⟩) ?_ ?_
        rotate_left
        ·intro w'
         go_simp
         with_reducible rfl
        rotate_left
        ·simp only [Act.put, List.setIfInBounds_toArray, List.set_cons_zero, List.set_cons_succ, i64_w, i32_w]
         rfl
        refine done_ (done_of HT_.out (by kernel_rfl)) ?_
        try go_wp2
        go_ret
        exact ⟨by first | rfl | (simp [errW_none, errW_some] <;> rfl) | (simp [*, errW_none, errW_some] <;> rfl) | (simp [errW_none, errW_some] <;> exact ⟨rfl, rfl⟩) | (simp [*, errW_none, errW_some] <;> exact ⟨rfl, rfl⟩), by repeat (first | (with_reducible first | exact HB.out | apply below_alloc | apply pw_below_drewN | apply below_drew1 | refine below_set ?_ GE279.out | refine below_set ?_ GE280.out) | exact HB.out)⟩
       rw [if_neg c24] at H
       exact absurd H (by simp)
      rw [if_neg c23] at H
      exact absurd H (by simp)
     rw [if_neg c22] at H
     have c22b0 : decide (x5_2 < (l0_2.length : Int)) = false := decide_eq_false c22
     clear c22
     have H' := Aside0.mk H
     clear H
     have hnb32 := NB279_280.out
     have hnc32 := NB280_279.out
     have hcz33_0 : wr.cell? ⟨gb279, 0, none⟩ = some (.int .i64 a0_0) := (blk_cell BK279.out 0).trans rfl
     have hcz33_1 : wr.cell? ⟨gb279, 1, none⟩ = some (.string a0_1) := (blk_cell BK279.out 1).trans rfl
     have hcz33_2 : wr.cell? ⟨gb279, 2, none⟩ = some (.slice A0_2 l0_2.length c0_2) := (blk_cell BK279.out 2).trans rfl
     have hcz33_3 : wr.cell? ⟨gb279, 3, none⟩ = some (.slice A0_3 l0_3.length c0_3) := (blk_cell BK279.out 3).trans rfl
     have hfz33_0 := blk_frozen BK279.out 0
     have hfz33_1 := blk_frozen BK279.out 1
     have hfz33_2 := blk_frozen BK279.out 2
     have hfz33_3 := blk_frozen BK279.out 3
     go_wp2
     try simp only [Act.put, List.setIfInBounds_toArray, List.set_cons_succ, List.set_cons_zero]
     go_loopg [6] k2 (fun kq v6 w' => ∃ (x6_3 : Int), v6 = .int .i64 x6_3 ∧ Aside0 (spec_Same.l1 kq x6_3 a0_0 a0_1 l0_2 l0_3 a1_0 a1_1 l1_2 l1_3 = some r) ∧ Aside0 (kq ≤ k2) ∧ Aside0 (w'.heap[gb279]? = some (.cells #[.int .i64 a0_0, .string a0_1, (.slice A0_2 l0_2.length c0_2), (.slice A0_3 l0_3.length c0_3)] 38 (0, 0))) ∧ Aside0 (w'.heap[gb280]? = some (.cells #[.int .i64 a1_0, .string a1_1, (.slice A1_2 l1_2.length c1_2), (.slice A1_3 l1_3.length c1_3)] 38 (0, 0))) ∧ Aside0 (Below w.heap.size w w'))
     case atStart => exact ⟨(0), (by first | rfl | (simp; done) | (simp [*]; done)), H', ⟨Nat.le_refl _⟩, ⟨by (with_reducible repeat (first | refine blk_drewN ?_ _ | refine blk_drew ?_ | refine blk_alloc ?_ _)); exact BK279.out⟩, ⟨by (with_reducible repeat (first | refine blk_drewN ?_ _ | refine blk_drew ?_ | refine blk_alloc ?_ _)); exact BK280.out⟩, ⟨by repeat (first | (with_reducible first | exact HB.out | apply below_alloc | apply pw_below_drewN | apply below_drew1 | refine below_set ?_ GE279.out | refine below_set ?_ GE280.out) | exact HB.out)⟩⟩
     case round =>
      clear H'
      try clear c1
      try clear c2
      try clear p2
      try clear q2
      try clear hx2
      try clear c3
      try clear c6
      try clear c6b0
      try clear c6b1
      try clear p6
      try clear c7
      try clear c7b0
      try clear c7b1
      try clear c8
      try clear c8b0
      try clear c8b1
      try clear c8b2
      try clear c9
      try clear c12
      try clear c15
      try clear c18
      try clear c21
      try clear c22
      try clear c22b0
      try clear c23
      try clear c23b0
      try clear c24
      try clear c24b0
      try clear c25
      try clear c25b0
      try clear c25b1
      try clear c26
      try clear p28
      try clear q28
      try clear hx28
      try clear c29
      try clear c32
      try clear hcz10_0
      try clear hcz10_1
      try clear hcz10_2
      try clear hcz10_3
      try clear hcz11_0
      try clear hcz11_1
      try clear hcz11_2
      try clear hcz11_3
      try clear hcz13_0
      try clear hcz13_1
      try clear hcz13_2
      try clear hcz13_3
      try clear hcz14_0
      try clear hcz14_1
      try clear hcz14_2
      try clear hcz14_3
      try clear hcz16_0
      try clear hcz16_1
      try clear hcz16_2
      try clear hcz16_3
      try clear hcz17_0
      try clear hcz17_1
      try clear hcz17_2
      try clear hcz17_3
      try clear hcz19_0
      try clear hcz19_1
      try clear hcz19_2
      try clear hcz19_3
      try clear hcz20_0
      try clear hcz20_1
      try clear hcz20_2
      try clear hcz20_3
      try clear hcz27_0
      try clear hcz27_1
      try clear hcz27_2
      try clear hcz27_3
      try clear hcz30_0
      try clear hcz30_1
      try clear hcz30_2
      try clear hcz30_3
      try clear hcz33_0
      try clear hcz33_1
      try clear hcz33_2
      try clear hcz33_3
      try clear hfz10_0
      try clear hfz10_1
      try clear hfz10_2
      try clear hfz10_3
      try clear hfz11_0
      try clear hfz11_1
      try clear hfz11_2
      try clear hfz11_3
      try clear hfz13_0
      try clear hfz13_1
      try clear hfz13_2
      try clear hfz13_3
      try clear hfz14_0
      try clear hfz14_1
      try clear hfz14_2
      try clear hfz14_3
      try clear hfz16_0
      try clear hfz16_1
      try clear hfz16_2
      try clear hfz16_3
      try clear hfz17_0
      try clear hfz17_1
      try clear hfz17_2
      try clear hfz17_3
      try clear hfz19_0
      try clear hfz19_1
      try clear hfz19_2
      try clear hfz19_3
      try clear hfz20_0
      try clear hfz20_1
      try clear hfz20_2
      try clear hfz20_3
      try clear hfz27_0
      try clear hfz27_1
      try clear hfz27_2
      try clear hfz27_3
      try clear hfz30_0
      try clear hfz30_1
      try clear hfz30_2
      try clear hfz30_3
      try clear hfz33_0
      try clear hfz33_1
      try clear hfz33_2
      try clear hfz33_3
      try clear hx281_0
      try clear hx282_0
      try clear p2
      try clear p281
      try clear p282
      try clear q281
      try clear q282
      obtain ⟨x6_3, rfl, HA, HK3, BK279, BK280, HB⟩ := hrel
      cases gk with
      | zero => exact absurd HA.out (by simp [spec_Same.l1])
      | succ k3 =>
       have H := HA.out
       clear HA
       simp only [spec_Same.l1] at H
       by_cases c34 : x6_3 < (l0_3.length : Int)
       ·rw [if_pos c34] at H
        have c34b0 : decide (x6_3 < (l0_3.length : Int)) = true := decide_eq_true c34
        clear c34
        by_cases c35 : 0 ≤ x6_3
        ·rw [if_pos c35] at H
         have c35b0 : decide (0 ≤ x6_3) = true := decide_eq_true c35
         clear c35
         by_cases c36 : x6_3 < (l1_3.length : Int)
         ·rw [if_pos c36] at H
          have c36b0 : decide (x6_3 < (l1_3.length : Int)) = true := decide_eq_true c36
          clear c36
          replace H := Option.bind_eq_some_iff.mp H
          obtain ⟨t285, A370, H⟩ := H
          replace H : (if t285 = true then (spec_Same.l1 k3 (wrap64 (x6_3 + 1)) a0_0 a0_1 l0_2 l0_3 a1_0 a1_1 l1_2 l1_3) else (some false)) = some r := H
          have A37 := Aside0.mk A370
          clear A370
          by_cases c38 : t285 = true
          ·subst c38
           have H1 : (spec_Same.l1 k3 (wrap64 (x6_3 + 1)) a0_0 a0_1 l0_2 l0_3 a1_0 a1_1 l1_2 l1_3) = some r := by rw [if_pos rfl] at H; exact H
           clear H
           have H := H1
           clear H1
           have H' := Aside0.mk H
           clear H
           have hnb39 := NB279_280.out
           have hnc39 := NB280_279.out
           have hcz40_0 : wr.cell? ⟨gb279, 0, none⟩ = some (.int .i64 a0_0) := (blk_cell BK279.out 0).trans rfl
           have hcz40_1 : wr.cell? ⟨gb279, 1, none⟩ = some (.string a0_1) := (blk_cell BK279.out 1).trans rfl
           have hcz40_2 : wr.cell? ⟨gb279, 2, none⟩ = some (.slice A0_2 l0_2.length c0_2) := (blk_cell BK279.out 2).trans rfl
           have hcz40_3 : wr.cell? ⟨gb279, 3, none⟩ = some (.slice A0_3 l0_3.length c0_3) := (blk_cell BK279.out 3).trans rfl
           have hfz40_0 := blk_frozen BK279.out 0
           have hfz40_1 := blk_frozen BK279.out 1
           have hfz40_2 := blk_frozen BK279.out 2
           have hfz40_3 := blk_frozen BK279.out 3
           try go_wp2
           have n0_ := Aside0.mk (blk_drew BK279.out)
           have n1_ := Aside0.mk (blk_drew BK280.out)
           have n2_ := Aside0.mk (below_drew1 HB.out)
           clear BK279
           clear BK280
           clear HB
           have BK279 := n0_
           have BK280 := n1_
           have HB := n2_
           clear n0_ n1_ n2_
           have p283 : 0 ≤ (x6_3 : Int) := of_decide_eq_true (by assumption)
           have q283 : x6_3 < (l0_3.length : Int) := of_decide_eq_true (by assumption)
           obtain ⟨ad283, A283_2, c283_2, A283_3, c283_3, e283, hx283_0, hx283_1, hx283_2, hx283_3, hl283_2, hi283_2, hl283_3, hi283_3⟩ := at_T38 HR0_3.out x6_3 p283 q283
           have hw283_3 := hx283_3
           have hw283_2 := hx283_2
           have hw283_1 := hx283_1
           have hw283_0 := hx283_0
           cases e283
           replace hx283_0 := (HB.out.cell (World.block_lt_of_cell? w _ hx283_0)).trans hx283_0
           replace hx283_1 := (HB.out.cell (World.block_lt_of_cell? w _ hx283_1)).trans hx283_1
           replace hx283_2 := (HB.out.cell (World.block_lt_of_cell? w _ hx283_2)).trans hx283_2
           replace hx283_3 := (HB.out.cell (World.block_lt_of_cell? w _ hx283_3)).trans hx283_3
           have HR283_2 := Aside0.mk hi283_2
           have HC283_2 := Aside0.mk hl283_2
           clear hi283_2 hl283_2
           have HR283_3 := Aside0.mk hi283_3
           have HC283_3 := Aside0.mk hl283_3
           clear hi283_3 hl283_3
           replace p283 := eq_true p283
           replace q283 := eq_true q283
           have p284 : 0 ≤ (x6_3 : Int) := of_decide_eq_true (by assumption)
           have q284 : x6_3 < (l1_3.length : Int) := of_decide_eq_true (by assumption)
           obtain ⟨ad284, A284_2, c284_2, A284_3, c284_3, e284, hx284_0, hx284_1, hx284_2, hx284_3, hl284_2, hi284_2, hl284_3, hi284_3⟩ := at_T38 HR1_3.out x6_3 p284 q284
           have hw284_3 := hx284_3
           have hw284_2 := hx284_2
           have hw284_1 := hx284_1
           have hw284_0 := hx284_0
           cases e284
           replace hx284_0 := (HB.out.cell (World.block_lt_of_cell? w _ hx284_0)).trans hx284_0
           replace hx284_1 := (HB.out.cell (World.block_lt_of_cell? w _ hx284_1)).trans hx284_1
           replace hx284_2 := (HB.out.cell (World.block_lt_of_cell? w _ hx284_2)).trans hx284_2
           replace hx284_3 := (HB.out.cell (World.block_lt_of_cell? w _ hx284_3)).trans hx284_3
           have HR284_2 := Aside0.mk hi284_2
           have HC284_2 := Aside0.mk hl284_2
           clear hi284_2 hl284_2
           have HR284_3 := Aside0.mk hi284_3
           have HC284_3 := Aside0.mk hl284_3
           clear hi284_3 hl284_3
           replace p284 := eq_true p284
           replace q284 := eq_true q284
           refine start_ (n := 12) (S := fun w' => w'.cell? ⟨gb279, 0, none⟩ = some (.int .i64 a0_0) ∧ w'.cell? ⟨gb279, 1, none⟩ = some (.string a0_1) ∧ w'.cell? ⟨gb279, 2, none⟩ = some (.slice A0_2 l0_2.length c0_2) ∧ w'.cell? ⟨gb279, 3, none⟩ = some (.slice (some ad283) l0_3.length c0_3) ∧ w'.cell? ⟨gb280, 0, none⟩ = some (.int .i64 a1_0) ∧ w'.cell? ⟨gb280, 1, none⟩ = some (.string a1_1) ∧ w'.cell? ⟨gb280, 2, none⟩ = some (.slice A1_2 l1_2.length c1_2) ∧ w'.cell? ⟨gb280, 3, none⟩ = some (.slice (some ad284) l1_3.length c1_3) ∧ w'.cell? (ad283.add ((x6_3).toNat * 4)) = some (.int .i64 ((rd_T38 l0_3 x6_3).f0)) ∧ w'.cell? ⟨(ad283.add ((x6_3).toNat * 4)).block, (ad283.add ((x6_3).toNat * 4)).off + 1, none⟩ = some (.string ((rd_T38 l0_3 x6_3).f1)) ∧ w'.cell? ⟨(ad283.add ((x6_3).toNat * 4)).block, (ad283.add ((x6_3).toNat * 4)).off + 2, none⟩ = some (.slice A283_2 ((rd_T38 l0_3 x6_3).f2).length c283_2) ∧ w'.cell? ⟨(ad283.add ((x6_3).toNat * 4)).block, (ad283.add ((x6_3).toNat * 4)).off + 3, none⟩ = some (.slice A283_3 ((rd_T38 l0_3 x6_3).f3).length c283_3) ∧ w'.cell? (ad284.add ((x6_3).toNat * 4)) = some (.int .i64 ((rd_T38 l1_3 x6_3).f0)) ∧ w'.cell? ⟨(ad284.add ((x6_3).toNat * 4)).block, (ad284.add ((x6_3).toNat * 4)).off + 1, none⟩ = some (.string ((rd_T38 l1_3 x6_3).f1)) ∧ w'.cell? ⟨(ad284.add ((x6_3).toNat * 4)).block, (ad284.add ((x6_3).toNat * 4)).off + 2, none⟩ = some (.slice A284_2 ((rd_T38 l1_3 x6_3).f2).length c284_2) ∧ w'.cell? ⟨(ad284.add ((x6_3).toNat * 4)).block, (ad284.add ((x6_3).toNat * 4)).off + 3, none⟩ = some (.slice A284_3 ((rd_T38 l1_3 x6_3).f3).length c284_3)) (ds := []) #[false, false, false, false, false, false, false, false, false, false, false, false] (by kernel_rfl) rfl rfl ⟨(blk_cell BK279.out 0).trans rfl, (blk_cell BK279.out 1).trans rfl, (blk_cell BK279.out 2).trans rfl, (blk_cell BK279.out 3).trans rfl, (blk_cell BK280.out 0).trans rfl, (blk_cell BK280.out 1).trans rfl, (blk_cell BK280.out 2).trans rfl, (blk_cell BK280.out 3).trans rfl, ((HB.out.cell (World.block_lt_of_cell? w _ hw283_0)).trans hw283_0), ((HB.out.cell (World.block_lt_of_cell? w _ hw283_1)).trans hw283_1), ((HB.out.cell (World.block_lt_of_cell? w _ hw283_2)).trans hw283_2), ((HB.out.cell (World.block_lt_of_cell? w _ hw283_3)).trans hw283_3), ((HB.out.cell (World.block_lt_of_cell? w _ hw284_0)).trans hw284_0), ((HB.out.cell (World.block_lt_of_cell? w _ hw284_1)).trans hw284_1), ((HB.out.cell (World.block_lt_of_cell? w _ hw284_2)).trans hw284_2), ((HB.out.cell (World.block_lt_of_cell? w _ hw284_3)).trans hw284_3)⟩ (fun hHeld => ?_); refine with_tabW spec_Same.tab11 spec_Same.bits11 (fun HT_ HW_ => ?_)
           generalize wr.drew = w41 at BK279 BK280 HB HR283_2 HR283_3 HR284_2 HR284_3 hx283_0 hx283_1 hx283_2 hx283_3 hx284_0 hx284_1 hx284_2 hx284_3 hHeld ⊢
           refine pure_ (i := 0) (N := some 62) (v := ?_) (a' := ?_) #[true, false, false, false, false, false, false, false, false, false, false, false] rfl rfl (any_of HT_.out (by kernel_rfl)) (fun _ _ _ h => h) (Or.inl ⟨by rfl, ?_⟩) ?_ ?_
           rotate_left
           ·intro w'
            go_simp
            with_reducible rfl
           rotate_left
           ·simp only [Act.put, List.setIfInBounds_toArray, List.set_cons_zero, List.set_cons_succ, i64_w, i32_w]
            rfl
           refine pure_ (i := 2) (N := some 64) (v := ?_) (a' := ?_) #[true, false, true, false, false, false, false, false, false, false, false, false] rfl rfl (any_of HT_.out (by kernel_rfl)) (fun _ _ _ h => h) (Or.inl ⟨by rfl, ?_⟩) ?_ ?_
           rotate_left
           ·intro w'
            go_simp
            with_reducible rfl
           rotate_left
           ·simp only [Act.put, List.setIfInBounds_toArray, List.set_cons_zero, List.set_cons_succ, i64_w, i32_w]
            rfl
           refine pure_ (i := 5) (N := some 67) (v := ?_) (a' := ?_) #[true, false, true, false, false, true, false, false, false, false, false, false] rfl rfl (any_of HT_.out (by kernel_rfl)) (fun _ _ _ h => h) (Or.inl ⟨by rfl, ?_⟩) ?_ ?_
           rotate_left
           ·intro w'
            go_simp
            with_reducible rfl
           rotate_left
           ·simp only [Act.put, List.setIfInBounds_toArray, List.set_cons_zero, List.set_cons_succ, i64_w, i32_w]
            rfl
           refine pure_ (i := 7) (N := some 69) (v := ?_) (a' := ?_) #[true, false, true, false, false, true, false, true, false, false, false, false] rfl rfl (any_of HT_.out (by kernel_rfl)) (fun _ _ _ h => h) (Or.inl ⟨by rfl, ?_⟩) ?_ ?_
           rotate_left
           ·intro w'
            go_simp
            with_reducible rfl
           rotate_left
           ·simp only [Act.put, List.setIfInBounds_toArray, List.set_cons_zero, List.set_cons_succ, i64_w, i32_w]
            rfl
           refine take_ (i := 1) (N := some 63) (v := ?_) (a' := ?_) #[true, true, true, false, false, true, false, true, false, false, false, false] rfl rfl (take_ofW HT_.out HW_.out (by kernel_rfl)) (fun _ _ _ h => h) (Or.inl ⟨by rfl, ?_⟩) hHeld ?_ ?_
           rotate_left
           ·rintro w' ⟨s0, s1, s2, s3, s4, s5, s6, s7, s8, s9, s10, s11, s12, s13, s14, s15⟩
            go_simp
            with_reducible rfl
           rotate_left
           ·simp only [Act.put, List.setIfInBounds_toArray, List.set_cons_zero, List.set_cons_succ, i64_w, i32_w]
            rfl
           refine pure_ (i := 3) (N := some 65) (v := ?_) (a' := ?_) #[true, true, true, true, false, true, false, true, false, false, false, false] rfl rfl (any_of HT_.out (by kernel_rfl)) (fun _ _ _ h => h) (Or.inl ⟨by rfl, ?_⟩) ?_ ?_
           rotate_left
           ·intro w'
            go_simp
            with_reducible rfl
           rotate_left
           ·simp only [Act.put, List.setIfInBounds_toArray, List.set_cons_zero, List.set_cons_succ, i64_w, i32_w]
            rfl
           refine take_ (i := 4) (N := some 66) (v := ?_) (a' := ?_) #[true, true, true, true, true, true, false, true, false, false, false, false] rfl rfl (take_ofW HT_.out HW_.out (by kernel_rfl)) (fun _ _ _ h => h) (Or.inl ⟨by rfl, ?_⟩) hHeld ?_ ?_
           rotate_left
           ·rintro w' ⟨s0, s1, s2, s3, s4, s5, s6, s7, s8, s9, s10, s11, s12, s13, s14, s15⟩
            go_simp
            with_reducible rfl
           rotate_left
           ·simp only [Act.put, List.setIfInBounds_toArray, List.set_cons_zero, List.set_cons_succ, i64_w, i32_w]
            rfl
           refine take_ (i := 6) (N := some 68) (v := ?_) (a' := ?_) #[true, true, true, true, true, true, true, true, false, false, false, false] rfl rfl (take_ofW HT_.out HW_.out (by kernel_rfl)) (fun _ _ _ h => h) (Or.inl ⟨by rfl, ?_⟩) hHeld ?_ ?_
           rotate_left
           ·rintro w' ⟨s0, s1, s2, s3, s4, s5, s6, s7, s8, s9, s10, s11, s12, s13, s14, s15⟩
            go_simp
            with_reducible rfl
           rotate_left
           ·simp only [Act.put, List.setIfInBounds_toArray, List.set_cons_zero, List.set_cons_succ, i64_w, i32_w]
            rfl
           refine pure_ (i := 8) (N := some 70) (v := ?_) (a' := ?_) #[true, true, true, true, true, true, true, true, true, false, false, false] rfl rfl (any_of HT_.out (by kernel_rfl)) (fun _ _ _ h => h) (Or.inl ⟨by rfl, ?_⟩) ?_ ?_
           rotate_left
           ·intro w'
            go_simp
            with_reducible rfl
           rotate_left
           ·simp only [Act.put, List.setIfInBounds_toArray, List.set_cons_zero, List.set_cons_succ, i64_w, i32_w]
            rfl
           refine take_ (i := 9) (N := some 71) (v := ?_) (a' := ?_) #[true, true, true, true, true, true, true, true, true, true, false, false] rfl rfl (take_ofW HT_.out HW_.out (by kernel_rfl)) (fun _ _ _ h => h) (Or.inl ⟨by rfl, ?_⟩) hHeld ?_ ?_
           rotate_left
           ·rintro w' ⟨s0, s1, s2, s3, s4, s5, s6, s7, s8, s9, s10, s11, s12, s13, s14, s15⟩
            go_simp
            with_reducible rfl
           rotate_left
           ·simp only [Act.put, List.setIfInBounds_toArray, List.set_cons_zero, List.set_cons_succ, i64_w, i32_w]
            rfl
           refine one_ (i := 10) (N := some 72) #[true, true, true, true, true, true, true, true, true, true, true, false] rfl rfl (one_of HT_.out (by kernel_rfl)) (by decide) (fun K hK => ?_)
           refine goes_ Tryd.func18 (by kernel_rfl) rfl #[.agg #[.int .i64 ((rd_T38 l0_3 x6_3).f0), .string ((rd_T38 l0_3 x6_3).f1), .slice A283_2 ((rd_T38 l0_3 x6_3).f2).length c283_2, .slice A283_3 ((rd_T38 l0_3 x6_3).f3).length c283_3], .agg #[.int .i64 ((rd_T38 l1_3 x6_3).f0), .string ((rd_T38 l1_3 x6_3).f1), .slice A284_2 ((rd_T38 l1_3 x6_3).f2).length c284_2, .slice A284_3 ((rd_T38 l1_3 x6_3).f3).length c284_3]] (by rfl) rfl rfl (by (try simp only [List.map_toArray, List.map_cons, List.map_nil]); first | done | rfl | (simp only [List.length_drop, List.length_take]; rfl)) ?_
           with_reducible refine (ih k3 (by have := HJ2.out; have := HK2.out; have := HK3.out; omega) ((rd_T38 l0_3 x6_3).f0) ((rd_T38 l0_3 x6_3).f1) _ _ ((rd_T38 l0_3 x6_3).f2) _ _ ((rd_T38 l0_3 x6_3).f3) ((rd_T38 l1_3 x6_3).f0) ((rd_T38 l1_3 x6_3).f1) _ _ ((rd_T38 l1_3 x6_3).f2) _ _ ((rd_T38 l1_3 x6_3).f3) true _ ?side1 ?side2 ?side3 ?side4 ?side5 ?side6 ?side7 ?side8 A37.out).mono ?_
           (case side1 => repeat (first | exact (Kd.C_below HR283_2.out HB.out) | (with_reducible refine Kd.C_alloc ?_ _) | (with_reducible refine Kd.C_drewN ?_ _) | (with_reducible refine Kd.C_drew ?_)))
           (case side2 => exact HC283_2.out)
           (case side3 => repeat (first | exact (Kd.C_below HR283_3.out HB.out) | (with_reducible refine Kd.C_alloc ?_ _) | (with_reducible refine Kd.C_drewN ?_ _) | (with_reducible refine Kd.C_drew ?_)))
           (case side4 => exact HC283_3.out)
           (case side5 => repeat (first | exact (Kd.C_below HR284_2.out HB.out) | (with_reducible refine Kd.C_alloc ?_ _) | (with_reducible refine Kd.C_drewN ?_ _) | (with_reducible refine Kd.C_drew ?_)))
           (case side6 => exact HC284_2.out)
           (case side7 => repeat (first | exact (Kd.C_below HR284_3.out HB.out) | (with_reducible refine Kd.C_alloc ?_ _) | (with_reducible refine Kd.C_drewN ?_ _) | (with_reducible refine Kd.C_drew ?_)))
           (case side8 => exact HC284_3.out)
           rintro e w42 ⟨rfl, hb⟩
           refine ⟨_, rfl, ?_⟩
           have n0_ := Aside0.mk (blk_below (g := gb279) (o := .cells #[.int .i64 a0_0, .string a0_1, .slice A0_2 l0_2.length c0_2, .slice (some ad283) l0_3.length c0_3] 38 (0, 0)) (by (with_reducible repeat (first | refine blk_drewN ?_ _ | refine blk_drew ?_ | refine blk_alloc ?_ _)); exact BK279.out) hb)
           have n1_ := Aside0.mk (blk_below (g := gb280) (o := .cells #[.int .i64 a1_0, .string a1_1, .slice A1_2 l1_2.length c1_2, .slice (some ad284) l1_3.length c1_3] 38 (0, 0)) (by (with_reducible repeat (first | refine blk_drewN ?_ _ | refine blk_drew ?_ | refine blk_alloc ?_ _)); exact BK280.out) hb)
           have n2_ := Aside0.mk (below_step (by repeat (first | (with_reducible first | exact HB.out | apply below_alloc | apply pw_below_drewN | apply below_drew1 | refine below_set ?_ GE279.out | refine below_set ?_ GE280.out) | exact HB.out)) hb)
           clear BK279
           clear BK280
           clear HB
           have BK279 := n0_
           have BK280 := n1_
           have HB := n2_
           clear n0_ n1_ n2_
           (try clear hb)
           (try clear hb2)
           (try clear hk)
           (try clear hi)
           refine hK.out _ _ ⟨(blk_cell BK279.out 0).trans rfl, (blk_cell BK279.out 1).trans rfl, (blk_cell BK279.out 2).trans rfl, (blk_cell BK279.out 3).trans rfl, (blk_cell BK280.out 0).trans rfl, (blk_cell BK280.out 1).trans rfl, (blk_cell BK280.out 2).trans rfl, (blk_cell BK280.out 3).trans rfl, ((HB.out.cell (World.block_lt_of_cell? w _ hw283_0)).trans hw283_0), ((HB.out.cell (World.block_lt_of_cell? w _ hw283_1)).trans hw283_1), ((HB.out.cell (World.block_lt_of_cell? w _ hw283_2)).trans hw283_2), ((HB.out.cell (World.block_lt_of_cell? w _ hw283_3)).trans hw283_3), ((HB.out.cell (World.block_lt_of_cell? w _ hw284_0)).trans hw284_0), ((HB.out.cell (World.block_lt_of_cell? w _ hw284_1)).trans hw284_1), ((HB.out.cell (World.block_lt_of_cell? w _ hw284_2)).trans hw284_2), ((HB.out.cell (World.block_lt_of_cell? w _ hw284_3)).trans hw284_3)⟩ (fun hHeld => ?_)
           clear hK K
           refine norm_ (a' := ?_) ?_ ?_
           rotate_left
           ·show Act.put _ (some 72) _ = _
            simp only [Act.put, List.setIfInBounds_toArray, List.set_cons_zero, List.set_cons_succ, i64_w, i32_w]
            rfl
           refine pure_ (i := 11) (N := some 73) (v := ?_) (a' := ?_) #[true, true, true, true, true, true, true, true, true, true, true, true] rfl rfl (any_of HT_.out (by kernel_rfl)) (fun _ _ _ h => h) (Or.inl ⟨by rfl, ?_⟩) ?_ ?_
           rotate_left
           ·intro w'
            go_simp
            with_reducible rfl
           rotate_left
           ·simp only [Act.put, List.setIfInBounds_toArray, List.set_cons_zero, List.set_cons_succ, i64_w, i32_w]
            rfl
           refine done_ (done_of HT_.out (by kernel_rfl)) ?_
           try go_wp2
           go_roundg k3
           case measure => have := HJ2.out; have := HK2.out; have := HK3.out; omega
           case rel => exact ⟨(wrap64 (x6_3 + 1)), (by first | rfl | (simp; done) | (simp [*]; done)), H', ⟨by have := HJ2.out; have := HK2.out; have := HK3.out; omega⟩, ⟨by (with_reducible repeat (first | refine blk_drewN ?_ _ | refine blk_drew ?_ | refine blk_alloc ?_ _)); exact BK279.out⟩, ⟨by (with_reducible repeat (first | refine blk_drewN ?_ _ | refine blk_drew ?_ | refine blk_alloc ?_ _)); exact BK280.out⟩, ⟨by repeat (first | (with_reducible first | exact HB.out | apply below_alloc | apply pw_below_drewN | apply below_drew1 | refine below_set ?_ GE279.out | refine below_set ?_ GE280.out) | exact HB.out)⟩⟩
          replace c38 := Bool.eq_false_iff.mpr c38
          subst c38
          have H1 : (some false) = some r := by rw [if_neg (show ¬ (false = true) by decide)] at H; exact H
          clear H
          have H := H1
          clear H1
          obtain rfl := Option.some.inj H
          have hnb43 := NB279_280.out
          have hnc43 := NB280_279.out
          have hcz44_0 : wr.cell? ⟨gb279, 0, none⟩ = some (.int .i64 a0_0) := (blk_cell BK279.out 0).trans rfl
          have hcz44_1 : wr.cell? ⟨gb279, 1, none⟩ = some (.string a0_1) := (blk_cell BK279.out 1).trans rfl
          have hcz44_2 : wr.cell? ⟨gb279, 2, none⟩ = some (.slice A0_2 l0_2.length c0_2) := (blk_cell BK279.out 2).trans rfl
          have hcz44_3 : wr.cell? ⟨gb279, 3, none⟩ = some (.slice A0_3 l0_3.length c0_3) := (blk_cell BK279.out 3).trans rfl
          have hfz44_0 := blk_frozen BK279.out 0
          have hfz44_1 := blk_frozen BK279.out 1
          have hfz44_2 := blk_frozen BK279.out 2
          have hfz44_3 := blk_frozen BK279.out 3
          try go_wp2
          have n0_ := Aside0.mk (blk_drew BK279.out)
          have n1_ := Aside0.mk (blk_drew BK280.out)
          have n2_ := Aside0.mk (below_drew1 HB.out)
          clear BK279
          clear BK280
          clear HB
          have BK279 := n0_
          have BK280 := n1_
          have HB := n2_
          clear n0_ n1_ n2_
          have p283 : 0 ≤ (x6_3 : Int) := of_decide_eq_true (by assumption)
          have q283 : x6_3 < (l0_3.length : Int) := of_decide_eq_true (by assumption)
          obtain ⟨ad283, A283_2, c283_2, A283_3, c283_3, e283, hx283_0, hx283_1, hx283_2, hx283_3, hl283_2, hi283_2, hl283_3, hi283_3⟩ := at_T38 HR0_3.out x6_3 p283 q283
          have hw283_3 := hx283_3
          have hw283_2 := hx283_2
          have hw283_1 := hx283_1
          have hw283_0 := hx283_0
          cases e283
          replace hx283_0 := (HB.out.cell (World.block_lt_of_cell? w _ hx283_0)).trans hx283_0
          replace hx283_1 := (HB.out.cell (World.block_lt_of_cell? w _ hx283_1)).trans hx283_1
          replace hx283_2 := (HB.out.cell (World.block_lt_of_cell? w _ hx283_2)).trans hx283_2
          replace hx283_3 := (HB.out.cell (World.block_lt_of_cell? w _ hx283_3)).trans hx283_3
          have HR283_2 := Aside0.mk hi283_2
          have HC283_2 := Aside0.mk hl283_2
          clear hi283_2 hl283_2
          have HR283_3 := Aside0.mk hi283_3
          have HC283_3 := Aside0.mk hl283_3
          clear hi283_3 hl283_3
          replace p283 := eq_true p283
          replace q283 := eq_true q283
          have p284 : 0 ≤ (x6_3 : Int) := of_decide_eq_true (by assumption)
          have q284 : x6_3 < (l1_3.length : Int) := of_decide_eq_true (by assumption)
          obtain ⟨ad284, A284_2, c284_2, A284_3, c284_3, e284, hx284_0, hx284_1, hx284_2, hx284_3, hl284_2, hi284_2, hl284_3, hi284_3⟩ := at_T38 HR1_3.out x6_3 p284 q284
          have hw284_3 := hx284_3
          have hw284_2 := hx284_2
          have hw284_1 := hx284_1
          have hw284_0 := hx284_0
          cases e284
          replace hx284_0 := (HB.out.cell (World.block_lt_of_cell? w _ hx284_0)).trans hx284_0
          replace hx284_1 := (HB.out.cell (World.block_lt_of_cell? w _ hx284_1)).trans hx284_1
          replace hx284_2 := (HB.out.cell (World.block_lt_of_cell? w _ hx284_2)).trans hx284_2
          replace hx284_3 := (HB.out.cell (World.block_lt_of_cell? w _ hx284_3)).trans hx284_3
          have HR284_2 := Aside0.mk hi284_2
          have HC284_2 := Aside0.mk hl284_2
          clear hi284_2 hl284_2
          have HR284_3 := Aside0.mk hi284_3
          have HC284_3 := Aside0.mk hl284_3
          clear hi284_3 hl284_3
          replace p284 := eq_true p284
          replace q284 := eq_true q284
          refine start_ (n := 12) (S := fun w' => w'.cell? ⟨gb279, 0, none⟩ = some (.int .i64 a0_0) ∧ w'.cell? ⟨gb279, 1, none⟩ = some (.string a0_1) ∧ w'.cell? ⟨gb279, 2, none⟩ = some (.slice A0_2 l0_2.length c0_2) ∧ w'.cell? ⟨gb279, 3, none⟩ = some (.slice (some ad283) l0_3.length c0_3) ∧ w'.cell? ⟨gb280, 0, none⟩ = some (.int .i64 a1_0) ∧ w'.cell? ⟨gb280, 1, none⟩ = some (.string a1_1) ∧ w'.cell? ⟨gb280, 2, none⟩ = some (.slice A1_2 l1_2.length c1_2) ∧ w'.cell? ⟨gb280, 3, none⟩ = some (.slice (some ad284) l1_3.length c1_3) ∧ w'.cell? (ad283.add ((x6_3).toNat * 4)) = some (.int .i64 ((rd_T38 l0_3 x6_3).f0)) ∧ w'.cell? ⟨(ad283.add ((x6_3).toNat * 4)).block, (ad283.add ((x6_3).toNat * 4)).off + 1, none⟩ = some (.string ((rd_T38 l0_3 x6_3).f1)) ∧ w'.cell? ⟨(ad283.add ((x6_3).toNat * 4)).block, (ad283.add ((x6_3).toNat * 4)).off + 2, none⟩ = some (.slice A283_2 ((rd_T38 l0_3 x6_3).f2).length c283_2) ∧ w'.cell? ⟨(ad283.add ((x6_3).toNat * 4)).block, (ad283.add ((x6_3).toNat * 4)).off + 3, none⟩ = some (.slice A283_3 ((rd_T38 l0_3 x6_3).f3).length c283_3) ∧ w'.cell? (ad284.add ((x6_3).toNat * 4)) = some (.int .i64 ((rd_T38 l1_3 x6_3).f0)) ∧ w'.cell? ⟨(ad284.add ((x6_3).toNat * 4)).block, (ad284.add ((x6_3).toNat * 4)).off + 1, none⟩ = some (.string ((rd_T38 l1_3 x6_3).f1)) ∧ w'.cell? ⟨(ad284.add ((x6_3).toNat * 4)).block, (ad284.add ((x6_3).toNat * 4)).off + 2, none⟩ = some (.slice A284_2 ((rd_T38 l1_3 x6_3).f2).length c284_2) ∧ w'.cell? ⟨(ad284.add ((x6_3).toNat * 4)).block, (ad284.add ((x6_3).toNat * 4)).off + 3, none⟩ = some (.slice A284_3 ((rd_T38 l1_3 x6_3).f3).length c284_3)) (ds := []) #[false, false, false, false, false, false, false, false, false, false, false, false] (by kernel_rfl) rfl rfl ⟨(blk_cell BK279.out 0).trans rfl, (blk_cell BK279.out 1).trans rfl, (blk_cell BK279.out 2).trans rfl, (blk_cell BK279.out 3).trans rfl, (blk_cell BK280.out 0).trans rfl, (blk_cell BK280.out 1).trans rfl, (blk_cell BK280.out 2).trans rfl, (blk_cell BK280.out 3).trans rfl, ((HB.out.cell (World.block_lt_of_cell? w _ hw283_0)).trans hw283_0), ((HB.out.cell (World.block_lt_of_cell? w _ hw283_1)).trans hw283_1), ((HB.out.cell (World.block_lt_of_cell? w _ hw283_2)).trans hw283_2), ((HB.out.cell (World.block_lt_of_cell? w _ hw283_3)).trans hw283_3), ((HB.out.cell (World.block_lt_of_cell? w _ hw284_0)).trans hw284_0), ((HB.out.cell (World.block_lt_of_cell? w _ hw284_1)).trans hw284_1), ((HB.out.cell (World.block_lt_of_cell? w _ hw284_2)).trans hw284_2), ((HB.out.cell (World.block_lt_of_cell? w _ hw284_3)).trans hw284_3)⟩ (fun hHeld => ?_); refine with_tabW spec_Same.tab11 spec_Same.bits11 (fun HT_ HW_ => ?_)
          generalize wr.drew = w45 at BK279 BK280 HB HR283_2 HR283_3 HR284_2 HR284_3 hx283_0 hx283_1 hx283_2 hx283_3 hx284_0 hx284_1 hx284_2 hx284_3 hHeld ⊢
          refine pure_ (i := 0) (N := some 62) (v := ?_) (a' := ?_) #[true, false, false, false, false, false, false, false, false, false, false, false] rfl rfl (any_of HT_.out (by kernel_rfl)) (fun _ _ _ h => h) (Or.inl ⟨by rfl, ?_⟩) ?_ ?_
          rotate_left
          ·intro w'
           go_simp
           with_reducible rfl
          rotate_left
          ·simp only [Act.put, List.setIfInBounds_toArray, List.set_cons_zero, List.set_cons_succ, i64_w, i32_w]
           rfl
          refine pure_ (i := 2) (N := some 64) (v := ?_) (a' := ?_) #[true, false, true, false, false, false, false, false, false, false, false, false] rfl rfl (any_of HT_.out (by kernel_rfl)) (fun _ _ _ h => h) (Or.inl ⟨by rfl, ?_⟩) ?_ ?_
          rotate_left
          ·intro w'
           go_simp
           with_reducible rfl
          rotate_left
          ·simp only [Act.put, List.setIfInBounds_toArray, List.set_cons_zero, List.set_cons_succ, i64_w, i32_w]
           rfl
          refine pure_ (i := 5) (N := some 67) (v := ?_) (a' := ?_) #[true, false, true, false, false, true, false, false, false, false, false, false] rfl rfl (any_of HT_.out (by kernel_rfl)) (fun _ _ _ h => h) (Or.inl ⟨by rfl, ?_⟩) ?_ ?_
          rotate_left
          ·intro w'
           go_simp
           with_reducible rfl
          rotate_left
          ·simp only [Act.put, List.setIfInBounds_toArray, List.set_cons_zero, List.set_cons_succ, i64_w, i32_w]
           rfl
          refine pure_ (i := 7) (N := some 69) (v := ?_) (a' := ?_) #[true, false, true, false, false, true, false, true, false, false, false, false] rfl rfl (any_of HT_.out (by kernel_rfl)) (fun _ _ _ h => h) (Or.inl ⟨by rfl, ?_⟩) ?_ ?_
          rotate_left
          ·intro w'
           go_simp
           with_reducible rfl
          rotate_left
          ·simp only [Act.put, List.setIfInBounds_toArray, List.set_cons_zero, List.set_cons_succ, i64_w, i32_w]
           rfl
          refine take_ (i := 1) (N := some 63) (v := ?_) (a' := ?_) #[true, true, true, false, false, true, false, true, false, false, false, false] rfl rfl (take_ofW HT_.out HW_.out (by kernel_rfl)) (fun _ _ _ h => h) (Or.inl ⟨by rfl, ?_⟩) hHeld ?_ ?_
          rotate_left
          ·rintro w' ⟨s0, s1, s2, s3, s4, s5, s6, s7, s8, s9, s10, s11, s12, s13, s14, s15⟩
           go_simp
           with_reducible rfl
          rotate_left
          ·simp only [Act.put, List.setIfInBounds_toArray, List.set_cons_zero, List.set_cons_succ, i64_w, i32_w]
           rfl
          refine pure_ (i := 3) (N := some 65) (v := ?_) (a' := ?_) #[true, true, true, true, false, true, false, true, false, false, false, false] rfl rfl (any_of HT_.out (by kernel_rfl)) (fun _ _ _ h => h) (Or.inl ⟨by rfl, ?_⟩) ?_ ?_
          rotate_left
          ·intro w'
           go_simp
           with_reducible rfl
          rotate_left
          ·simp only [Act.put, List.setIfInBounds_toArray, List.set_cons_zero, List.set_cons_succ, i64_w, i32_w]
           rfl
          refine take_ (i := 4) (N := some 66) (v := ?_) (a' := ?_) #[true, true, true, true, true, true, false, true, false, false, false, false] rfl rfl (take_ofW HT_.out HW_.out (by kernel_rfl)) (fun _ _ _ h => h) (Or.inl ⟨by rfl, ?_⟩) hHeld ?_ ?_
          rotate_left
          ·rintro w' ⟨s0, s1, s2, s3, s4, s5, s6, s7, s8, s9, s10, s11, s12, s13, s14, s15⟩
           go_simp
           with_reducible rfl
          rotate_left
          ·simp only [Act.put, List.setIfInBounds_toArray, List.set_cons_zero, List.set_cons_succ, i64_w, i32_w]
           rfl
          refine take_ (i := 6) (N := some 68) (v := ?_) (a' := ?_) #[true, true, true, true, true, true, true, true, false, false, false, false] rfl rfl (take_ofW HT_.out HW_.out (by kernel_rfl)) (fun _ _ _ h => h) (Or.inl ⟨by rfl, ?_⟩) hHeld ?_ ?_
          rotate_left
          ·rintro w' ⟨s0, s1, s2, s3, s4, s5, s6, s7, s8, s9, s10, s11, s12, s13, s14, s15⟩
           go_simp
           with_reducible rfl
          rotate_left
          ·simp only [Act.put, List.setIfInBounds_toArray, List.set_cons_zero, List.set_cons_succ, i64_w, i32_w]
           rfl
          refine pure_ (i := 8) (N := some 70) (v := ?_) (a' := ?_) #[true, true, true, true, true, true, true, true, true, false, false, false] rfl rfl (any_of HT_.out (by kernel_rfl)) (fun _ _ _ h => h) (Or.inl ⟨by rfl, ?_⟩) ?_ ?_
          rotate_left
          ·intro w'
           go_simp
           with_reducible rfl
          rotate_left
          ·simp only [Act.put, List.setIfInBounds_toArray, List.set_cons_zero, List.set_cons_succ, i64_w, i32_w]
           rfl
          refine take_ (i := 9) (N := some 71) (v := ?_) (a' := ?_) #[true, true, true, true, true, true, true, true, true, true, false, false] rfl rfl (take_ofW HT_.out HW_.out (by kernel_rfl)) (fun _ _ _ h => h) (Or.inl ⟨by rfl, ?_⟩) hHeld ?_ ?_
          rotate_left
          ·rintro w' ⟨s0, s1, s2, s3, s4, s5, s6, s7, s8, s9, s10, s11, s12, s13, s14, s15⟩
           go_simp
           with_reducible rfl
          rotate_left
          ·simp only [Act.put, List.setIfInBounds_toArray, List.set_cons_zero, List.set_cons_succ, i64_w, i32_w]
           rfl
          refine one_ (i := 10) (N := some 72) #[true, true, true, true, true, true, true, true, true, true, true, false] rfl rfl (one_of HT_.out (by kernel_rfl)) (by decide) (fun K hK => ?_)
          refine goes_ Tryd.func18 (by kernel_rfl) rfl #[.agg #[.int .i64 ((rd_T38 l0_3 x6_3).f0), .string ((rd_T38 l0_3 x6_3).f1), .slice A283_2 ((rd_T38 l0_3 x6_3).f2).length c283_2, .slice A283_3 ((rd_T38 l0_3 x6_3).f3).length c283_3], .agg #[.int .i64 ((rd_T38 l1_3 x6_3).f0), .string ((rd_T38 l1_3 x6_3).f1), .slice A284_2 ((rd_T38 l1_3 x6_3).f2).length c284_2, .slice A284_3 ((rd_T38 l1_3 x6_3).f3).length c284_3]] (by rfl) rfl rfl (by (try simp only [List.map_toArray, List.map_cons, List.map_nil]); first | done | rfl | (simp only [List.length_drop, List.length_take]; rfl)) ?_
          with_reducible refine (ih k3 (by have := HJ2.out; have := HK2.out; have := HK3.out; omega) ((rd_T38 l0_3 x6_3).f0) ((rd_T38 l0_3 x6_3).f1) _ _ ((rd_T38 l0_3 x6_3).f2) _ _ ((rd_T38 l0_3 x6_3).f3) ((rd_T38 l1_3 x6_3).f0) ((rd_T38 l1_3 x6_3).f1) _ _ ((rd_T38 l1_3 x6_3).f2) _ _ ((rd_T38 l1_3 x6_3).f3) false _ ?side1 ?side2 ?side3 ?side4 ?side5 ?side6 ?side7 ?side8 A37.out).mono ?_
          (case side1 => repeat (first | exact (Kd.C_below HR283_2.out HB.out) | (with_reducible refine Kd.C_alloc ?_ _) | (with_reducible refine Kd.C_drewN ?_ _) | (with_reducible refine Kd.C_drew ?_)))
          (case side2 => exact HC283_2.out)
          (case side3 => repeat (first | exact (Kd.C_below HR283_3.out HB.out) | (with_reducible refine Kd.C_alloc ?_ _) | (with_reducible refine Kd.C_drewN ?_ _) | (with_reducible refine Kd.C_drew ?_)))
          (case side4 => exact HC283_3.out)
          (case side5 => repeat (first | exact (Kd.C_below HR284_2.out HB.out) | (with_reducible refine Kd.C_alloc ?_ _) | (with_reducible refine Kd.C_drewN ?_ _) | (with_reducible refine Kd.C_drew ?_)))
          (case side6 => exact HC284_2.out)
          (case side7 => repeat (first | exact (Kd.C_below HR284_3.out HB.out) | (with_reducible refine Kd.C_alloc ?_ _) | (with_reducible refine Kd.C_drewN ?_ _) | (with_reducible refine Kd.C_drew ?_)))
          (case side8 => exact HC284_3.out)
          rintro e w46 ⟨rfl, hb⟩
          refine ⟨_, rfl, ?_⟩
          have n0_ := Aside0.mk (blk_below (g := gb279) (o := .cells #[.int .i64 a0_0, .string a0_1, .slice A0_2 l0_2.length c0_2, .slice (some ad283) l0_3.length c0_3] 38 (0, 0)) (by (with_reducible repeat (first | refine blk_drewN ?_ _ | refine blk_drew ?_ | refine blk_alloc ?_ _)); exact BK279.out) hb)
          have n1_ := Aside0.mk (blk_below (g := gb280) (o := .cells #[.int .i64 a1_0, .string a1_1, .slice A1_2 l1_2.length c1_2, .slice (some ad284) l1_3.length c1_3] 38 (0, 0)) (by (with_reducible repeat (first | refine blk_drewN ?_ _ | refine blk_drew ?_ | refine blk_alloc ?_ _)); exact BK280.out) hb)
          have n2_ := Aside0.mk (below_step (by repeat (first | (with_reducible first | exact HB.out | apply below_alloc | apply pw_below_drewN | apply below_drew1 | refine below_set ?_ GE279.out | refine below_set ?_ GE280.out) | exact HB.out)) hb)
          clear BK279
          clear BK280
          clear HB
          have BK279 := n0_
          have BK280 := n1_
          have HB := n2_
          clear n0_ n1_ n2_
          (try clear hb)
          (try clear hb2)
          (try clear hk)
          (try clear hi)
          refine hK.out _ _ ⟨(blk_cell BK279.out 0).trans rfl, (blk_cell BK279.out 1).trans rfl, (blk_cell BK279.out 2).trans rfl, (blk_cell BK279.out 3).trans rfl, (blk_cell BK280.out 0).trans rfl, (blk_cell BK280.out 1).trans rfl, (blk_cell BK280.out 2).trans rfl, (blk_cell BK280.out 3).trans rfl, ((HB.out.cell (World.block_lt_of_cell? w _ hw283_0)).trans hw283_0), ((HB.out.cell (World.block_lt_of_cell? w _ hw283_1)).trans hw283_1), ((HB.out.cell (World.block_lt_of_cell? w _ hw283_2)).trans hw283_2), ((HB.out.cell (World.block_lt_of_cell? w _ hw283_3)).trans hw283_3), ((HB.out.cell (World.block_lt_of_cell? w _ hw284_0)).trans hw284_0), ((HB.out.cell (World.block_lt_of_cell? w _ hw284_1)).trans hw284_1), ((HB.out.cell (World.block_lt_of_cell? w _ hw284_2)).trans hw284_2), ((HB.out.cell (World.block_lt_of_cell? w _ hw284_3)).trans hw284_3)⟩ (fun hHeld => ?_)
          clear hK K
          refine norm_ (a' := ?_) ?_ ?_
          rotate_left
          ·show Act.put _ (some 72) _ = _
           simp only [Act.put, List.setIfInBounds_toArray, List.set_cons_zero, List.set_cons_succ, i64_w, i32_w]
           rfl
          refine pure_ (i := 11) (N := some 73) (v := ?_) (a' := ?_) #[true, true, true, true, true, true, true, true, true, true, true, true] rfl rfl (any_of HT_.out (by kernel_rfl)) (fun _ _ _ h => h) (Or.inl ⟨by rfl, ?_⟩) ?_ ?_
          rotate_left
          ·intro w'
           go_simp
           with_reducible rfl
          rotate_left
          ·simp only [Act.put, List.setIfInBounds_toArray, List.set_cons_zero, List.set_cons_succ, i64_w, i32_w]
           rfl
          refine done_ (done_of HT_.out (by kernel_rfl)) ?_
          try go_wp2
          go_ret
          exact ⟨by first | rfl | (simp [errW_none, errW_some] <;> rfl) | (simp [*, errW_none, errW_some] <;> rfl) | (simp [errW_none, errW_some] <;> exact ⟨rfl, rfl⟩) | (simp [*, errW_none, errW_some] <;> exact ⟨rfl, rfl⟩), by repeat (first | (with_reducible first | exact HB.out | apply below_alloc | apply pw_below_drewN | apply below_drew1 | refine below_set ?_ GE279.out | refine below_set ?_ GE280.out) | exact HB.out)⟩
         rw [if_neg c36] at H
         exact absurd H (by simp)
        rw [if_neg c35] at H
        exact absurd H (by simp)
       rw [if_neg c34] at H
       have c34b0 : decide (x6_3 < (l0_3.length : Int)) = false := decide_eq_false c34
       clear c34
       obtain rfl := Option.some.inj H
       have hnb47 := NB279_280.out
       have hnc47 := NB280_279.out
       have hcz48_0 : wr.cell? ⟨gb279, 0, none⟩ = some (.int .i64 a0_0) := (blk_cell BK279.out 0).trans rfl
       have hcz48_1 : wr.cell? ⟨gb279, 1, none⟩ = some (.string a0_1) := (blk_cell BK279.out 1).trans rfl
       have hcz48_2 : wr.cell? ⟨gb279, 2, none⟩ = some (.slice A0_2 l0_2.length c0_2) := (blk_cell BK279.out 2).trans rfl
       have hcz48_3 : wr.cell? ⟨gb279, 3, none⟩ = some (.slice A0_3 l0_3.length c0_3) := (blk_cell BK279.out 3).trans rfl
       have hfz48_0 := blk_frozen BK279.out 0
       have hfz48_1 := blk_frozen BK279.out 1
       have hfz48_2 := blk_frozen BK279.out 2
       have hfz48_3 := blk_frozen BK279.out 3
       go_wp2
       go_ret
       exact ⟨by first | rfl | (simp [errW_none, errW_some] <;> rfl) | (simp [*, errW_none, errW_some] <;> rfl) | (simp [errW_none, errW_some] <;> exact ⟨rfl, rfl⟩) | (simp [*, errW_none, errW_some] <;> exact ⟨rfl, rfl⟩), by repeat (first | (with_reducible first | exact HB.out | apply below_alloc | apply pw_below_drewN | apply below_drew1 | refine below_set ?_ GE279.out | refine below_set ?_ GE280.out) | exact HB.out)⟩
end Go.Proofs.YtnajijaachgipaaDoor.PT
end
section
namespace Go.Proofs.YtnajijaachgipaaDoor.PT
open Go.RowKit Go.Proofs.YtnajijaachgipaaDoorW.PrintWords Go.Proofs.YtnajijaachgipaaDoorW.PrintLast Go.Proofs.YtnajijaachgipaaDoorW.PrintMore
attribute [local go_sem] max2_int min2_int max_two min_two max_three min_three max_four min_four   -- for this text's walks alone
set_option linter.unusedVariables false
set_option linter.unusedSimpArgs false
/-! ### strings_IndexByte: function 87, by hand -/
def strings_IndexByte.f (a0 : ByteArray) (a1 : Int) : Option Int := some (Lib.indexByte a0.data.toList a1.toNat.toUInt8)
set_option maxHeartbeats 1000000 in
set_option maxRecDepth 100000 in
theorem strings_IndexByte.calls (a0 : ByteArray) (a1 : Int) (r : Int) (w : World) (h : strings_IndexByte.f a0 a1 = some r) :
  Calls Tryd.prog 87 #[.string a0, .int .u8 a1] w fun e w' => e = .returned (.int .i64 r) ∧ Drawn0 w w' := by
 obtain rfl := Option.some.inj h
 go_enter Tryd.func87, Tryd.ntmps87
 go_wp2
 rw [run_callFunc_extern Tryd.func121 (by kernel_rfl) (by kernel_rfl) (by kernel_rfl) (e := Extern.BytealgIndexByte.indexByte) (by kernel_rfl), Lib.run_indexByteString]
 simp only [Result.andThen]
 rw [Oper.upon_value]
 go_wp2
 go_ret
 exact ⟨rfl, Drawn0.refl _⟩
end Go.Proofs.YtnajijaachgipaaDoor.PT
end
section
namespace Go.Proofs.YtnajijaachgipaaDoor.PT
open Go.RowKit Go.Proofs.YtnajijaachgipaaDoorW.PrintWords Go.Proofs.YtnajijaachgipaaDoorW.PrintLast Go.Proofs.YtnajijaachgipaaDoorW.PrintMore
attribute [local go_sem] max2_int min2_int max_two min_two max_three min_three max_four min_four   -- for this text's walks alone
set_option linter.unusedVariables false
set_option linter.unusedSimpArgs false
/-! ### utf16_IsSurrogate: function 89 -/
def utf16_IsSurrogate.f (a0 : Int) : Option (Bool) := if 55296 ≤ a0 then (some (decide (a0 < 57344))) else (some false)
set_option maxHeartbeats 8000000 in
set_option maxRecDepth 100000 in
theorem utf16_IsSurrogate.calls (a0 : Int) (r : Bool) (w : World) (h : utf16_IsSurrogate.f a0 = some r) :
  Calls Tryd.prog 89 #[.int .i32 a0] w fun e w' => e = .returned (.bool r) ∧ Drawn0 w w' := by
 have H : (if 55296 ≤ a0 then (some (decide (a0 < 57344))) else (some false)) = some r := h
 clear h
 by_cases c2 : 55296 ≤ a0
 ·rw [if_pos c2] at H
  have c2b0 : decide (55296 ≤ a0) = true := decide_eq_true c2
  clear c2
  obtain rfl := Option.some.inj H
  go_enter Tryd.func89, Tryd.ntmps89
  go_wp2
  go_ret
  exact ⟨by first | rfl | (simp; done) | (simp [*]; done), by repeat (first | exact Drawn0.refl _ | apply Drawn0.step)⟩
 rw [if_neg c2] at H
 have c2b0 : decide (55296 ≤ a0) = false := decide_eq_false c2
 clear c2
 obtain rfl := Option.some.inj H
 go_enter Tryd.func89, Tryd.ntmps89
 go_wp2
 go_ret
 exact ⟨by first | rfl | (simp; done) | (simp [*]; done), by repeat (first | exact Drawn0.refl _ | apply Drawn0.step)⟩
end Go.Proofs.YtnajijaachgipaaDoor.PT
end
