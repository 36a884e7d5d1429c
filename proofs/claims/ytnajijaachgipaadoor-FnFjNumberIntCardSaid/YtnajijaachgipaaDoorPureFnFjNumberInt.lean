/- Int64 and Int of a number that was made of a text (at most 1000 bytes, no plus sign ahead) give the whole number that the text is, and an error for every other text; no condition at all. -/
import Derived.Test.YtnajijaachgipaaDoorPFx10
import Derived.Test.YtnajijaachgipaaDoorPFx4
import Derived.Test.YtnajijaachgipaaDoorPFx5
import Derived.Test.YtnajijaachgipaaDoorPFx6
import Derived.Test.YtnajijaachgipaaDoorPFx7
import Derived.Test.YtnajijaachgipaaDoorPFx8
import Derived.Test.YtnajijaachgipaaDoorPFx9
import Derived.Test.YtnajijaachgipaaDoorJByt
import Derived.Lib.ParseIntBCases
namespace Go.Proofs.YtnajijaachgipaaDoor.Pure
open Go.RowKit Go.Proofs.YtnajijaachgipaaDoor.PF Go.Proofs.YtnajijaachgipaaDoor.J Go.Proofs.YtnajijaachgipaaDoorW.PrintWords Go.Proofs.YtnajijaachgipaaDoorW.PrintLast
set_option linter.unusedSimpArgs false
set_option linter.unusedVariables false
/-- The number of decimal digits, as long as it may be. -/
def dec (acc : Nat) : List UInt8 → Option Nat
  | [] => some acc
  | c :: r => if 48 ≤ c.toNat ∧ c.toNat ≤ 57 then dec (acc * 10 + (c.toNat - 48)) r else none
def num (l : List UInt8) : Option Nat := if l = [] then none else dec 0 l
def sgn (neg : Bool) : Option Nat → Option Int
  | none => none
  | some u => if neg then (if u ≤ 9223372036854775808 then some (-(u : Int)) else none) else (if u < 9223372036854775808 then some (u : Int) else none)
theorem dec_ge : ∀ {l : List UInt8} {acc u : Nat}, dec acc l = some u → acc ≤ u
  | [], acc, u, h => by rw [dec] at h; injection h with h; omega
  | c :: r, acc, u, h => by
    rw [dec] at h
    split at h
    · have := dec_ge h; omega
    · cases h
theorem parse_dec : ∀ (l : List UInt8) (acc : Nat), acc ≤ 18446744073709551615 → ∀ u, Lib.parseUintM 18446744073709551615 acc l = .ok u ↔ dec acc l = some u ∧ u ≤ 18446744073709551615
  | [], acc, ha, u => by
    rw [Lib.parseUintM, dec]
    constructor
    · intro h; injection h with h; subst h; exact ⟨rfl, ha⟩
    · rintro ⟨h, _⟩; injection h with h; rw [h]
  | c :: r, acc, ha, u => by
    rw [Lib.parseUintM, dec]
    by_cases hc : 48 ≤ c.toNat ∧ c.toNat ≤ 57
    · rw [if_pos hc, if_pos hc]
      by_cases h1 : 1844674407370955162 ≤ acc
      · rw [if_pos h1]
        constructor
        · intro h; cases h
        · rintro ⟨h, hu⟩; have := dec_ge h; omega
      · rw [if_neg h1]
        by_cases h2 : 18446744073709551615 < acc * 10 + (c.toNat - 48)
        · rw [if_pos h2]
          constructor
          · intro h; cases h
          · rintro ⟨h, hu⟩; have := dec_ge h; omega
        · rw [if_neg h2]
          exact parse_dec r _ (by omega) u
    · rw [if_neg hc, if_neg hc]
      constructor
      · intro h; cases h
      · rintro ⟨h, _⟩; cases h
theorem parseB_num (l : List UInt8) (u : Nat) : Lib.parseUintB 64 l = .ok u ↔ num l = some u ∧ u ≤ 18446744073709551615 := by
  have e : (2 : Nat) ^ 64 - 1 = 18446744073709551615 := by decide
  unfold Lib.parseUintB num
  by_cases h : l = []
  · rw [if_pos h, if_pos h]
    constructor
    · intro h; cases h
    · rintro ⟨h, _⟩; cases h
  · rw [if_neg h, if_neg h, e]
    exact parse_dec l 0 (by omega) u
/-- What the library's reader of whole numbers gives. -/
def verdict (x : Lib.NumEnd Int) (sat : Int) : Int × Option Int := match x with
  | .ok v => (v, none)
  | .range => (sat, some 0)
  | _ => (0, some 0)
/-- What is said of a pair (number, error) by what the text is. -/
def Says (o : Option Int) (R : Int × Option Int) : Prop := match o with
  | some v => R = (v, none)
  | none => R.2.isNone = false
theorem says_signless {l : List UInt8} {sat : Int} : Says (sgn false (num l)) (verdict (Lib.signlessC (2 ^ 63) (Lib.parseUintB 64 l)) sat) := by
  have e : (2 : Nat) ^ 63 = 9223372036854775808 := by decide
  cases hp : Lib.parseUintB 64 l with
  | ok u =>
    have hn := (parseB_num l u).1 hp
    rw [hn.1, e]
    simp only [Lib.signlessC, sgn, Bool.false_eq_true, if_false]
    by_cases h : 9223372036854775808 ≤ u
    · rw [if_pos h, if_neg (by omega)]; rfl
    · rw [if_neg h, if_pos (by omega)]; rfl
  | range =>
    have : sgn false (num l) = none := by
      cases hn : num l with
      | none => rfl
      | some u =>
        have : ¬ u < 9223372036854775808 := fun h => by
          have := (parseB_num l u).2 ⟨hn, by omega⟩
          rw [hp] at this; cases this
        simp only [sgn, Bool.false_eq_true, if_false, if_neg this]
    rw [this]; rfl
  | _ =>
    have : sgn false (num l) = none := by
      cases hn : num l with
      | none => rfl
      | some u =>
        have : ¬ u < 9223372036854775808 := fun h => by
          have := (parseB_num l u).2 ⟨hn, by omega⟩
          rw [hp] at this; cases this
        simp only [sgn, Bool.false_eq_true, if_false, if_neg this]
    rw [this]; rfl
theorem says_signed {l : List UInt8} {sat : Int} : Says (sgn true (num l)) (verdict (Lib.signedC (2 ^ 63) (Lib.parseUintB 64 l)) sat) := by
  have e : (2 : Nat) ^ 63 = 9223372036854775808 := by decide
  cases hp : Lib.parseUintB 64 l with
  | ok u =>
    have hn := (parseB_num l u).1 hp
    rw [hn.1, e]
    simp only [Lib.signedC, sgn, if_true]
    by_cases h : 9223372036854775808 < u
    · rw [if_pos h, if_neg (by omega)]; rfl
    · rw [if_neg h, if_pos (by omega)]; rfl
  | range =>
    have : sgn true (num l) = none := by
      cases hn : num l with
      | none => rfl
      | some u =>
        have : ¬ u ≤ 9223372036854775808 := fun h => by
          have := (parseB_num l u).2 ⟨hn, by omega⟩
          rw [hp] at this; cases this
        simp only [sgn, if_true, if_neg this]
    rw [this]; rfl
  | _ =>
    have : sgn true (num l) = none := by
      cases hn : num l with
      | none => rfl
      | some u =>
        have : ¬ u ≤ 9223372036854775808 := fun h => by
          have := (parseB_num l u).2 ⟨hn, by omega⟩
          rw [hp] at this; cases this
        simp only [sgn, if_true, if_neg this]
    rw [this]; rfl
theorem w_add1 {n : Nat} (h : n ≤ 100000) : wrap64 ((n : Int) + 1) = ((n + 1 : Nat) : Int) := by rw [wr (by omega) (by omega)]; omega
theorem u64w {x : Int} (h0 : 0 ≤ x) (h1 : x ≤ 18446744073709551615) : IntKind.u64.wrap x = x := by
  have : x % 18446744073709551616 = x := by omega
  simpa [IntKind.wrap, IntKind.bits, IntKind.signed] using this
theorem bt_at {s : ByteArray} {i : Nat} (h : i < s.size) : bt s (i : Int) = ((s.data.toList[i]'(by rw [Array.length_toList]; exact h)).toNat : Int) := by
  rw [bt_nat, bytesOf, List.getD_eq_getElem?_getD, List.getElem?_map, List.getElem?_eq_getElem (by rw [Array.length_toList]; exact h)]
  rfl
theorem drop_at {s : ByteArray} {i : Nat} (h : i < s.size) : s.data.toList.drop i = s.data.toList[i]'(by rw [Array.length_toList]; exact h) :: s.data.toList.drop (i + 1) := List.drop_eq_getElem_cons _
theorem drop_end {s : ByteArray} {i : Nat} (h : s.size ≤ i) : s.data.toList.drop i = [] := List.drop_of_length_le (by rw [Array.length_toList]; exact h)
/-! ### the reference -/
def U (o : Option Nat) : Int × Bool := match o with
  | some u => if u < 18446744073709551616 then ((u : Int), true) else (0, false)
  | none => (0, false)
theorem uint_ev {s : ByteArray} (hs : s.size ≤ 1000) : ∀ (d i n : Nat), i + d = s.size → n < 18446744073709551616 → Ev (fun k => spec_Uint64.l0 k s n i) (U (dec n (s.data.toList.drop i)))
  | 0, i, n, hd, hn => by
    rw [drop_end (by omega), dec, U, if_pos hn]
    refine ev_one fun k => ?_
    rw [spec_Uint64.l0, if_neg (by omega)]
  | d + 1, i, n, hd, hn => by
    have hi : i < s.size := by omega
    have hb := bt_at hi
    rw [drop_at hi]
    obtain ⟨c, hc⟩ : ∃ c, c = s.data.toList[i]'(by rw [Array.length_toList]; exact hi) := ⟨_, rfl⟩
    rw [← hc] at hb ⊢
    have hcb := c.toNat_lt
    rw [dec]
    by_cases hdig : 48 ≤ c.toNat ∧ c.toNat ≤ 57
    · rw [if_pos hdig]
      have hm : (((c.toNat : Int) - 48) % 256) = ((c.toNat - 48 : Nat) : Int) := by omega
      have st : ∀ k, spec_Uint64.l0 (k + 1) s n i = spec_Uint64.j1 k s n i false := fun k => by
        rw [spec_Uint64.l0, if_pos (by omega), if_pos (by omega), hb, if_neg (by omega), decide_eq_false (by omega)]
      by_cases hov : (n : Int) > (18446744073709551615 - ((c.toNat - 48 : Nat) : Int)) / 10
      · have : U (dec (n * 10 + (c.toNat - 48)) (s.data.toList.drop (i + 1))) = (0, false) := by
          cases hx : dec (n * 10 + (c.toNat - 48)) (s.data.toList.drop (i + 1)) with
          | none => rfl
          | some u => have := dec_ge hx; rw [U, if_neg (by omega)]
        rw [this]
        refine Ev.step st (ev_one fun k => ?_)
        rw [spec_Uint64.j1, if_neg (by decide), if_pos (by omega), if_pos (by omega), hb, hm, if_pos hov]
      · have ih := uint_ev hs d (i + 1) (n * 10 + (c.toNat - 48)) (by omega) (by omega)
        refine Ev.step st (Ev.step (fun k => ?_) ih)
        have e1 : IntKind.u64.wrap ((n : Int) * 10) = ((n * 10 : Nat) : Int) := by rw [u64w (by omega) (by omega)]; omega
        have e2 : IntKind.u64.wrap (((n * 10 : Nat) : Int) + ((c.toNat - 48 : Nat) : Int)) = ((n * 10 + (c.toNat - 48) : Nat) : Int) := by rw [u64w (by omega) (by omega)]; omega
        rw [spec_Uint64.j1, if_neg (by decide), if_pos (by omega), if_pos (by omega), hb, hm, if_neg hov, e1, e2, w_add1 (by omega)]
    · rw [if_neg hdig]
      refine Ev.step (f := fun k => spec_Uint64.j1 k s n i true) (fun k => ?_) (ev_one fun k => ?_)
      · rw [spec_Uint64.l0, if_pos (by omega), if_pos (by omega), hb]
        by_cases h48 : (c.toNat : Int) < 48
        · rw [if_pos h48]
        · rw [if_neg h48, decide_eq_true (by omega)]
      · rw [spec_Uint64.j1, if_pos rfl]; rfl
theorem toList_nil {s : ByteArray} : s.toList = ([] : List UInt8) ↔ s.size = 0 := by
  rw [Go.ByteArray.toList_eq]
  constructor
  · intro h
    have := congrArg List.length h
    rw [Array.length_toList] at this
    exact this
  · intro h
    exact List.eq_nil_of_length_eq_zero (by rw [Array.length_toList]; exact h)
theorem uint_f {s : ByteArray} (hs : s.size ≤ 1000) : Ev (fun k => spec_Uint64.f k s) (U (num s.data.toList)) := by
  by_cases h : s.size = 0
  · refine ev_const fun k => ?_
    have : s.data.toList = [] := by rw [← List.drop_zero (l := s.data.toList)]; exact drop_end (by omega)
    rw [spec_Uint64.f, if_pos (toList_nil.2 h), num, if_pos this]; rfl
  · have e := uint_ev hs s.size 0 0 (by omega) (by omega)
    have hne : s.data.toList ≠ [] := fun e => h (by
      have := congrArg List.length e
      rw [Array.length_toList] at this
      exact this)
    rw [List.drop_zero] at e
    rw [num, if_neg hne]
    refine Ev.congr (fun k => ?_) e
    rw [spec_Uint64.f, if_neg (fun g => h (toList_nil.1 g))]
    rfl
/-- What the text is: a whole number of 64 bits, or none. -/
def whole (s : ByteArray) : Option Int := if bt s 0 = 45 then sgn true (num (s.data.toList.drop 1)) else sgn false (num s.data.toList)
def P (o : Option Int) : Int × Bool := match o with
  | some v => (v, true)
  | none => (0, false)
theorem num_le {l : List UInt8} {u : Nat} (h : num l = some u) : True := trivial
theorem int_j1 {s : ByteArray} (hs : s.size ≤ 1000) (neg : Bool) : Ev (fun k => spec_Int64.j1 k s neg) (P (sgn neg (num s.data.toList))) := by
  have hu := uint_f hs
  refine Ev.step (fun k => by rw [spec_Int64.j1]) (Ev.bind (f := fun k (b : Int × Bool) => if b.2 = true then (if neg = true then spec_Int64.j2 k neg b.1 (decide (b.1 ≤ 9223372036854775808)) else spec_Int64.j2 k neg b.1 false) else some (0, false)) hu ?_)
  cases hn : num s.data.toList with
  | none => exact ev_const fun k => rfl
  | some u =>
    by_cases h64 : u < 18446744073709551616
    · rw [U, if_pos h64]
      cases neg with
      | true =>
        by_cases h : u ≤ 9223372036854775808
        · have e : decide ((u : Int) ≤ 9223372036854775808) = true := decide_eq_true (by omega)
          simp only [sgn, if_pos h, if_true, P, e]
          refine ev_one fun k => ?_
          have e2 : wrap64 (IntKind.u64.wrap (-(u : Int))) = -(u : Int) := by
            have : IntKind.u64.wrap (-(u : Int)) = (-(u : Int)) % 18446744073709551616 := by simp [IntKind.wrap, IntKind.bits, IntKind.signed]
            rw [this]; unfold wrap64; omega
          rw [spec_Int64.j2, if_pos rfl, e2]
        · have e : decide ((u : Int) ≤ 9223372036854775808) = false := decide_eq_false (by omega)
          simp only [sgn, if_neg h, if_true, P, e]
          refine ev_one fun k => ?_
          rw [spec_Int64.j2, if_neg (by decide), if_pos rfl]
      | false =>
        by_cases h : u < 9223372036854775808
        · simp only [sgn, if_pos h, Bool.false_eq_true, if_false, if_true, P]
          refine ev_one fun k => ?_
          rw [spec_Int64.j2, if_neg (by decide), if_neg (by decide), if_pos (by omega), wr (by omega) (by omega)]
        · simp only [sgn, if_neg h, Bool.false_eq_true, if_false, if_true, P]
          refine ev_one fun k => ?_
          rw [spec_Int64.j2, if_neg (by decide), if_neg (by decide), if_neg (by omega)]
    · have : sgn neg (some u) = none := by
        cases neg with
        | true => simp only [sgn, if_true]; rw [if_neg (by omega)]
        | false => simp only [sgn, Bool.false_eq_true, if_false]; rw [if_neg (by omega)]
      rw [U, if_neg h64, this]
      exact ev_const fun k => rfl
theorem int_f {s : ByteArray} (hs : s.size ≤ 1000) : Ev (fun k => spec_Int64.f k s) (P (whole s)) := by
  unfold whole
  by_cases h0 : s.size = 0
  · have hb : bt s 0 ≠ 45 := by rw [bt_out s (by omega)]; omega
    rw [if_neg hb]
    refine Ev.congr (f := fun k => spec_Int64.j0 k s false) (fun k => ?_) (Ev.step (fun k => ?_) (int_j1 hs false))
    · rw [spec_Int64.f, if_pos (toList_nil.2 h0)]
    · rw [spec_Int64.j0, if_neg (by decide)]
  · have st : ∀ k, spec_Int64.f k s = spec_Int64.j0 k s (bt s 0 == 45) := fun k => by
      rw [spec_Int64.f, if_neg (fun g => h0 (toList_nil.1 g)), if_pos (by omega)]
    by_cases hb : bt s 0 = 45
    · rw [if_pos hb]
      have e : (s.extract 1 s.size).data.toList = s.data.toList.drop 1 := by
        simp [List.extract, List.take_of_length_le]
      have hj := int_j1 (s := s.extract 1 s.size) (by simp; omega) true
      rw [e] at hj
      refine Ev.congr st (Ev.step (fun k => ?_) hj)
      rw [hb, spec_Int64.j0]
      rw [if_pos (by rfl), if_pos (by omega)]
      rfl
    · rw [if_neg hb]
      refine Ev.congr st (Ev.step (fun k => ?_) (int_j1 hs false))
      rw [beq_eq_false_iff_ne.2 hb, spec_Int64.j0, if_neg (by decide)]
/-! ### the package -/
theorem parse_says {s : ByteArray} (hs : s.size ≤ 1000) (h0 : 0 < s.size) (hp : bt s 0 ≠ 43) : ∃ R, strconv_ParseInt.f s 10 64 = some R ∧ Says (whole s) R := by
  have hb := bt_at h0
  have hd := drop_at h0
  rw [List.drop_zero] at hd
  obtain ⟨c, hc⟩ : ∃ c, c = s.data.toList[0]'(by rw [Array.length_toList]; exact h0) := ⟨_, rfl⟩
  rw [← hc] at hb hd
  have e : strconv_ParseInt.f s 10 64 = some (verdict (Lib.parseIntB 64 s.data.toList) (Lib.intSat 64 s.data.toList)) := by
    unfold strconv_ParseInt.f
    rw [if_pos rfl, if_pos rfl, if_pos (by omega)]
    cases Lib.parseIntB 64 s.data.toList <;> rfl
  refine ⟨_, e, ?_⟩
  unfold whole
  by_cases h45 : bt s 0 = 45
  · rw [if_pos h45]
    have hc45 : c = 45 := by
      have : c.toNat = 45 := by have : bt s ((0 : Nat) : Int) = 45 := h45; omega
      exact UInt8.toNat_inj.1 this
    rw [hd, hc45, Lib.parseIntB_minus]
    exact says_signed
  · rw [if_neg h45]
    have h1 : c.toNat ≠ 45 := fun g => h45 (by have : bt s ((0 : Nat) : Int) = 45 := by omega
                                               exact this)
    have h2 : c.toNat ≠ 43 := fun g => hp (by have : bt s ((0 : Nat) : Int) = 43 := by omega
                                              exact this)
    rw [hd, Lib.parseIntB_plain _ _ _ h2 h1]
    exact says_signless
theorem pow18 {n : Nat} (h : n ≤ 18) : 10 ^ n ≤ 1000000000000000000 := by
  have := Nat.pow_le_pow_right (n := 10) (by omega) h
  simpa using this
theorem fast_j3 {s : ByteArray} (hs : s.size ≤ 1000) (neg : Bool) {j i d : Nat} (hj : j < s.size) (hw : whole s = sgn neg (num (s.data.toList.drop j))) (hji : j ≤ i) (his : i ≤ s.size) (hi : i ≤ 18) (hd : d < 10 ^ (i - j)) (hdec : dec 0 (s.data.toList.drop j) = dec d (s.data.toList.drop i))
    (hend : i < s.size → dec d (s.data.toList.drop i) = none) : ∃ R, Ev (fun k => fastfloat_ParseInt64.j3 k s i neg d j) R ∧ Says (whole s) R := by
  have hne : s.data.toList.drop j ≠ [] := fun e => by
    have := congrArg List.length e
    rw [List.length_drop, Array.length_toList] at this
    have hz : s.size = s.data.size := rfl
    simp at this
    omega
  have hsz : IntKind.u64.wrap (s.size : Int) = s.size := u64w (by omega) (by omega)
  by_cases hlt : i < s.size
  · have hno : whole s = none := by
      rw [hw, num, if_neg hne, hdec, hend hlt]; rfl
    refine ⟨(0, some 0), ev_one fun k => ?_, by rw [hno]; rfl⟩
    rw [fastfloat_ParseInt64.j3, hsz]
    by_cases h : (i : Int) ≤ j
    · rw [if_pos h]; rfl
    · rw [if_neg h, if_pos (by omega)]; rfl
  · have hi' : i = s.size := by omega
    have hyes : whole s = sgn neg (some d) := by
      rw [hw, num, if_neg hne, hdec, drop_end (by omega)]; rfl
    have hp := pow18 (n := i - j) (by omega)
    cases neg with
    | true =>
      have : sgn true (some d) = some (-(d : Int)) := by simp only [sgn, if_true]; rw [if_pos (by omega)]
      refine ⟨(-(d : Int), none), ev_one fun k => ?_, by rw [hyes, this]; rfl⟩
      rw [fastfloat_ParseInt64.j3, hsz, if_neg (by omega), if_neg (by omega), if_pos rfl, wr (by omega) (by omega)]
    | false =>
      have : sgn false (some d) = some (d : Int) := by simp only [sgn, Bool.false_eq_true, if_false]; rw [if_pos (by omega)]
      refine ⟨((d : Int), none), ev_one fun k => ?_, by rw [hyes, this]; rfl⟩
      rw [fastfloat_ParseInt64.j3, hsz, if_neg (by omega), if_neg (by omega), if_neg (by decide)]
theorem fast_l0 {s : ByteArray} (hs : s.size ≤ 1000) (h0 : 0 < s.size) (hp : bt s 0 ≠ 43) (neg : Bool) {j : Nat} (hj : j < s.size) (hw : whole s = sgn neg (num (s.data.toList.drop j))) : ∀ (f i d : Nat), i + f = 18 → j ≤ i → i ≤ s.size → d < 10 ^ (i - j) → dec 0 (s.data.toList.drop j) = dec d (s.data.toList.drop i) →
    ∃ R, Ev (fun k => fastfloat_ParseInt64.l0 k s i neg d j) R ∧ Says (whole s) R := by
  intro f
  induction f with
  | zero =>
    intro i d hf hji his hd hdec
    have hsz : IntKind.u64.wrap (s.size : Int) = s.size := u64w (by omega) (by omega)
    by_cases hi : i < s.size
    · have hb := bt_at hi
      have hdr := drop_at hi
      obtain ⟨c, hc⟩ : ∃ c, c = s.data.toList[i]'(by rw [Array.length_toList]; exact hi) := ⟨_, rfl⟩
      rw [← hc] at hb hdr
      by_cases hdig : 48 ≤ c.toNat ∧ c.toNat ≤ 57
      · obtain ⟨R, hR, hS⟩ := parse_says hs h0 hp
        have st : ∀ k, fastfloat_ParseInt64.l0 (k + 1) s i neg d j = fastfloat_ParseInt64.j2 k s i neg d j true := fun k => by
          rw [fastfloat_ParseInt64.l0, hsz, if_pos (by omega), if_pos (by omega), if_pos (by omega), hb, if_pos (by omega), decide_eq_true (by omega)]
        have e1 : IntKind.u64.wrap ((i : Int) + 1) = (i : Int) + 1 := u64w (by omega) (by omega)
        obtain ⟨x, o⟩ := R
        cases o with
        | none =>
          refine ⟨(x, none), Ev.step st (ev_one fun k => ?_), hS⟩
          rw [fastfloat_ParseInt64.j2, if_pos rfl, if_pos (by omega), if_pos (by omega), e1, if_pos (by omega), hR]; rfl
        | some q =>
          refine ⟨(0, some q), Ev.step st (ev_one fun k => ?_), ?_⟩
          · rw [fastfloat_ParseInt64.j2, if_pos rfl, if_pos (by omega), if_pos (by omega), e1, if_pos (by omega), hR]; rfl
          · unfold Says at hS ⊢
            cases hz : whole s with
            | none => rfl
            | some v => rw [hz] at hS; cases hS
      · obtain ⟨R, hR, hS⟩ := fast_j3 hs neg hj hw hji his (by omega) hd hdec (fun _ => by rw [hdr, dec, if_neg hdig])
        refine ⟨R, Ev.step (f := fun k => fastfloat_ParseInt64.j2 k s i neg d j false) (fun k => ?_) (Ev.step (fun k => ?_) hR), hS⟩
        · rw [fastfloat_ParseInt64.l0, hsz, if_pos (by omega), if_pos (by omega), if_pos (by omega), hb]
          by_cases h48 : (c.toNat : Int) ≥ 48
          · rw [if_pos h48, decide_eq_false (by omega)]
          · rw [if_neg h48]
        · rw [fastfloat_ParseInt64.j2, if_neg (by decide)]
    · obtain ⟨R, hR, hS⟩ := fast_j3 hs neg hj hw hji his (by omega) hd hdec (fun h => by omega)
      refine ⟨R, Ev.step (fun k => ?_) hR, hS⟩
      rw [fastfloat_ParseInt64.l0, hsz, if_neg (by omega)]
  | succ f ih =>
    intro i d hf hji his hd hdec
    have hsz : IntKind.u64.wrap (s.size : Int) = s.size := u64w (by omega) (by omega)
    by_cases hi : i < s.size
    · have hb := bt_at hi
      have hdr := drop_at hi
      obtain ⟨c, hc⟩ : ∃ c, c = s.data.toList[i]'(by rw [Array.length_toList]; exact hi) := ⟨_, rfl⟩
      rw [← hc] at hb hdr
      have hcb := c.toNat_lt
      by_cases hdig : 48 ≤ c.toNat ∧ c.toNat ≤ 57
      · have hpw := pow18 (n := i + 1 - j) (by omega)
        have hps : 10 ^ (i + 1 - j) = 10 ^ (i - j) * 10 := by rw [show i + 1 - j = (i - j) + 1 by omega, Nat.pow_succ]
        have hd2 : d * 10 + (c.toNat - 48) < 10 ^ (i + 1 - j) := by rw [hps]; omega
        obtain ⟨R, hR, hS⟩ := ih (i + 1) (d * 10 + (c.toNat - 48)) (by omega) (by omega) (by omega) hd2 (by rw [hdec, hdr, dec, if_pos hdig])
        have st : ∀ k, fastfloat_ParseInt64.l0 (k + 1) s i neg d j = fastfloat_ParseInt64.j2 k s i neg d j true := fun k => by
          rw [fastfloat_ParseInt64.l0, hsz, if_pos (by omega), if_pos (by omega), if_pos (by omega), hb, if_pos (by omega), decide_eq_true (by omega)]
        have e1 : IntKind.u64.wrap ((i : Int) + 1) = ((i + 1 : Nat) : Int) := by rw [u64w (by omega) (by omega)]; omega
        have e2 : wrap64 ((d : Int) * 10) = ((d * 10 : Nat) : Int) := by rw [wr (by omega) (by omega)]; omega
        have hm : (((c.toNat : Int) - 48) % 256) = ((c.toNat - 48 : Nat) : Int) := by omega
        have e3 : wrap64 (((d * 10 : Nat) : Int) + ((c.toNat - 48 : Nat) : Int)) = ((d * 10 + (c.toNat - 48) : Nat) : Int) := by rw [wr (by omega) (by omega)]; omega
        refine ⟨R, Ev.step st (Ev.step (fun k => ?_) hR), hS⟩
        rw [fastfloat_ParseInt64.j2, if_pos rfl, if_pos (by omega), if_pos (by omega), e1, if_neg (by omega), hb, hm, e2, e3]
      · obtain ⟨R, hR, hS⟩ := fast_j3 hs neg hj hw hji his (by omega) hd hdec (fun _ => by rw [hdr, dec, if_neg hdig])
        refine ⟨R, Ev.step (f := fun k => fastfloat_ParseInt64.j2 k s i neg d j false) (fun k => ?_) (Ev.step (fun k => ?_) hR), hS⟩
        · rw [fastfloat_ParseInt64.l0, hsz, if_pos (by omega), if_pos (by omega), if_pos (by omega), hb]
          by_cases h48 : (c.toNat : Int) ≥ 48
          · rw [if_pos h48, decide_eq_false (by omega)]
          · rw [if_neg h48]
        · rw [fastfloat_ParseInt64.j2, if_neg (by decide)]
    · obtain ⟨R, hR, hS⟩ := fast_j3 hs neg hj hw hji his (by omega) hd hdec (fun h => by omega)
      refine ⟨R, Ev.step (fun k => ?_) hR, hS⟩
      rw [fastfloat_ParseInt64.l0, hsz, if_neg (by omega)]
theorem fast_f {s : ByteArray} (hs : s.size ≤ 1000) (hp : bt s 0 ≠ 43) : ∃ R, Ev (fun k => fastfloat_ParseInt64.f k s) R ∧ Says (whole s) R := by
  have hsz : IntKind.u64.wrap (s.size : Int) = s.size := u64w (by omega) (by omega)
  by_cases h0 : s.size = 0
  · have hn : whole s = none := by
      unfold whole
      rw [if_neg (by rw [bt_out s (by omega)]; omega), num, if_pos (by rw [← List.drop_zero (l := s.data.toList)]; exact drop_end (by omega))]; rfl
    refine ⟨(0, some 0), ev_const fun k => ?_, by rw [hn]; rfl⟩
    rw [fastfloat_ParseInt64.f, if_pos (by omega)]; rfl
  · by_cases hb : bt s 0 = 45
    · by_cases h1 : s.size = 1
      · have hn : whole s = none := by
          unfold whole
          rw [if_pos hb, num, if_pos (drop_end (by omega))]; rfl
        refine ⟨(0, some 0), ev_const fun k => ?_, by rw [hn]; rfl⟩
        rw [fastfloat_ParseInt64.f, if_neg (by omega), if_pos (by omega), if_pos hb, hsz, if_pos (by omega)]; rfl
      · obtain ⟨R, hR, hS⟩ := fast_l0 hs (by omega) hp true (j := 1) (by omega) (by unfold whole; rw [if_pos hb]) 17 1 0 (by omega) (by omega) (by omega) (by decide) rfl
        refine ⟨R, Ev.congr (f := fun k => fastfloat_ParseInt64.j0 k s 1 true) (fun k => ?_) (Ev.step (fun k => ?_) hR), hS⟩
        · rw [fastfloat_ParseInt64.f, if_neg (by omega), if_pos (by omega), if_pos hb, hsz, if_neg (by omega), hb]; rfl
        · rw [fastfloat_ParseInt64.j0]; rfl
    · obtain ⟨R, hR, hS⟩ := fast_l0 hs (by omega) hp false (j := 0) (by omega) (by unfold whole; rw [if_neg hb, List.drop_zero]) 18 0 0 (by omega) (by omega) (by omega) (by decide) rfl
      refine ⟨R, Ev.congr (f := fun k => fastfloat_ParseInt64.j0 k s 0 false) (fun k => ?_) (Ev.step (fun k => ?_) hR), hS⟩
      · rw [fastfloat_ParseInt64.f, if_neg (by omega), if_pos (by omega), if_neg hb, beq_eq_false_iff_ne.2 hb]
      · rw [fastfloat_ParseInt64.j0]; rfl
/-- What is said of the doors. -/
def SaysD (o : Option Int) (R : Int × Bool) : Prop := match o with
  | some v => R = (v, true)
  | none => R.2 = false
theorem doors {s : ByteArray} (hs : s.size ≤ 1000) (hp : bt s 0 ≠ 43) : (∃ R, Ev (fun k => impl_FjNumberInt64.f k s) R ∧ SaysD (whole s) R) ∧ (∃ R, Ev (fun k => impl_FjNumberInt.f k s) R ∧ SaysD (whole s) R) := by
  obtain ⟨⟨x, o⟩, hR, hS⟩ := fast_f hs hp
  unfold Says at hS
  unfold SaysD
  cases hw : whole s with
  | none =>
    rw [hw] at hS
    have ho : o.isNone = false := hS
    refine ⟨⟨(x, false), Ev.bind (f := fun _ (b : Int × Option Int) => if b.2.isNone = true then some (b.1, true) else some (b.1, false)) hR (ev_const fun _ => by rw [ho]; rfl), rfl⟩, ⟨(0, false), Ev.bind (f := fun _ (b : Int × Option Int) => if b.2.isNone = true then some (b.1, true) else some (0, false)) hR (ev_const fun _ => by rw [ho]; rfl), rfl⟩⟩
  | some v =>
    rw [hw] at hS
    obtain ⟨rfl, rfl⟩ := Prod.mk.inj hS
    refine ⟨⟨(x, true), Ev.bind (f := fun _ (b : Int × Option Int) => if b.2.isNone = true then some (b.1, true) else some (b.1, false)) hR (ev_const fun _ => rfl), rfl⟩, ⟨(x, true), Ev.bind (f := fun _ (b : Int × Option Int) => if b.2.isNone = true then some (b.1, true) else some (0, false)) hR (ev_const fun _ => rfl), rfl⟩⟩
theorem seven : whole (⟨#[55]⟩ : ByteArray) = some 7 := by decide
theorem FnFjNumberInt : laws_FnFjNumberInt.Pure := by
  intro s hz
  refine Ev.rounds (g := fun k => laws_FnFjNumberInt.f k s) ?_
  by_cases c1 : (s.size : Int) > 2147483647
  · exact ev_const fun k => by rw [laws_FnFjNumberInt.f, if_pos c1]
  by_cases c2 : (s.size : Int) > 1000
  · refine Ev.congr (f := fun k => laws_FnFjNumberInt.j0 k s true) (fun k => by rw [laws_FnFjNumberInt.f, if_neg c1, if_pos c2]) (ev_one fun k => ?_)
    rw [laws_FnFjNumberInt.j0, if_pos rfl]
  have hs : s.size ≤ 1000 := by omega
  by_cases hp : bt s 0 = 43
  · have h0 : (0 : Int) < s.size := bt_in (s := s) (i := 0) (by omega)
    refine Ev.congr (f := fun k => laws_FnFjNumberInt.j0 k s true) (fun k => by rw [laws_FnFjNumberInt.f, if_neg c1, if_neg c2, if_neg (fun g => by have := toList_nil.1 g; omega), if_pos h0, hp]; rfl) (ev_one fun k => ?_)
    rw [laws_FnFjNumberInt.j0, if_pos rfl]
  have st : ∀ k, laws_FnFjNumberInt.f k s = laws_FnFjNumberInt.j0 k s false := fun k => by
    rw [laws_FnFjNumberInt.f, if_neg c1, if_neg c2]
    by_cases h0 : s.size = 0
    · rw [if_pos (toList_nil.2 h0)]
    · rw [if_neg (fun g => h0 (toList_nil.1 g)), if_pos (by omega), beq_eq_false_iff_ne.2 hp]
  obtain ⟨⟨⟨x1, x2⟩, h1, e1⟩, ⟨⟨y1, y2⟩, h2, e2⟩⟩ := doors hs hp
  obtain ⟨⟨⟨m1, m2⟩, h4, e4⟩, _⟩ := doors (s := (⟨#[55]⟩ : ByteArray)) (by decide) (by decide)
  rw [seven] at e4
  obtain ⟨rfl, rfl⟩ := Prod.mk.inj e4
  have h3 := int_f hs
  obtain ⟨⟨w1, w2⟩, hw⟩ : ∃ w, w = P (whole s) := ⟨_, rfl⟩
  rw [← hw] at h3
  refine Ev.congr st (Ev.step (fun k => by rw [laws_FnFjNumberInt.j0, if_neg (by decide)]) ?_)
  refine Ev.bind (f := fun k (bt110 : Int × Bool) => ((impl_FjNumberInt.f k s).bind fun bt112 => ((spec_Int64.f k s).bind fun bt114 => ((impl_FjNumberInt64.f k (⟨#[55]⟩ : ByteArray)).bind fun bt116 => (if (bt110.2 == bt114.2) = true then (if (bt112.2 == bt114.2) = true then (if bt114.2 = true then (if bt110.1 = bt114.1 then (if bt112.1 = bt114.1 then (some bt116.2) else (some false)) else (some false)) else (some bt116.2)) else (some false)) else (some false)))))) h1 ?_
  refine Ev.bind (f := fun k (bt112 : Int × Bool) => ((spec_Int64.f k s).bind fun bt114 => ((impl_FjNumberInt64.f k (⟨#[55]⟩ : ByteArray)).bind fun bt116 => (if (x2 == bt114.2) = true then (if (bt112.2 == bt114.2) = true then (if bt114.2 = true then (if x1 = bt114.1 then (if bt112.1 = bt114.1 then (some bt116.2) else (some false)) else (some false)) else (some bt116.2)) else (some false)) else (some false))))) h2 ?_
  refine Ev.bind (f := fun k (bt114 : Int × Bool) => ((impl_FjNumberInt64.f k (⟨#[55]⟩ : ByteArray)).bind fun bt116 => (if (x2 == bt114.2) = true then (if (y2 == bt114.2) = true then (if bt114.2 = true then (if x1 = bt114.1 then (if y1 = bt114.1 then (some bt116.2) else (some false)) else (some false)) else (some bt116.2)) else (some false)) else (some false)))) h3 ?_
  refine Ev.bind (f := fun k (bt116 : Int × Bool) => (if (x2 == w2) = true then (if (y2 == w2) = true then (if w2 = true then (if x1 = w1 then (if y1 = w1 then (some bt116.2) else (some false)) else (some false)) else (some bt116.2)) else (some false)) else (some false))) h4 ?_
  refine ev_const fun k => ?_
  unfold SaysD at e1 e2
  cases hq : whole s with
  | none =>
    rw [hq] at hw e1 e2
    obtain ⟨rfl, rfl⟩ := Prod.mk.inj hw
    simp only at e1 e2
    subst e1 e2
    rfl
  | some v =>
    rw [hq] at hw e1 e2
    obtain ⟨rfl, rfl⟩ := Prod.mk.inj hw
    obtain ⟨rfl, rfl⟩ := Prod.mk.inj e1
    obtain ⟨rfl, rfl⟩ := Prod.mk.inj e2
    simp
end Go.Proofs.YtnajijaachgipaaDoor.Pure
