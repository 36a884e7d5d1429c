/- A name is checked as a string is: up to the mark that ends it, each escape as the grammar says, and what is behind that mark is left; no condition at all. -/
import Derived.Test.YtfpbbnllaogclaaDoorPGx10
import Derived.Test.YtfpbbnllaogclaaDoorPGx11
import Derived.Test.YtfpbbnllaogclaaDoorPGx12
import Derived.Test.YtfpbbnllaogclaaDoorPGx13
import Derived.Test.YtfpbbnllaogclaaDoorPGx14
import Derived.Test.YtfpbbnllaogclaaDoorPGx15
import Derived.Test.YtfpbbnllaogclaaDoorPGx16
import Derived.Test.YtfpbbnllaogclaaDoorPGx17
import Derived.Test.YtfpbbnllaogclaaDoorPGx3
import Derived.Test.YtfpbbnllaogclaaDoorPGx6
import Derived.Test.YtfpbbnllaogclaaDoorPGx7
import Derived.Test.YtfpbbnllaogclaaDoorPGx8
import Derived.Test.YtfpbbnllaogclaaDoorPGx9
import Derived.Test.YtfpbbnllaogclaaDoorJEsc
import Derived.Test.YtfpbbnllaogclaaDoorHUint
namespace Go.Proofs.YtfpbbnllaogclaaDoor.Pure
open Go.RowKit Go.Proofs.YtfpbbnllaogclaaDoor.PG Go.Proofs.YtfpbbnllaogclaaDoor.J Go.Proofs.YtfpbbnllaogclaaDoorW.PrintWords Go.Proofs.YtfpbbnllaogclaaDoorW.PrintLast
set_option linter.unusedSimpArgs false
set_option linter.unusedVariables false

/-- The offset of the mark that ends the string; o: an odd number of backslashes stands ahead. -/
def clos : Bool → List Int → Option Nat
  | _, [] => none
  | o, c :: l => if c = 34 ∧ o = false then some 0 else (clos (if c = 92 then !o else false) l).map (· + 1)
def par : Bool → List Int → Bool
  | o, [] => o
  | o, c :: l => par (if c = 92 then !o else false) l
def ix (c : Int) : List Int → Option Nat
  | [] => none
  | b :: l => if b = c then some 0 else (ix c l).map (· + 1)
def toI : Option Nat → Int
  | none => -1
  | some n => n
theorem index_list (c : Int) (h0 : 0 ≤ c) (h1 : c ≤ 255) : ∀ l : List UInt8, Lib.indexByte l c.toNat.toUInt8 = toI (ix c (l.map fun b => (b.toNat : Int)))
  | [] => rfl
  | b :: l => by
    have ih := index_list c h0 h1 l
    have hb : (b == c.toNat.toUInt8) = decide ((b.toNat : Int) = c) := by
      rw [Bool.eq_iff_iff, beq_iff_eq, decide_eq_true_iff]
      constructor
      · rintro rfl
        show (((UInt8.ofNat c.toNat).toNat : Nat) : Int) = c
        rw [UInt8.toNat_ofNat']
        omega
      · intro h
        rw [← h, Int.toNat_natCast]
        exact (UInt8.ofNat_toNat (x := b)).symm
    rw [Lib.indexByte, hb, List.map_cons, ix, ih]
    by_cases h : (b.toNat : Int) = c
    · rw [decide_eq_true h, if_pos rfl, if_pos h]; rfl
    · rw [decide_eq_false h, if_neg (by decide), if_neg h]
      cases ix c (l.map fun b => (b.toNat : Int)) with
      | none => rfl
      | some n =>
        have : ((n : Int) == -1) = false := by rw [beq_eq_false_iff_ne]; omega
        simp only [toI, Option.map_some, this, Bool.false_eq_true, if_false]
        omega
theorem index_ix (s : ByteArray) (c : Int) (h0 : 0 ≤ c) (h1 : c ≤ 255) : strings_IndexByte.f s c = some (toI (ix c (bytesOf s))) := by
  unfold strings_IndexByte.f
  rw [index_list c h0 h1]
  rfl
theorem ix_none {c : Int} : ∀ {l : List Int}, ix c l = none → ∀ j, j < l.length → l.getD j 0 ≠ c
  | [], _, j, h => by cases h
  | b :: l, hn, j, hj => by
    rw [ix] at hn
    by_cases hb : b = c
    · rw [if_pos hb] at hn; cases hn
    · rw [if_neg hb, Option.map_eq_none_iff] at hn
      cases j with
      | zero => simpa using hb
      | succ j =>
        have := ix_none hn j (by simpa using hj)
        simpa using this
theorem ix_some {c : Int} : ∀ {l : List Int} {n : Nat}, ix c l = some n → n < l.length ∧ l.getD n 0 = c ∧ ∀ j, j < n → l.getD j 0 ≠ c
  | [], n, h => by cases h
  | b :: l, n, h => by
    rw [ix] at h
    by_cases hb : b = c
    · rw [if_pos hb] at h
      obtain rfl := Option.some.inj h
      exact ⟨by simp, by simpa using hb, fun j hj => by omega⟩
    · rw [if_neg hb] at h
      obtain ⟨m, hm, rfl⟩ := Option.map_eq_some_iff.1 h
      obtain ⟨a, b', d⟩ := ix_some hm
      refine ⟨by simp; omega, by simpa using b', fun j hj => ?_⟩
      cases j with
      | zero => simpa using hb
      | succ j => simpa using d j (by omega)
theorem clos_none : ∀ {l : List Int} {o : Bool}, ix 34 l = none → clos o l = none
  | [], _, _ => rfl
  | c :: l, o, h => by
    rw [ix] at h
    by_cases hc : c = 34
    · rw [if_pos hc] at h; cases h
    · rw [if_neg hc, Option.map_eq_none_iff] at h
      rw [clos, if_neg (fun g => hc g.1), clos_none h]; rfl
theorem clos_some : ∀ {l : List Int} {n : Nat} {o : Bool}, ix 34 l = some n → clos o l = if par o (l.take n) = false then some n else (clos false (l.drop (n + 1))).map (· + (n + 1))
  | [], n, _, h => by cases h
  | c :: l, n, o, h => by
    rw [ix] at h
    by_cases hc : c = 34
    · rw [if_pos hc] at h
      obtain rfl := Option.some.inj h
      subst hc
      rw [clos]
      cases o with
      | false => rw [if_pos ⟨rfl, rfl⟩]; rfl
      | true => rw [if_neg (by decide)]; rfl
    · rw [if_neg hc] at h
      obtain ⟨m, hm, rfl⟩ := Option.map_eq_some_iff.1 h
      rw [clos, if_neg (fun g => hc g.1), List.take_succ_cons, par, List.drop_succ_cons]
      generalize (if c = 92 then !o else false) = o'
      rw [clos_some hm]
      by_cases hp : par o' (l.take m) = false
      · rw [if_pos hp, if_pos hp]; rfl
      · rw [if_neg hp, if_neg hp, Option.map_map]; rfl
theorem par_append : ∀ (a b : List Int) (o : Bool), par o (a ++ b) = par (par o a) b
  | [], _, _ => rfl
  | c :: a, b, o => by rw [List.cons_append, par, par, par_append a b]
theorem par_rep : ∀ (m : Nat) (o : Bool), par o (List.replicate m 92) = (o != (m % 2 == 1))
  | 0, o => by cases o <;> rfl
  | m + 1, o => by
    rw [List.replicate_succ, par, if_pos rfl, par_rep m]
    have : ((m + 1) % 2 == 1) = !(m % 2 == 1) := by
      rw [Bool.eq_iff_iff, Bool.not_eq_true', beq_iff_eq, beq_eq_false_iff_ne]; omega
    rw [this]
    cases o <;> cases (m % 2 == 1) <;> rfl
theorem par_last {a : List Int} {c : Int} (h : c ≠ 92) (o : Bool) : par o (a ++ [c]) = false := by
  rw [par_append, par, if_neg h]; rfl
theorem par_run {l : List Int} {n i : Nat} (hn : n ≤ l.length) (hi : i ≤ n) (hr : ∀ j, i ≤ j → j < n → l.getD j 0 = 92) (he : i = 0 ∨ l.getD (i - 1) 0 ≠ 92) :
    par false (l.take n) = ((n - i) % 2 == 1) := by
  have e : l.take n = l.take i ++ List.replicate (n - i) 92 := by
    apply List.ext_getElem?
    intro j
    by_cases hj : j < n
    · rw [List.getElem?_take_of_lt hj]
      by_cases hj2 : j < i
      · rw [List.getElem?_append_left (by rw [List.length_take]; omega), List.getElem?_take_of_lt hj2]
      · rw [List.getElem?_append_right (by rw [List.length_take]; omega), List.length_take, List.getElem?_replicate, if_pos (by omega)]
        have := hr j (by omega) hj
        rw [List.getD_eq_getElem?_getD, List.getElem?_eq_getElem (by omega)] at this
        rw [List.getElem?_eq_getElem (by omega)]
        simpa using this
    · rw [List.getElem?_eq_none (by rw [List.length_take]; omega), List.getElem?_eq_none]
      rw [List.length_append, List.length_take, List.length_replicate]; omega
  have e0 : par false (l.take i) = false := by
    rcases he with rfl | he
    · rfl
    · by_cases hz : i = 0
      · subst hz; rfl
      · have : l.take i = l.take (i - 1) ++ [l.getD (i - 1) 0] := by
          conv => lhs; rw [show i = (i - 1) + 1 by omega]
          rw [List.take_succ_eq_append_getElem (by omega), List.getD_eq_getElem?_getD, List.getElem?_eq_getElem (by omega)]; rfl
        rw [this]
        exact par_last he _
  rw [e, par_append, e0, par_rep]
  cases ((n - i) % 2 == 1) <;> rfl
theorem par_not {l : List Int} {n : Nat} (hn : n ≤ l.length) (he : n = 0 ∨ l.getD (n - 1) 0 ≠ 92) : par false (l.take n) = false := by
  rw [par_run hn (Nat.le_refl n) (fun j h1 h2 => by omega) he, Nat.sub_self]; rfl

/-- Each backslash from i on begins an escape. -/
def Es (s : ByteArray) (i : Nat) : Bool :=
  if h : i < s.size then
    if bt s i = 92 then
      match he : escEnd s ((i : Int) + 1) with
      | some m => Es s m.toNat
      | none => false
    else Es s (i + 1)
  else true
termination_by s.size - i
decreasing_by
  · have := escEnd_le he; omega
  · omega
theorem Es_end {s : ByteArray} {i : Nat} (h : s.size ≤ i) : Es s i = true := by
  rw [Es, dif_neg (by omega)]
theorem Es_on {s : ByteArray} {i : Nat} (h : i < s.size) (hb : bt s i ≠ 92) : Es s i = Es s (i + 1) := by
  rw [Es, dif_pos h, if_neg hb]
theorem Es_esc {s : ByteArray} {i : Nat} {m : Int} (hb : bt s i = 92) (he : escEnd s ((i : Int) + 1) = some m) : Es s i = Es s m.toNat := by
  have h : i < s.size := by have := bt_in (s := s) (i := i) (by omega); omega
  rw [Es, dif_pos h, if_pos hb]
  split
  · rename_i m' hm
    rw [he] at hm
    rw [Option.some.inj hm]
  · rename_i hm
    rw [he] at hm
    cases hm
theorem Es_bad {s : ByteArray} {i : Nat} (hb : bt s i = 92) (he : escEnd s ((i : Int) + 1) = none) : Es s i = false := by
  have h : i < s.size := by have := bt_in (s := s) (i := i) (by omega); omega
  rw [Es, dif_pos h, if_pos hb]
  split
  · rename_i m' hm
    rw [he] at hm
    cases hm
  · rfl
theorem Es_skip {s : ByteArray} : ∀ (n i : Nat), i + n ≤ s.size → (∀ j, i ≤ j → j < i + n → bt s j ≠ 92) → Es s i = Es s (i + n)
  | 0, _, _, _ => rfl
  | n + 1, i, h, hb => by
    rw [Es_on (by omega) (hb i (Nat.le_refl _) (by omega)), Es_skip n (i + 1) (by omega) (fun j h1 h2 => hb j (by omega) (by omega)), Nat.add_right_comm]
    rfl
theorem suf_bytes (s : ByteArray) (p : Nat) : bytesOf (s.extract p s.size) = (bytesOf s).drop p := by
  rw [bytesOf_extract, List.take_of_length_le (by rw [bytesOf_length]; exact Nat.le_refl _)]
theorem suf_suf (s : ByteArray) (p q : Nat) : (s.extract p s.size).extract q (s.extract p s.size).size = s.extract (p + q) s.size := by
  apply bytesOf_inj
  rw [suf_bytes, suf_bytes, suf_bytes, List.drop_drop]
theorem suf_size (s : ByteArray) (p : Nat) : (s.extract p s.size).size = s.size - p := by
  rw [← bytesOf_length, suf_bytes, List.length_drop, bytesOf_length]
theorem suf_bt (s : ByteArray) (p j : Nat) : bt (s.extract p s.size) (j : Int) = bt s ((p + j : Nat) : Int) := by
  rw [bt_nat, bt_nat, suf_bytes, List.getD_eq_getElem?_getD, List.getD_eq_getElem?_getD, List.getElem?_drop]

/-! ### the reference -/
theorem closing_ev {s : ByteArray} (hs : s.size ≤ 4000) : ∀ (d i : Nat) (x : Int) (o : Bool), i + d = s.size → 0 ≤ x → x ≤ i → Int.tmod x 2 = (if o then 1 else 0) →
    Ev (fun k => spec_Closing.l0 k s x i) (match clos o ((bytesOf s).drop i) with | none => -1 | some n => ((i + n : Nat) : Int))
  | 0, i, x, o, hd, hx0, hx1, ho => by
    rw [List.drop_of_length_le (by rw [bytesOf_length]; omega), clos]
    exact ev_one fun k => by simp (disch := omega) only [spec_Closing.l0, if_neg]
  | d + 1, i, x, o, hd, hx0, hx1, ho => by
    have hi : i < (bytesOf s).length := by rw [bytesOf_length]; omega
    have hb : bt s (i : Int) = (bytesOf s)[i] := by rw [bt_nat, List.getD_eq_getElem?_getD, List.getElem?_eq_getElem hi]; rfl
    rw [List.drop_eq_getElem_cons hi, ← hb, clos]
    have hw : wrap64 ((i : Int) + 1) = ((i + 1 : Nat) : Int) := by rw [wr (by omega) (by omega)]; omega
    have hw2 : wrap64 (x + 1) = x + 1 := wr (by omega) (by omega)
    by_cases hc : bt s (i : Int) = 34 ∧ o = false
    · rw [if_pos hc]
      have hq : (Int.tmod x 2 == 0) = true := by rw [ho, hc.2]; rfl
      refine Ev.step (f := fun k => spec_Closing.j1 k s x i true) (fun k => ?_) (ev_one fun k => ?_)
      · simp (disch := omega) only [spec_Closing.l0, if_pos, hc.1, hq, if_true]
      · simp only [spec_Closing.j1, if_true, Nat.add_zero]
    · rw [if_neg hc]
      have st : Ev (fun k => spec_Closing.j1 k s x i false) (match (clos (if bt s (i : Int) = 92 then !o else false) ((bytesOf s).drop (i + 1))).map (· + 1) with | none => -1 | some n => ((i + n : Nat) : Int)) := by
        by_cases h92 : bt s (i : Int) = 92
        · have ih := closing_ev hs d (i + 1) (x + 1) (!o) (by omega) (by omega) (by omega) (by
            have e : Int.tmod x 2 = x % 2 := Int.tmod_eq_emod_of_nonneg hx0
            have e2 : Int.tmod (x + 1) 2 = (x + 1) % 2 := Int.tmod_eq_emod_of_nonneg (by omega)
            rw [e2]; rw [e] at ho
            cases o with
            | true => simp at ho ⊢; omega
            | false => simp at ho ⊢; omega)
          rw [if_pos h92]
          have : (match (clos (!o) ((bytesOf s).drop (i + 1))).map (· + 1) with | none => (-1 : Int) | some n => ((i + n : Nat) : Int)) = match clos (!o) ((bytesOf s).drop (i + 1)) with | none => -1 | some n => ((i + 1 + n : Nat) : Int) := by
            cases clos (!o) ((bytesOf s).drop (i + 1)) with
            | none => rfl
            | some n => exact congrArg (Nat.cast : Nat → Int) (by omega : i + (n + 1) = i + 1 + n)
          rw [this]
          refine Ev.step (fun k => ?_) ih
          simp (disch := omega) only [spec_Closing.j1, Bool.false_eq_true, if_false, if_pos, h92, hw, hw2, if_true]
        · have ih := closing_ev hs d (i + 1) 0 false (by omega) (by omega) (by omega) rfl
          rw [if_neg h92]
          have : (match (clos false ((bytesOf s).drop (i + 1))).map (· + 1) with | none => (-1 : Int) | some n => ((i + n : Nat) : Int)) = match clos false ((bytesOf s).drop (i + 1)) with | none => -1 | some n => ((i + 1 + n : Nat) : Int) := by
            cases clos false ((bytesOf s).drop (i + 1)) with
            | none => rfl
            | some n => exact congrArg (Nat.cast : Nat → Int) (by omega : i + (n + 1) = i + 1 + n)
          rw [this]
          refine Ev.step (fun k => ?_) ih
          simp (disch := omega) only [spec_Closing.j1, Bool.false_eq_true, if_false, if_pos, if_neg, h92, hw]
      refine Ev.step (fun k => ?_) st
      by_cases h34 : bt s (i : Int) = 34
      · have ho' : o = true := by cases o with
          | true => rfl
          | false => exact absurd ⟨h34, rfl⟩ hc
        have hq : (Int.tmod x 2 == 0) = false := by rw [ho, ho']; rfl
        simp (disch := omega) only [spec_Closing.l0, if_pos, h34, hq, if_true]
      · simp (disch := omega) only [spec_Closing.l0, if_pos, if_neg, h34, if_false]
theorem escapes_ev {s : ByteArray} (hs : s.size ≤ 4000) : ∀ (d i : Nat), i ≤ s.size → s.size - i ≤ d → Ev (fun k => spec_Escapes.l0 k s s i) (Es s i)
  | 0, i, h, hd => by
    rw [Es_end (by omega)]
    exact ev_one fun k => by simp (disch := omega) only [spec_Escapes.l0, if_neg]
  | d + 1, i, h, hd => by
    by_cases hi : i < s.size
    · have hw : wrap64 ((i : Int) + 1) = (i : Int) + 1 := wr (by omega) (by omega)
      have hw1 : wrap64 ((i : Int) + 1 - 1) = i := by rw [wr (by omega) (by omega)]; omega
      by_cases hb : bt s (i : Int) = 92
      · have e := escape_ev (s := s) (by omega) (i := (i : Int) + 1) (by omega) (by omega)
        have st : ∀ k, spec_Escapes.l0 (k + 1) s s i = (spec_reader_escape.f k s ((i : Int) + 1)).bind fun b => if b.1 = true then spec_Escapes.l0 k s b.2.1 b.2.2 else some false := fun k => by
          simp (disch := omega) only [spec_Escapes.l0, if_pos, hw, hw1, hb, if_true]
        cases he : escEnd s ((i : Int) + 1) with
        | none =>
          obtain ⟨p, hp⟩ := e.2 he
          rw [Es_bad hb he]
          exact Ev.step st (Ev.bind (f := fun k b => if b.1 = true then spec_Escapes.l0 k s b.2.1 b.2.2 else some false) hp (ev_const fun _ => rfl))
        | some m =>
          have hm := escEnd_le he
          have ih := escapes_ev hs d m.toNat (by omega) (by omega)
          rw [Es_esc hb he]
          rw [Int.toNat_of_nonneg (by omega)] at ih
          exact Ev.step st (Ev.bind (f := fun k b => if b.1 = true then spec_Escapes.l0 k s b.2.1 b.2.2 else some false) (e.1 m he) (by simpa only [if_true] using ih))
      · have ih := escapes_ev hs d (i + 1) (by omega) (by omega)
        rw [Es_on hi hb]
        refine Ev.step (fun k => ?_) ih
        simp (disch := omega) only [spec_Escapes.l0, if_pos, if_neg, hw, hw1, hb]
        rfl
    · rw [Es_end (by omega)]
      exact ev_one fun k => by simp (disch := omega) only [spec_Escapes.l0, if_neg]
/-- The verdict on a text: where the string that is open ends, if each backslash ahead begins an escape. -/
def good (s : ByteArray) : Option Nat := match clos false (bytesOf s) with
  | none => none
  | some n => if Es (s.extract 0 n) 0 = true then some n else none
theorem clos_lt : ∀ {l : List Int} {o : Bool} {n : Nat}, clos o l = some n → n < l.length
  | [], _, _, h => by cases h
  | c :: l, o, n, h => by
    rw [clos] at h
    split at h
    · obtain rfl := Option.some.inj h; simp
    · obtain ⟨m, hm, rfl⟩ := Option.map_eq_some_iff.1 h
      have := clos_lt hm
      simp; omega
theorem pre_size {s : ByteArray} {n : Nat} (h : n ≤ s.size) : (s.extract 0 n).size = n := by
  rw [← bytesOf_length, bytesOf_extract, List.drop_zero, List.length_take, bytesOf_length]; omega
theorem inside_ev {s : ByteArray} (hs : s.size ≤ 4000) : Ev (fun k => laws_fjInsideEnd.f k s) (match good s with | none => (⟨#[]⟩, false) | some n => (s.extract (n + 1) s.size, true)) := by
  have hc := closing_ev hs s.size 0 0 false (by omega) (by omega) (by omega) rfl
  rw [List.drop_zero] at hc
  unfold good
  cases h : clos false (bytesOf s) with
  | none =>
    rw [h] at hc
    exact Ev.bind (f := fun k t => if t < 0 then some ((⟨#[]⟩ : ByteArray), false) else (if 0 ≤ t then (if t ≤ (s.size : Int) then ((spec_Escapes.f k (s.extract 0 (t : Int).toNat)).bind fun t114 => (if t114 = true then (if 0 ≤ (wrap64 (t + 1)) then (if (wrap64 (t + 1)) ≤ (s.size : Int) then (some (s.extract ((wrap64 (t + 1)) : Int).toNat s.size, true)) else (none)) else (none)) else (some ((⟨#[]⟩ : ByteArray), false)))) else (none)) else (none))) hc (ev_const fun _ => rfl)
  | some n =>
    have hn := clos_lt h
    rw [bytesOf_length] at hn
    rw [h] at hc
    simp only [Nat.zero_add] at hc
    have hp := pre_size (s := s) (n := n) (by omega)
    have he := escapes_ev (s := s.extract 0 n) (by omega) (s.extract 0 n).size 0 (by omega) (by omega)
    have hw : wrap64 ((n : Int) + 1) = ((n + 1 : Nat) : Int) := by rw [wr (by omega) (by omega)]; omega
    refine Ev.bind (f := fun k t => if t < 0 then some ((⟨#[]⟩ : ByteArray), false) else (if 0 ≤ t then (if t ≤ (s.size : Int) then ((spec_Escapes.f k (s.extract 0 (t : Int).toNat)).bind fun t114 => (if t114 = true then (if 0 ≤ (wrap64 (t + 1)) then (if (wrap64 (t + 1)) ≤ (s.size : Int) then (some (s.extract ((wrap64 (t + 1)) : Int).toNat s.size, true)) else (none)) else (none)) else (some ((⟨#[]⟩ : ByteArray), false)))) else (none)) else (none))) hc ?_
    refine Ev.congr (fun k => ?_) (Ev.bind (f := fun k t => if t = true then some (s.extract (n + 1) s.size, true) else some ((⟨#[]⟩ : ByteArray), false)) he ?_)
    · simp (disch := omega) only [if_pos, if_neg, Int.toNat_natCast, hw]
      rfl
    · cases hE : Es (s.extract 0 n) 0 with
      | true => exact ev_const fun _ => by simp only [if_true, hE]
      | false => exact ev_const fun _ => by simp only [if_false, Bool.false_eq_true, hE]

/-! ### the package -/
theorem bt_drop {x : ByteArray} {l : List Int} (h : bytesOf x = l) (j : Nat) : bt x (j : Int) = l.getD j 0 := by rw [bt_nat, h]
theorem l1_ev {x0 x6 : ByteArray} (hs : x0.size ≤ 4000) {n : Nat} (hn : n ≤ x0.size) : ∀ i : Nat, i ≤ n → (∀ j : Nat, i ≤ j → j < n → bt x0 (j : Int) = 92) →
    ∃ i' : Nat, i' ≤ n ∧ (∀ j : Nat, i' ≤ j → j < n → bt x0 (j : Int) = 92) ∧ (i' = 0 ∨ bt x0 ((i' - 1 : Nat) : Int) ≠ 92) ∧ ∀ R, Ev (fun k => fastjson_parseRawString.j3 k x0 n x6 i') R → Ev (fun k => fastjson_parseRawString.l1 k x0 n x6 i) R
  | 0, hi, hj => ⟨0, hi, hj, .inl rfl, fun R h => Ev.step (fun k => by simp (disch := omega) only [fastjson_parseRawString.l1, if_neg]) h⟩
  | i + 1, hi, hj => by
    have hw : wrap64 (((i + 1 : Nat) : Int) - 1) = (i : Int) := by rw [wr (by omega) (by omega)]; omega
    by_cases hb : bt x0 (i : Int) = 92
    · obtain ⟨i', a, b, c, d⟩ := l1_ev (x6 := x6) hs hn i (by omega) (fun j h1 h2 => by
        by_cases e : j = i
        · rw [e]; exact hb
        · exact hj j (by omega) h2)
      refine ⟨i', a, b, c, fun R h => Ev.step (fun k => ?_) (d R h)⟩
      simp (disch := omega) only [fastjson_parseRawString.l1, if_pos, hw, hb, if_true]
    · refine ⟨i + 1, hi, hj, .inr hb, fun R h => Ev.step (fun k => ?_) h⟩
      simp (disch := omega) only [fastjson_parseRawString.l1, if_pos, if_neg, hw, hb, if_false]
/-- What is said of the raw string that a text (its part from p on) begins with. -/
def RawSaid (s : ByteArray) (p : Nat) (R : ByteArray × ByteArray × Option Int) : Prop := match clos false ((bytesOf s).drop p) with
  | some m => R = (s.extract 0 (p + m), s.extract (p + m + 1) s.size, none)
  | none => R.2.2 = some 0
theorem said_some {s : ByteArray} {p m : Nat} {R : ByteArray × ByteArray × Option Int} (h : clos false ((bytesOf s).drop p) = some m) : RawSaid s p R ↔ R = (s.extract 0 (p + m), s.extract (p + m + 1) s.size, none) := by
  unfold RawSaid; rw [h]
theorem said_none {s : ByteArray} {p : Nat} {R : ByteArray × ByteArray × Option Int} (h : clos false ((bytesOf s).drop p) = none) : RawSaid s p R ↔ R.2.2 = some 0 := by
  unfold RawSaid; rw [h]
theorem w_add1 {n : Nat} (h : n ≤ 100000) : wrap64 ((n : Int) + 1) = ((n + 1 : Nat) : Int) := by rw [wr (by omega) (by omega)]; omega
theorem w_add {a b : Nat} (h : a ≤ 100000) (h2 : b ≤ 100000) : wrap64 ((a : Int) + b) = ((a + b : Nat) : Int) := by rw [wr (by omega) (by omega)]; omega
theorem w_sub {a b : Nat} (h : b ≤ a) (h2 : a ≤ 100000) : wrap64 ((a : Int) - b) = ((a - b : Nat) : Int) := by rw [wr (by omega) (by omega)]; omega
theorem w_sub1 {n : Nat} (h : 1 ≤ n) (h2 : n ≤ 100000) : wrap64 ((n : Int) - 1) = ((n - 1 : Nat) : Int) := by rw [wr (by omega) (by omega)]; omega
theorem u64n {n : Nat} (h : n ≤ 100000) : IntKind.u64.wrap ((n : Nat) : Int) = n := by
  have : ((n : Nat) : Int) % 18446744073709551616 = n := by omega
  simpa [IntKind.wrap, IntKind.bits, IntKind.signed] using this
theorem tmodn (n : Nat) : Int.tmod ((n : Nat) : Int) 2 = ((n % 2 : Nat) : Int) := rfl
theorem j3_even {x0 s : ByteArray} {n i' p : Nat} (hi : i' ≤ n) (hn : n < x0.size) (hs : s.size ≤ 4000) (hp : x0.size = s.size - p) (hp2 : p ≤ s.size) (hev : (n - i') % 2 = 0) (k : Nat) :
    fastjson_parseRawString.j3 (k + 1) x0 n s i' = some (s.extract 0 (p + n), x0.extract (n + 1) x0.size, none) := by
  have h2 : wrap64 ((s.size : Int) - (x0.size : Int)) = (p : Int) := by rw [w_sub (by omega) (by omega)]; omega
  rw [fastjson_parseRawString.j3, w_sub hi (by omega), u64n (by omega), tmodn, if_pos (by omega), h2, w_add (by omega) (by omega), w_add1 (by omega), if_pos (by omega), if_pos (by omega), if_pos (by omega), if_pos (by omega), Int.toNat_natCast, Int.toNat_natCast]
/-- What the loop does behind a mark that is not the last one: x1 is the text behind it. -/
def cont (k : Nat) (x1 s : ByteArray) (t : Int) : Option (ByteArray × ByteArray × Option Int) :=
  if t < 0 then some (s, ⟨#[]⟩, some 0) else if t = 0 then (if 0 ≤ (wrap64 ((wrap64 ((s.size : Int) - (x1.size : Int))) + t)) then (if (wrap64 ((wrap64 ((s.size : Int) - (x1.size : Int))) + t)) ≤ (s.size : Int) then (if 0 ≤ (wrap64 (t + 1)) then (if (wrap64 (t + 1)) ≤ (x1.size : Int) then (some (s.extract 0 ((wrap64 ((wrap64 ((s.size : Int) - (x1.size : Int))) + t)) : Int).toNat, x1.extract ((wrap64 (t + 1)) : Int).toNat x1.size, none)) else (none)) else (none)) else (none)) else (none))
  else (if 0 ≤ (wrap64 (t - 1)) then (if (wrap64 (t - 1)) < (x1.size : Int) then (if (bt x1 (wrap64 (t - 1))) = 92 then (fastjson_parseRawString.l0 k x1 t s) else (if 0 ≤ (wrap64 ((wrap64 ((s.size : Int) - (x1.size : Int))) + t)) then (if (wrap64 ((wrap64 ((s.size : Int) - (x1.size : Int))) + t)) ≤ (s.size : Int) then (if 0 ≤ (wrap64 (t + 1)) then (if (wrap64 (t + 1)) ≤ (x1.size : Int) then (some (s.extract 0 ((wrap64 ((wrap64 ((s.size : Int) - (x1.size : Int))) + t)) : Int).toNat, x1.extract ((wrap64 (t + 1)) : Int).toNat x1.size, none)) else (none)) else (none)) else (none)) else (none))) else (none)) else (none))
theorem j3_odd {x0 s : ByteArray} {n i' : Nat} (hi : i' ≤ n) (hn : n < x0.size) (hs : x0.size ≤ 4000) (hod : ¬ (n - i') % 2 = 0) (k : Nat) :
    fastjson_parseRawString.j3 (k + 1) x0 n s i' = (strings_IndexByte.f (x0.extract (n + 1) x0.size) 34).bind (cont k (x0.extract (n + 1) x0.size) s) := by
  rw [fastjson_parseRawString.j3, w_sub hi (by omega), u64n (by omega), tmodn, if_neg (by omega), w_add1 (by omega), if_pos (by omega), if_pos (by omega), Int.toNat_natCast]
  rfl
theorem cont_none {x1 s : ByteArray} (k : Nat) : cont k x1 s (-1) = some (s, ⟨#[]⟩, some 0) := rfl
theorem cont_done {x1 s : ByteArray} {p t : Nat} (hs : s.size ≤ 4000) (hp : x1.size = s.size - p) (hp2 : p ≤ s.size) (ht : t < x1.size) (hend : t = 0 ∨ bt x1 ((t - 1 : Nat) : Int) ≠ 92) (k : Nat) :
    cont k x1 s t = some (s.extract 0 (p + t), x1.extract (t + 1) x1.size, none) := by
  have h2 : wrap64 ((s.size : Int) - (x1.size : Int)) = (p : Int) := by rw [w_sub (by omega) (by omega)]; omega
  unfold cont
  rw [h2, w_add (by omega) (by omega), w_add1 (by omega), if_neg (by omega)]
  by_cases h0 : (t : Int) = 0
  · rw [if_pos h0, if_pos (by omega), if_pos (by omega), if_pos (by omega), if_pos (by omega), Int.toNat_natCast, Int.toNat_natCast]
  · have hb : bt x1 ((t - 1 : Nat) : Int) ≠ 92 := by
      rcases hend with h | h
      · omega
      · exact h
    rw [if_neg h0, w_sub1 (by omega) (by omega), if_pos (by omega), if_pos (by omega), if_neg hb, if_pos (by omega), if_pos (by omega), if_pos (by omega), if_pos (by omega), Int.toNat_natCast, Int.toNat_natCast]
theorem cont_on {x1 s : ByteArray} {t : Nat} (hs : x1.size ≤ 4000) (ht : t < x1.size) (h0 : 0 < t) (hb : bt x1 ((t - 1 : Nat) : Int) = 92) (k : Nat) : cont k x1 s t = fastjson_parseRawString.l0 k x1 t s := by
  unfold cont
  rw [if_neg (by omega), if_neg (by omega), w_sub1 (by omega) (by omega), if_pos (by omega), if_pos (by omega), if_pos hb]
theorem raw_l0 {s : ByteArray} (hs : s.size ≤ 4000) : ∀ (d p n : Nat), p ≤ s.size → s.size - p ≤ d → ix 34 ((bytesOf s).drop p) = some n → 0 < n → bt (s.extract p s.size) ((n - 1 : Nat) : Int) = 92 →
    ∃ R, Ev (fun k => fastjson_parseRawString.l0 k (s.extract p s.size) n s) R ∧ RawSaid s p R
  | 0, p, n, hp, hd, hi, hn, hb => by
    have := (ix_some hi).1
    rw [List.length_drop, bytesOf_length] at this
    omega
  | d + 1, p, n, hp, hd, hi, hn, hb => by
    have hlt := (ix_some hi).1
    rw [List.length_drop, bytesOf_length] at hlt
    have hbx := suf_bytes s p
    have hsz := suf_size s p
    have ssf := suf_suf s p (n + 1)
    obtain ⟨x0, hx0⟩ : ∃ x, x = s.extract p s.size := ⟨_, rfl⟩
    rw [← hx0] at hb hbx hsz ssf ⊢
    obtain ⟨i', hi1, hi2, hi3, hj⟩ := l1_ev (x0 := x0) (x6 := s) (by omega) (n := n) (by omega) (n - 1) (by omega) (fun j h1 h2 => by
      rw [show j = n - 1 by omega]; exact hb)
    have go : ∀ R, Ev (fun k => fastjson_parseRawString.j3 k x0 n s i') R → Ev (fun k => fastjson_parseRawString.l0 k x0 n s) R := fun R h =>
      Ev.step (fun k => by rw [fastjson_parseRawString.l0, w_sub1 hn (by omega)]) (hj R h)
    have hpar := par_run (l := (bytesOf s).drop p) (n := n) (i := i') (by rw [List.length_drop, bytesOf_length]; omega) hi1
      (fun j h1 h2 => by rw [← bt_drop hbx]; exact hi2 j h1 h2) (by
        rcases hi3 with h | h
        · exact .inl h
        · right; rw [← bt_drop hbx]; exact h)
    have hcl := clos_some (o := false) hi
    rw [hpar] at hcl
    clear hj hi2 hi3 hpar
    by_cases hev : (n - i') % 2 = 0
    · rw [if_pos (by rw [beq_eq_false_iff_ne]; omega)] at hcl
      refine ⟨(s.extract 0 (p + n), s.extract (p + n + 1) s.size, none), go _ (ev_one fun k => ?_), (said_some hcl).2 rfl⟩
      rw [j3_even hi1 (by omega) hs hsz hp hev, ssf, Nat.add_assoc]
    · rw [if_neg (by rw [beq_eq_false_iff_ne]; omega), List.drop_drop] at hcl
      have hp1 : p + (n + 1) ≤ s.size := by omega
      have hbx1 := suf_bytes s (p + (n + 1))
      have hsz1 := suf_size s (p + (n + 1))
      have ssf1 := fun q => suf_suf s (p + (n + 1)) q
      have ih := fun t => raw_l0 hs d (p + (n + 1)) t hp1 (by omega)
      have st : ∀ k, fastjson_parseRawString.j3 (k + 1) x0 n s i' = (strings_IndexByte.f (x0.extract (n + 1) x0.size) 34).bind (cont k (x0.extract (n + 1) x0.size) s) := j3_odd hi1 (by omega) (by omega) hev
      obtain ⟨x1, hx1⟩ : ∃ x, x = s.extract (p + (n + 1)) s.size := ⟨_, rfl⟩
      rw [ssf] at st
      rw [← hx1] at hbx1 hsz1 ssf1 ih st
      have hind := index_ix x1 34 (by omega) (by omega)
      rw [hbx1] at hind
      rw [hind] at st
      clear hind hbx hx0 ssf
      cases ht : ix 34 ((bytesOf s).drop (p + (n + 1))) with
      | none =>
        rw [ht] at st
        rw [clos_none ht] at hcl
        exact ⟨(s, ⟨#[]⟩, some 0), go _ (ev_one fun k => by rw [st]; rfl), (said_none hcl).2 rfl⟩
      | some t =>
        have htl := (ix_some ht).1
        rw [List.length_drop, bytesOf_length] at htl
        rw [ht] at st
        have st2 : ∀ k, fastjson_parseRawString.j3 (k + 1) x0 n s i' = cont k x1 s t := st
        by_cases hend : t = 0 ∨ bt x1 ((t - 1 : Nat) : Int) ≠ 92
        · have hc2 := clos_some (o := false) ht
          rw [par_not (by rw [List.length_drop, bytesOf_length]; omega) (by
            rcases hend with h | h
            · exact .inl h
            · right; rw [← bt_drop hbx1]; exact h), if_pos rfl] at hc2
          rw [hc2, Option.map_some] at hcl
          refine ⟨(s.extract 0 (p + (t + (n + 1))), s.extract (p + (t + (n + 1)) + 1) s.size, none), go _ (ev_one fun k => ?_), (said_some hcl).2 rfl⟩
          rw [st2, cont_done hs hsz1 hp1 (by omega) hend, ssf1, show p + (n + 1) + t = p + (t + (n + 1)) by omega, show p + (n + 1) + (t + 1) = p + (t + (n + 1)) + 1 by omega]
        · have ht0 : 0 < t := by
            rcases Nat.eq_zero_or_pos t with h | h
            · exact absurd (.inl h) hend
            · exact h
          have hb2 : bt x1 ((t - 1 : Nat) : Int) = 92 := by
            by_cases h : bt x1 ((t - 1 : Nat) : Int) = 92
            · exact h
            · exact absurd (.inr h) hend
          obtain ⟨R, hR, hS⟩ := ih t ht ht0 hb2
          refine ⟨R, go _ (Ev.step (fun k => ?_) hR), ?_⟩
          · rw [st2, cont_on (by omega) (by omega) ht0 hb2]
          · cases hc : clos false ((bytesOf s).drop (p + (n + 1))) with
            | none =>
              rw [hc] at hcl
              exact (said_none hcl).2 ((said_none hc).1 hS)
            | some m =>
              rw [hc, Option.map_some] at hcl
              rw [said_some hcl, (said_some hc).1 hS]
              rw [show p + (n + 1) + m = p + (m + (n + 1)) by omega]
theorem raw_ev {s : ByteArray} (hs : s.size ≤ 4000) : ∃ R, Ev (fun k => fastjson_parseRawString.f k s) R ∧ RawSaid s 0 R := by
  have hind := index_ix s 34 (by omega) (by omega)
  have e0 : s.extract 0 s.size = s := by
    apply bytesOf_inj
    rw [suf_bytes, List.drop_zero]
  cases hi : ix 34 (bytesOf s) with
  | none =>
    rw [hi] at hind
    refine ⟨(s, ⟨#[]⟩, some 0), ev_const fun k => ?_, (said_none (by rw [List.drop_zero]; exact clos_none hi)).2 rfl⟩
    simp (disch := omega) only [fastjson_parseRawString.f, hind, Option.bind_some, toI, if_pos, errors_New.f]
  | some n =>
    have hlt := (ix_some hi).1
    rw [bytesOf_length] at hlt
    rw [hi] at hind
    have hw1 : wrap64 ((n : Int) + 1) = ((n + 1 : Nat) : Int) := by rw [wr (by omega) (by omega)]; omega
    have hw2 : wrap64 ((n : Int) - 1) = (n : Int) - 1 := wr (by omega) (by omega)
    by_cases hend : n = 0 ∨ bt s ((n - 1 : Nat) : Int) ≠ 92
    · have hc2 := clos_some (o := false) hi
      rw [par_not (by rw [bytesOf_length]; omega) (by
        rcases hend with h | h
        · exact .inl h
        · right; rw [← bt_nat]; exact h), if_pos rfl] at hc2
      have fin : Ev (fun k => fastjson_parseRawString.j0 k s n true) (s.extract 0 n, s.extract (n + 1) s.size, none) := ev_one fun k => by
        simp (disch := omega) only [fastjson_parseRawString.j0, if_true, if_pos, hw1, Int.toNat_natCast]
      refine ⟨_, Ev.congr (fun k => ?_) fin, (said_some (by rw [List.drop_zero]; exact hc2)).2 (by rw [Nat.zero_add])⟩
      by_cases hn0 : n = 0
      · subst hn0
        simp (disch := omega) only [fastjson_parseRawString.f, hind, Option.bind_some, toI, if_pos, if_neg]
      · have hb2 : bt s ((n : Int) - 1) ≠ 92 := by
          rcases hend with h | h
          · exact absurd h hn0
          · rwa [show ((n - 1 : Nat) : Int) = (n : Int) - 1 by omega] at h
        have hb3 : (bt s ((n : Int) - 1) != 92) = true := by simpa using hb2
        simp (disch := omega) only [fastjson_parseRawString.f, hind, Option.bind_some, toI, if_pos, if_neg, hw2, hb3]
    · have hn0 : 0 < n := by
        rcases Nat.eq_zero_or_pos n with h | h
        · exact absurd (.inl h) hend
        · exact h
      have hb2 : bt s ((n - 1 : Nat) : Int) = 92 := by
        by_cases h : bt s ((n - 1 : Nat) : Int) = 92
        · exact h
        · exact absurd (.inr h) hend
      obtain ⟨R, hR, hS⟩ := raw_l0 hs s.size 0 n (by omega) (by omega) (by rw [List.drop_zero]; exact hi) hn0 (by rw [e0]; exact hb2)
      rw [e0] at hR
      have hb3 : (bt s ((n : Int) - 1) != 92) = false := by
        rw [show ((n - 1 : Nat) : Int) = (n : Int) - 1 by omega] at hb2
        rw [hb2]; rfl
      refine ⟨R, Ev.congr (f := fun k => fastjson_parseRawString.j0 k s n false) (fun k => ?_) (Ev.step (fun k => ?_) hR), hS⟩
      · simp (disch := omega) only [fastjson_parseRawString.f, hind, Option.bind_some, toI, if_pos, if_neg, hw2, hb3]
      · simp only [fastjson_parseRawString.j0, Bool.false_eq_true, if_false]
/-! ### escapes -/
theorem dig_hex : ∀ b : Fin 256, (match H.dig (b.val : Int) with | some d => decide (0 ≤ d ∧ d < 16) | none => false) = hex (b.val : Int) := by decide +kernel
theorem dig_pos : ∀ b : Fin 256, (match H.dig (b.val : Int) with | some d => decide (0 ≤ d) | none => true) = true := by decide +kernel
theorem hx_step {c : UInt8} {l : List UInt8} {n : Int} (h0 : 0 ≤ n) (h1 : n ≤ 4095) :
    (hex (c.toNat : Int) = true → ∃ d, 0 ≤ d ∧ d < 16 ∧ H.hx (c :: l) n = H.hx l (n * 16 + d)) ∧ (hex (c.toNat : Int) = false → (H.hx (c :: l) n).2.isNone = false) := by
  have a := dig_hex ⟨c.toNat, c.toNat_lt⟩
  have b := dig_pos ⟨c.toNat, c.toNat_lt⟩
  simp only at a b
  cases hd : H.dig (c.toNat : Int) with
  | none =>
    rw [hd] at a
    refine ⟨fun h => ?_, fun _ => ?_⟩
    · rw [← a] at h; cases h
    · rw [H.hx, hd]; rfl
  | some d =>
    rw [hd] at a b
    simp only [decide_eq_true_eq] at b
    refine ⟨fun h => ?_, fun h => ?_⟩
    · rw [h] at a
      simp only [decide_eq_true_eq] at a
      refine ⟨d, a.1, a.2, ?_⟩
      rw [H.hx, hd]
      simp only
      rw [if_neg (by omega), if_neg (by omega)]
    · rw [h] at a
      simp only [decide_eq_false_iff_not] at a
      rw [H.hx, hd]
      simp only
      rw [if_pos (by omega)]
      rfl
theorem hx4 {x : ByteArray} (h : x.size = 4) : (H.hx x.data.toList 0).2.isNone = (hex (bt x 0) && (hex (bt x 1) && (hex (bt x 2) && hex (bt x 3)))) := by
  have hl : x.data.toList.length = 4 := by rw [Array.length_toList]; exact h
  obtain ⟨a, b, c, d, e⟩ : ∃ a b c d, x.data.toList = [a, b, c, d] := by
    match hq : x.data.toList, hl with
    | [a, b, c, d], _ => exact ⟨a, b, c, d, rfl⟩
  have hb : bytesOf x = [(a.toNat : Int), (b.toNat : Int), (c.toNat : Int), (d.toNat : Int)] := by
    unfold bytesOf; rw [e]; rfl
  have b0 : bt x 0 = a.toNat := by rw [bt_get, hb]; rfl
  have b1 : bt x 1 = b.toNat := by rw [bt_get, hb]; rfl
  have b2 : bt x 2 = c.toNat := by rw [bt_get, hb]; rfl
  have b3 : bt x 3 = d.toNat := by rw [bt_get, hb]; rfl
  rw [b0, b1, b2, b3, e]
  have s0 := hx_step (c := a) (l := [b, c, d]) (n := 0) (by omega) (by omega)
  cases h0 : hex (a.toNat : Int) with
  | false => rw [s0.2 h0]; rfl
  | true =>
    obtain ⟨d0, p0, q0, r0⟩ := s0.1 h0
    rw [r0]
    have s1 := hx_step (c := b) (l := [c, d]) (n := 0 * 16 + d0) (by omega) (by omega)
    cases h1 : hex (b.toNat : Int) with
    | false => rw [s1.2 h1]; rfl
    | true =>
      obtain ⟨d1, p1, q1, r1⟩ := s1.1 h1
      rw [r1]
      have s2 := hx_step (c := c) (l := [d]) (n := (0 * 16 + d0) * 16 + d1) (by omega) (by omega)
      cases h2 : hex (c.toNat : Int) with
      | false => rw [s2.2 h2]; rfl
      | true =>
        obtain ⟨d2, p2, q2, r2⟩ := s2.1 h2
        rw [r2]
        have s3 := hx_step (c := d) (l := []) (n := ((0 * 16 + d0) * 16 + d1) * 16 + d2) (by omega) (by omega)
        cases h3 : hex (d.toNat : Int) with
        | false => rw [s3.2 h3]; rfl
        | true =>
          obtain ⟨d3, p3, q3, r3⟩ := s3.1 h3
          rw [r3]; rfl
/-- What is said of the escapes of a raw string from p on, and of what is behind. -/
def EscSaid (r x7 : ByteArray) (p : Nat) (R : ByteArray × ByteArray × Option Int) : Prop := if Es r p = true then R.2 = (x7, none) else R.2.2 = some 0
theorem esc_bad {r x7 : ByteArray} {p : Nat} {a b : ByteArray} (h : Es r p = false) : EscSaid r x7 p (a, b, some 0) := by
  unfold EscSaid; rw [h]; rfl
theorem v_none {x0 x7 : ByteArray} (hi : ix 92 (bytesOf x0) = none) (k : Nat) : fastjson_validateString.l0 (k + 1) x0 x7 = some (x0, x7, none) := by
  rw [fastjson_validateString.l0, index_ix x0 92 (by omega) (by omega), hi]; rfl
theorem v_end {x0 x7 : ByteArray} {n : Nat} (hs : x0.size ≤ 4000) (hi : ix 92 (bytesOf x0) = some n) (hn : n < x0.size) (h : n + 1 ≥ x0.size) (k : Nat) : fastjson_validateString.l0 (k + 1) x0 x7 = some (x0, x7, some 0) := by
  rw [fastjson_validateString.l0, index_ix x0 92 (by omega) (by omega), hi, Option.bind_some, toI, if_neg (by omega), w_add1 (by omega), if_pos (by omega)]; rfl
theorem v_step {x0 x7 : ByteArray} {n : Nat} (hs : x0.size ≤ 4000) (hi : ix 92 (bytesOf x0) = some n) (h : n + 1 < x0.size) (k : Nat) :
    fastjson_validateString.l0 (k + 1) x0 x7 = fastjson_validateString.j2 k (x0.extract (n + 2) x0.size) x7 (bt x0 ((n + 1 : Nat) : Int)) (short (bt x0 ((n + 1 : Nat) : Int))) := by
  rw [fastjson_validateString.l0, index_ix x0 92 (by omega) (by omega), hi, Option.bind_some, toI, if_neg (by omega), w_add1 (by omega), if_neg (by omega), if_pos (by omega), if_pos (by omega), w_add1 (by omega), if_pos (by omega), if_pos (by omega), Int.toNat_natCast]
  generalize bt x0 ((n + 1 : Nat) : Int) = c
  by_cases c1 : c = 34
  · rw [if_pos c1, c1]; rfl
  rw [if_neg c1]
  by_cases c2 : c = 92
  · rw [if_pos c2, c2]; rfl
  rw [if_neg c2]
  by_cases c3 : c = 47
  · rw [if_pos c3, c3]; rfl
  rw [if_neg c3]
  by_cases c4 : c = 98
  · rw [if_pos c4, c4]; rfl
  rw [if_neg c4]
  by_cases c5 : c = 102
  · rw [if_pos c5, c5]; rfl
  rw [if_neg c5]
  by_cases c6 : c = 110
  · rw [if_pos c6, c6]; rfl
  rw [if_neg c6]
  by_cases c7 : c = 114
  · rw [if_pos c7, c7]; rfl
  rw [if_neg c7]
  have : short c = (c == 116) := by
    unfold short
    rw [beq_eq_false_iff_ne.2 c1, beq_eq_false_iff_ne.2 c2, beq_eq_false_iff_ne.2 c3, beq_eq_false_iff_ne.2 c4, beq_eq_false_iff_ne.2 c5, beq_eq_false_iff_ne.2 c6, beq_eq_false_iff_ne.2 c7]
    rfl
  rw [this]
theorem v2_true {x2 x7 : ByteArray} {c : Int} (k : Nat) : fastjson_validateString.j2 (k + 1) x2 x7 c true = fastjson_validateString.l0 k x2 x7 := by
  rw [fastjson_validateString.j2, if_pos rfl]
theorem v2_few {x2 x7 : ByteArray} (h : x2.size < 4) (k : Nat) : fastjson_validateString.j2 (k + 1) x2 x7 117 false = some (x2, x7, some 0) := by
  rw [fastjson_validateString.j2, if_neg (by decide), if_pos rfl, if_pos (by omega)]; rfl
theorem v2_hex {x2 x7 : ByteArray} (h : ¬ x2.size < 4) (hs : x2.size ≤ 4000) (k : Nat) : fastjson_validateString.j2 (k + 1) x2 x7 117 false =
    if (H.hx (x2.extract 0 4).data.toList 0).2.isNone = true then fastjson_validateString.l0 k (x2.extract 4 x2.size) x7 else some (x2, x7, some 0) := by
  have h4 : (x2.extract 0 4).size = 4 := pre_size (by omega)
  have hpu : strconv_ParseUint.f (x2.extract 0 4) 16 16 = some ((H.hx (x2.extract 0 4).data.toList 0).1, (H.hx (x2.extract 0 4).data.toList 0).2.map fun _ => 0) := by
    unfold strconv_ParseUint.f
    rw [if_pos rfl, if_pos rfl, if_pos (by omega), if_pos (by omega)]
  rw [fastjson_validateString.j2, if_neg (by decide), if_pos rfl, if_neg (by omega), if_pos (by omega), if_pos (by omega), hpu, Option.bind_some]
  cases (H.hx (x2.extract 0 4).data.toList 0).2 <;> rfl
theorem v2_other {x2 x7 : ByteArray} {c : Int} (h : c ≠ 117) (k : Nat) : fastjson_validateString.j2 (k + 1) x2 x7 c false = some (x2, x7, some 0) := by
  rw [fastjson_validateString.j2, if_neg (by decide), if_neg h]; rfl
theorem hexes_hx {r x2 : ByteArray} {q : Nat} (h4 : ¬ x2.size < 4) (sbt2 : ∀ j : Nat, bt x2 (j : Int) = bt r ((q + j : Nat) : Int)) : hexes r 4 (q : Int) = (H.hx (x2.extract 0 4).data.toList 0).2.isNone := by
  have hxb : ∀ j : Nat, j < 4 → bt (x2.extract 0 4) (j : Int) = bt r (((q + j : Nat) : Int)) := fun j hj => by
    rw [← sbt2 j, bt_nat, bt_nat, bytesOf_extract, List.drop_zero, List.getD_eq_getElem?_getD, List.getD_eq_getElem?_getD, List.getElem?_take_of_lt hj]
  have g0 := hxb 0 (by omega)
  have g1 := hxb 1 (by omega)
  have g2 := hxb 2 (by omega)
  have g3 := hxb 3 (by omega)
  rw [hx4 (pre_size (by omega))]
  simp only [hexes, Bool.and_true]
  rw [show bt (x2.extract 0 4) 0 = _ from g0, show bt (x2.extract 0 4) 1 = _ from g1, show bt (x2.extract 0 4) 2 = _ from g2, show bt (x2.extract 0 4) 3 = _ from g3]
  rw [show ((q + 0 : Nat) : Int) = (q : Int) by omega, show ((q + 1 : Nat) : Int) = (q : Int) + 1 by omega, show ((q + 2 : Nat) : Int) = (q : Int) + 1 + 1 by omega, show ((q + 3 : Nat) : Int) = (q : Int) + 1 + 1 + 1 by omega]
theorem esc_l0 {r x7 : ByteArray} (hs : r.size ≤ 4000) : ∀ (d p : Nat), p ≤ r.size → r.size - p < d → ∃ R, Ev (fun k => fastjson_validateString.l0 k (r.extract p r.size) x7) R ∧ EscSaid r x7 p R
  | 0, p, hp, hd => by omega
  | d + 1, p, hp, hd => by
    have hbx := suf_bytes r p
    have hsz := suf_size r p
    have ssf := fun q => suf_suf r p q
    have sbt := fun j => suf_bt r p j
    obtain ⟨x0, hx0⟩ : ∃ x, x = r.extract p r.size := ⟨_, rfl⟩
    rw [← hx0] at hbx hsz ssf sbt ⊢
    cases hi : ix 92 ((bytesOf r).drop p) with
    | none =>
      have hno := ix_none hi
      refine ⟨(x0, x7, none), ev_one fun k => v_none (by rw [hbx]; exact hi) k, ?_⟩
      have : Es r p = true := by
        rw [Es_skip (r.size - p) p (by omega) (fun j h1 h2 => ?_), Es_end (by omega)]
        have := hno (j - p) (by rw [List.length_drop, bytesOf_length]; omega)
        rwa [← bt_drop hbx, sbt, show p + (j - p) = j by omega] at this
      unfold EscSaid
      rw [if_pos this]
    | some n =>
      obtain ⟨hlt, h92, hno⟩ := ix_some hi
      rw [List.length_drop, bytesOf_length] at hlt
      rw [← bt_drop hbx, sbt] at h92
      have hE : Es r p = Es r (p + n) := Es_skip n p (by omega) (fun j h1 h2 => by
        have := hno (j - p) (by omega)
        rwa [← bt_drop hbx, sbt, show p + (j - p) = j by omega] at this)
      have hi0 : ix 92 (bytesOf x0) = some n := by rw [hbx]; exact hi
      by_cases hend : n + 1 ≥ x0.size
      · have hno1 : escEnd r (((p + n : Nat) : Int) + 1) = none := by
          have h0 : bt r (((p + n : Nat) : Int) + 1) = 0 := bt_out r (by omega)
          unfold escEnd
          rw [h0]; rfl
        exact ⟨(x0, x7, some 0), ev_one fun k => v_end (by omega) hi0 (by omega) hend k, esc_bad (by rw [hE, Es_bad h92 hno1])⟩
      · have st : ∀ k, fastjson_validateString.l0 (k + 1) x0 x7 = _ := v_step (x7 := x7) (by omega) hi0 (by omega)
        have hcr : bt r (((p + n : Nat) : Int) + 1) = bt x0 ((n + 1 : Nat) : Int) := by
          rw [sbt, show ((p + (n + 1) : Nat) : Int) = ((p + n : Nat) : Int) + 1 by omega]
        generalize bt x0 ((n + 1 : Nat) : Int) = c at st hcr
        have ssf2 := ssf (n + 2)
        have hsz2 := suf_size r (p + (n + 2))
        have sbt2 := fun j => suf_bt r (p + (n + 2)) j
        have ssf4 := suf_suf r (p + (n + 2)) 4
        have ih2 := esc_l0 (r := r) (x7 := x7) hs d (p + (n + 2)) (by omega) (by omega)
        obtain ⟨x2, hx2⟩ : ∃ x, x = r.extract (p + (n + 2)) r.size := ⟨_, rfl⟩
        rw [← hx2] at ssf2 hsz2 sbt2 ssf4 ih2
        rw [ssf2] at st
        cases hsh : short c with
        | true =>
          rw [hsh] at st
          obtain ⟨R, hR, hS⟩ := ih2
          have he : escEnd r (((p + n : Nat) : Int) + 1) = some (((p + n : Nat) : Int) + 1 + 1) := by
            unfold escEnd; rw [hcr, hsh]; rfl
          refine ⟨R, Ev.step st (Ev.step (fun k => v2_true k) hR), ?_⟩
          unfold EscSaid at hS ⊢
          rw [hE, Es_esc h92 he, show (((p + n : Nat) : Int) + 1 + 1).toNat = p + (n + 2) by omega]
          exact hS
        | false =>
          rw [hsh] at st
          by_cases hu : c = 117
          · rw [hu] at st hcr hsh
            by_cases h4 : x2.size < 4
            · have hno1 : escEnd r (((p + n : Nat) : Int) + 1) = none := by
                unfold escEnd
                rw [hcr, hsh, if_neg (by decide), if_pos rfl]
                cases hx : hexes r 4 (((p + n : Nat) : Int) + 1 + 1) with
                | false => rfl
                | true => have := hexes_in hx; omega
              exact ⟨(x2, x7, some 0), Ev.step st (ev_one fun k => v2_few h4 k), esc_bad (by rw [hE, Es_bad h92 hno1])⟩
            · have hh := hexes_hx (r := r) (q := p + (n + 2)) h4 sbt2
              rw [show ((p + (n + 2) : Nat) : Int) = ((p + n : Nat) : Int) + 1 + 1 by omega] at hh
              have st2 := fun k => v2_hex (x7 := x7) h4 (by omega) k
              cases hN : (H.hx (x2.extract 0 4).data.toList 0).2.isNone with
              | true =>
                rw [hN] at hh st2
                have he : escEnd r (((p + n : Nat) : Int) + 1) = some (((p + n : Nat) : Int) + 1 + 5) := by
                  unfold escEnd; rw [hcr, hsh, hh]; rfl
                obtain ⟨R, hR, hS⟩ := esc_l0 (r := r) (x7 := x7) hs d (p + (n + 2) + 4) (by omega) (by omega)
                rw [← ssf4] at hR
                refine ⟨R, Ev.step st (Ev.step (fun k => by rw [st2, if_pos rfl]) hR), ?_⟩
                unfold EscSaid at hS ⊢
                rw [hE, Es_esc h92 he, show (((p + n : Nat) : Int) + 1 + 5).toNat = p + (n + 2) + 4 by omega]
                exact hS
              | false =>
                rw [hN] at hh st2
                have hno1 : escEnd r (((p + n : Nat) : Int) + 1) = none := by
                  unfold escEnd; rw [hcr, hsh, hh]; rfl
                exact ⟨(x2, x7, some 0), Ev.step st (ev_one fun k => by rw [st2, if_neg (by decide)]), esc_bad (by rw [hE, Es_bad h92 hno1])⟩
          · have hno1 : escEnd r (((p + n : Nat) : Int) + 1) = none := by
              unfold escEnd
              rw [hcr, hsh, if_neg (by decide), if_neg hu]
            exact ⟨(x2, x7, some 0), Ev.step st (ev_one fun k => v2_other hu k), esc_bad (by rw [hE, Es_bad h92 hno1])⟩
/-- The verdict of the package's checks. -/
def Said (s : ByteArray) (R : ByteArray × ByteArray × Option Int) : Prop := match good s with
  | some n => R.2 = (s.extract (n + 1) s.size, none)
  | none => R.2.2 = some 0
theorem whole_suf (s : ByteArray) : s.extract 0 s.size = s := by
  apply bytesOf_inj
  rw [suf_bytes, List.drop_zero]
theorem slow_ev {s : ByteArray} (hs : s.size ≤ 4000) (t : Int) : ∃ R, Ev (fun k => fastjson_validateString.j0 k s t false) R ∧ Said s R := by
  obtain ⟨⟨a, b, e⟩, hR, hS⟩ := raw_ev hs
  have st : ∀ k, fastjson_validateString.j0 (k + 1) s t false = (fastjson_parseRawString.f k s).bind fun b => if b.2.2.isNone = true then fastjson_validateString.l0 k b.1 b.2.1 else some (b.1, b.2.1, some (b.2.2.getD 0)) := fun k => by
    simp only [fastjson_validateString.j0, Bool.false_eq_true, if_false]
  cases hc : clos false (bytesOf s) with
  | none =>
    have h := (said_none (s := s) (p := 0) (by rw [List.drop_zero]; exact hc)).1 hS
    simp only at h
    subst h
    refine ⟨_, Ev.step st (Ev.bind (f := fun k b => if b.2.2.isNone = true then fastjson_validateString.l0 k b.1 b.2.1 else some (b.1, b.2.1, some (b.2.2.getD 0))) hR (ev_const fun _ => rfl)), ?_⟩
    unfold Said good
    rw [hc]
    rfl
  | some n =>
    have h := (said_some (s := s) (p := 0) (by rw [List.drop_zero]; exact hc)).1 hS
    rw [Nat.zero_add] at h
    injection h with h1 h2
    injection h2 with h2 h3
    subst h1 h2 h3
    have hn := clos_lt hc
    rw [bytesOf_length] at hn
    have hp := pre_size (s := s) (n := n) (by omega)
    obtain ⟨R, hR2, hS2⟩ := esc_l0 (r := s.extract 0 n) (x7 := s.extract (n + 1) s.size) (by omega) ((s.extract 0 n).size + 1) 0 (by omega) (by omega)
    rw [whole_suf] at hR2
    refine ⟨R, Ev.step st (Ev.bind (f := fun k b => if b.2.2.isNone = true then fastjson_validateString.l0 k b.1 b.2.1 else some (b.1, b.2.1, some (b.2.2.getD 0))) hR (by simpa only [Option.isNone_none, if_true] using hR2)), ?_⟩
    unfold EscSaid at hS2
    unfold Said good
    rw [hc]
    simp only
    by_cases hE : Es (s.extract 0 n) 0 = true
    · rw [if_pos hE] at hS2 ⊢
      exact hS2
    · rw [if_neg hE] at hS2 ⊢
      exact hS2
/-- No backslash stands ahead of the mark. -/
theorem good_fast {s : ByteArray} {n : Nat} (hn : n < s.size) (hq : bt s (n : Int) = 34) (hno : ∀ j : Nat, j < n → bt s (j : Int) ≠ 34 ∧ bt s (j : Int) ≠ 92) : good s = some n := by
  have hi : ∀ (l : List Int) (n : Nat), n < l.length → l.getD n 0 = 34 → (∀ j, j < n → l.getD j 0 ≠ 34) → ix 34 l = some n := by
    intro l
    induction l with
    | nil => intro n h; cases h
    | cons a l ih =>
      intro n h1 h2 h3
      rw [ix]
      cases n with
      | zero => rw [if_pos (by simpa using h2)]
      | succ n =>
        rw [if_neg (by simpa using h3 0 (by omega)), ih n (by simpa using h1) (by simpa using h2) (fun j hj => by simpa using h3 (j + 1) (by omega))]
        rfl
  have h1 := hi (bytesOf s) n (by rw [bytesOf_length]; exact hn) (by rw [← bt_nat]; exact hq) (fun j hj => by rw [← bt_nat]; exact (hno j hj).1)
  have h2 := clos_some (o := false) h1
  rw [par_not (by rw [bytesOf_length]; omega) (by
    by_cases h : n = 0
    · exact .inl h
    · right; rw [← bt_nat]; exact (hno (n - 1) (by omega)).2), if_pos rfl] at h2
  have hp := pre_size (s := s) (n := n) (by omega)
  have hE : Es (s.extract 0 n) 0 = true := by
    rw [Es_skip n 0 (by omega) (fun j h1 h2 => ?_), Es_end (by omega)]
    have e : bt (s.extract 0 n) (j : Int) = bt s (j : Int) := by
      rw [bt_nat, bt_nat, bytesOf_extract, List.drop_zero, List.getD_eq_getElem?_getD, List.getD_eq_getElem?_getD, List.getElem?_take_of_lt (by omega)]
    rw [e]
    exact (hno j (by omega)).2
  unfold good
  rw [h2]
  simp only
  rw [if_pos hE]
theorem string_ev {s : ByteArray} (hs : s.size ≤ 4000) : ∃ R, Ev (fun k => fastjson_validateString.f k s) R ∧ Said s R := by
  have hind := index_ix s 34 (by omega) (by omega)
  cases hi : ix 34 (bytesOf s) with
  | none =>
    rw [hi] at hind
    obtain ⟨R, hR, hS⟩ := slow_ev hs (-1)
    refine ⟨R, Ev.congr (fun k => ?_) hR, hS⟩
    simp (disch := omega) only [fastjson_validateString.f, hind, Option.bind_some, toI, if_neg]
  | some n =>
    rw [hi] at hind
    obtain ⟨hlt, h34, hno⟩ := ix_some hi
    rw [bytesOf_length] at hlt
    have hp := pre_size (s := s) (n := n) (by omega)
    have hind2 := index_ix (s.extract 0 n) 92 (by omega) (by omega)
    have st : ∀ k, fastjson_validateString.f k s = fastjson_validateString.j0 k s n (decide (toI (ix 92 (bytesOf (s.extract 0 n))) < 0)) := fun k => by
      rw [fastjson_validateString.f, hind, Option.bind_some, show toI (some n) = (n : Int) from rfl, if_pos (by omega), if_pos (by omega), if_pos (by omega), Int.toNat_natCast, hind2, Option.bind_some]
    cases h2 : ix 92 (bytesOf (s.extract 0 n)) with
    | none =>
      have hg : good s = some n := good_fast hlt (by rw [bt_nat]; exact h34) (fun j hj => ⟨by rw [bt_nat]; exact hno j hj, by
        have := ix_none h2 j (by rw [bytesOf_length, hp]; exact hj)
        rw [bytesOf_extract, List.drop_zero, List.getD_eq_getElem?_getD, List.getElem?_take_of_lt hj, ← List.getD_eq_getElem?_getD, ← bt_nat] at this
        exact this⟩)
      have hw1 : wrap64 ((n : Int) + 1) = ((n + 1 : Nat) : Int) := by rw [wr (by omega) (by omega)]; omega
      refine ⟨(s.extract 0 n, s.extract (n + 1) s.size, none), Ev.congr st (ev_one fun k => ?_), ?_⟩
      · have : decide (toI (ix 92 (bytesOf (s.extract 0 n))) < 0) = true := by rw [h2]; rfl
        rw [this]
        simp (disch := omega) only [fastjson_validateString.j0, if_true, if_pos, hw1, Int.toNat_natCast]
      · unfold Said; rw [hg]
    | some m =>
      obtain ⟨R, hR, hS⟩ := slow_ev hs (n : Int)
      refine ⟨R, Ev.congr st ?_, hS⟩
      have : decide (toI (ix 92 (bytesOf (s.extract 0 n))) < 0) = false := by
        rw [h2, decide_eq_false_iff_not]; show ¬ ((m : Int) < 0); omega
      rw [this]
      exact hR
theorem key_l0 {s : ByteArray} (hs : s.size ≤ 4000) : ∀ (d i : Nat), i + d = s.size → (∀ j : Nat, j < i → bt s (j : Int) ≠ 34 ∧ bt s (j : Int) ≠ 92) → ∃ R, Ev (fun k => fastjson_validateKey.l0 k s s.size i) R ∧ Said s R
  | 0, i, hd, hno => by
    refine ⟨(⟨#[]⟩, s, some 0), ev_one fun k => ?_, ?_⟩
    · simp (disch := omega) only [fastjson_validateKey.l0, if_neg, errors_New.f, Option.bind_some]
    · have hc : clos false (bytesOf s) = none := by
        apply clos_none
        cases h : ix 34 (bytesOf s) with
        | none => rfl
        | some n =>
          obtain ⟨a, b, _⟩ := ix_some h
          rw [bytesOf_length] at a
          rw [← bt_nat] at b
          exact absurd b (hno n (by omega)).1
      unfold Said good
      rw [hc]
  | d + 1, i, hd, hno => by
    have hw1 : wrap64 ((i : Int) + 1) = ((i + 1 : Nat) : Int) := by rw [wr (by omega) (by omega)]; omega
    by_cases h34 : bt s (i : Int) = 34
    · have hg : good s = some i := good_fast (by omega) h34 hno
      refine ⟨(s.extract 0 i, s.extract (i + 1) s.size, none), ev_one fun k => ?_, ?_⟩
      · simp (disch := omega) only [fastjson_validateKey.l0, if_pos, h34, hw1, Int.toNat_natCast, if_true]
      · unfold Said; rw [hg]
    by_cases h92 : bt s (i : Int) = 92
    · obtain ⟨⟨a, b, e⟩, hR, hS⟩ := string_ev hs
      have st : ∀ k, fastjson_validateKey.l0 (k + 1) s s.size i = (fastjson_validateString.f k s).bind fun b => some (b.1, b.2.1, b.2.2) := fun k => by
        simp (disch := omega) only [fastjson_validateKey.l0, if_pos, if_neg, h34, h92, if_true]
      exact ⟨_, Ev.step st (Ev.bind (f := fun _ b => some (b.1, b.2.1, b.2.2)) hR (ev_const fun _ => rfl)), hS⟩
    · obtain ⟨R, hR, hS⟩ := key_l0 hs d (i + 1) (by omega) (fun j hj => by
        by_cases e : j = i
        · rw [e]; exact ⟨h34, h92⟩
        · exact hno j (by omega))
      refine ⟨R, Ev.step (fun k => ?_) hR, hS⟩
      simp (disch := omega) only [fastjson_validateKey.l0, if_pos, if_neg, h34, h92, hw1, if_false]
/-- What the package's door gives for a text. -/
def doorSaid (s : ByteArray) (B : ByteArray × Bool) : Prop := match good s with
  | some n => B = (s.extract (n + 1) s.size, true)
  | none => B.2 = false
theorem door_ev {s : ByteArray} (hs : s.size ≤ 4000) : ∃ B, Ev (fun k => impl_FjCheckKey.f k s) B ∧ doorSaid s B := by
  obtain ⟨⟨a, b, e⟩, hR, hS⟩ := key_l0 hs s.size 0 (by omega) (fun j hj => by omega)
  have hD : Ev (fun k => fastjson_DoorCheckKey.f k s) (b, e) := Ev.bind (f := fun _ (b : ByteArray × ByteArray × Option Int) => some (b.2.1, b.2.2)) hR (ev_const fun _ => rfl)
  unfold Said at hS
  cases hg : good s with
  | none =>
    rw [hg] at hS
    simp only at hS
    subst hS
    refine ⟨_, Ev.bind (f := fun _ (b : ByteArray × Option Int) => if b.2.isNone = true then some (b.1, true) else some ((⟨#[]⟩ : ByteArray), false)) hD (ev_const fun _ => rfl), ?_⟩
    unfold doorSaid; rw [hg]
  | some n =>
    rw [hg] at hS
    simp only [Prod.mk.injEq] at hS
    obtain ⟨rfl, rfl⟩ := hS
    refine ⟨_, Ev.bind (f := fun _ (b : ByteArray × Option Int) => if b.2.isNone = true then some (b.1, true) else some ((⟨#[]⟩ : ByteArray), false)) hD (ev_const fun _ => rfl), ?_⟩
    unfold doorSaid; rw [hg]
theorem good_mark : good (⟨#[34]⟩ : ByteArray) = some 0 := good_fast (by decide) (by decide) (fun j hj => by omega)
theorem FnFjCheckKey : laws_FnFjCheckKey.Pure := by
  intro s hz
  refine Ev.rounds (g := fun k => laws_FnFjCheckKey.f k s) ?_
  by_cases c1 : (s.size : Int) > 2147483647
  · exact ev_const fun k => by simp only [laws_FnFjCheckKey.f, if_pos c1]
  by_cases c2 : (s.size : Int) > 4000
  · exact ev_const fun k => by simp only [laws_FnFjCheckKey.f, if_neg c1, if_pos c2]
  have hs : s.size ≤ 4000 := by omega
  have h1 := inside_ev hs
  obtain ⟨⟨b1, b2⟩, h2, e2⟩ := door_ev hs
  obtain ⟨⟨m1, m2⟩, h3, e3⟩ := door_ev (s := (⟨#[34]⟩ : ByteArray)) (by decide)
  have em : m2 = true := by
    unfold doorSaid at e3
    rw [good_mark] at e3
    exact (Prod.mk.inj e3).2
  subst em
  obtain ⟨⟨w1, w2⟩, hw⟩ : ∃ w, w = (match good s with | none => ((⟨#[]⟩ : ByteArray), false) | some n => (s.extract (n + 1) s.size, true)) := ⟨_, rfl⟩
  rw [← hw] at h1
  refine Ev.congr (f := fun k => (laws_fjInsideEnd.f k s).bind fun bt143 => ((impl_FjCheckKey.f k s).bind fun bt145 => ((impl_FjCheckKey.f k (⟨#[34]⟩ : ByteArray)).bind fun bt147 => (if bt147.2 = true then (if (bt145.2 == bt143.2) = true then (if bt143.2 = true then (some (bt145.1.toList == bt143.1.toList)) else (some true)) else (some false)) else (some false))))) (fun k => ?_) ?_
  · simp only [laws_FnFjCheckKey.f, if_neg c1, if_neg c2]
  refine Ev.bind (f := fun k bt143 => ((impl_FjCheckKey.f k s).bind fun bt145 => ((impl_FjCheckKey.f k (⟨#[34]⟩ : ByteArray)).bind fun bt147 => (if bt147.2 = true then (if (bt145.2 == bt143.2) = true then (if bt143.2 = true then (some (bt145.1.toList == bt143.1.toList)) else (some true)) else (some false)) else (some false))))) h1 ?_
  refine Ev.bind (f := fun k bt145 => ((impl_FjCheckKey.f k (⟨#[34]⟩ : ByteArray)).bind fun bt147 => (if bt147.2 = true then (if (bt145.2 == w2) = true then (if w2 = true then (some (bt145.1.toList == w1.toList)) else (some true)) else (some false)) else (some false)))) h2 ?_
  refine Ev.bind (f := fun k bt147 => (if bt147.2 = true then (if (b2 == w2) = true then (if w2 = true then (some (b1.toList == w1.toList)) else (some true)) else (some false)) else (some false))) h3 ?_
  refine ev_const fun k => ?_
  unfold doorSaid at e2
  cases hg : good s with
  | none =>
    rw [hg] at hw e2
    obtain ⟨rfl, rfl⟩ := Prod.mk.inj hw
    simp only at e2
    subst e2
    rfl
  | some n =>
    rw [hg] at hw e2
    obtain ⟨rfl, rfl⟩ := Prod.mk.inj hw
    obtain ⟨rfl, rfl⟩ := Prod.mk.inj e2
    simp
end Go.Proofs.YtfpbbnllaogclaaDoor.Pure
