/- What AppendJSONString writes of two texts in UTF-8 one behind the other is what it writes of each, without the quotation marks between, under the law's own guards alone. -/
import Derived.Test.YtdndddembndnhaaDoorPAx1
import Derived.Test.YtdndddembndnhaaDoorPAx10
import Derived.Test.YtdndddembndnhaaDoorPAx12
import Derived.Test.YtdndddembndnhaaDoorPAx13
import Derived.Test.YtdndddembndnhaaDoorPAx14
import Derived.Test.YtdndddembndnhaaDoorPAx15
import Derived.Test.YtdndddembndnhaaDoorPAx8
import Derived.Test.YtdndddembndnhaaDoorPAx9
import Derived.Test.YtdndddembndnhaaDoorJByt
import Derived.Test.YtdndddembndnhaaDoorJUtf
import Derived.Test.YtdndddembndnhaaDoorJDec
namespace Go.Proofs.YtdndddembndnhaaDoor.Pure
open Go.RowKit Go.Proofs.YtdndddembndnhaaDoor.PA Go.Proofs.YtdndddembndnhaaDoor.J Go.Proofs.YtdndddembndnhaaDoorW.PrintWords Go.Proofs.YtdndddembndnhaaDoorW.PrintLast
set_option linter.unusedSimpArgs false
set_option linter.unusedVariables false

def hexT : List Int := tabG0
/-- Four hexadecimal digits. -/
def hx (c : Int) : List Int := [rd tabG0 (Go.bits .and .u16 (IntKind.u16.wrap c / 4096) 15), rd tabG0 (Go.bits .and .u16 (IntKind.u16.wrap c / 256) 15), rd tabG0 (Go.bits .and .u16 (IntKind.u16.wrap c / 16) 15), rd tabG0 (Go.bits .and .u16 (IntKind.u16.wrap c) 15)]
theorem hx_length (c : Int) : (hx c).length = 4 := rfl
theorem hex_all : ∀ c : Fin 256, (0 ≤ Go.bits .and .u16 (IntKind.u16.wrap (c.val : Int) / 4096) 15 ∧ Go.bits .and .u16 (IntKind.u16.wrap (c.val : Int) / 4096) 15 < 16) ∧ (0 ≤ Go.bits .and .u16 (IntKind.u16.wrap (c.val : Int) / 256) 15 ∧ Go.bits .and .u16 (IntKind.u16.wrap (c.val : Int) / 256) 15 < 16) ∧
    (0 ≤ Go.bits .and .u16 (IntKind.u16.wrap (c.val : Int) / 16) 15 ∧ Go.bits .and .u16 (IntKind.u16.wrap (c.val : Int) / 16) 15 < 16) ∧ (0 ≤ Go.bits .and .u16 (IntKind.u16.wrap (c.val : Int)) 15 ∧ Go.bits .and .u16 (IntKind.u16.wrap (c.val : Int)) 15 < 16) := by decide +kernel
theorem hex_f {c : Int} (h0 : 0 ≤ c) (h1 : c ≤ 255) {l : List Int} (hl : l.length + 4 < 140737488355328) : gjson_appendHex16.f l (IntKind.u16.wrap c) = some (l ++ hx c) := by
  have h := hex_all ⟨c.toNat, by omega⟩
  simp only [Int.toNat_of_nonneg h0] at h
  obtain ⟨⟨a0, a1⟩, ⟨b0, b1⟩, ⟨c0, c1⟩, ⟨d0, d1⟩⟩ := h
  simp only [gjson_appendHex16.f, if_pos a0, if_pos a1, if_pos b0, if_pos b1, if_pos c0, if_pos c1, if_pos d0, if_pos d1, Option.bind_some, List.length_cons, List.length_nil]
  rw [if_pos (by omega)]
  rfl
attribute [local irreducible] bt rd hx
/-- What is put out for the character at i. -/
def out (s : ByteArray) (i r n : Int) : List Int :=
  if bt s i < 32 then 92 :: (if bt s i = 8 then [98] else if bt s i = 12 then [102] else if bt s i = 10 then [110] else if bt s i = 13 then [114] else if bt s i = 9 then [116] else 117 :: hx (bt s i))
  else if bt s i = 62 ∨ bt s i = 60 ∨ bt s i = 38 then 92 :: 117 :: hx (bt s i)
  else if bt s i = 92 then [92, 92] else if bt s i = 34 then [92, 34]
  else if bt s i > 127 then (if r = 8232 ∨ r = 8233 then [92, 117, 50, 48, 50, rd tabG0 (Go.bits .and .i32 r 15)] else bytesOf (s.extract i.toNat (i + n).toNat))
  else [bt s i]
theorem out_length {s : ByteArray} {i r n : Int} (h0 : 0 ≤ i) (hi : i < s.size) (h : chr s i = some (r, n)) : (out s i r n).length ≤ 6 := by
  have hl := chr_len hi h
  have hx4 := hx_length (bt s i)
  unfold out
  split
  · repeat (split; · simp)
    simp [hx4]
  split
  · simp [hx4]
  split
  · simp
  split
  · simp
  split
  · split
    · simp
    · rw [bytesOf_length]
      have := size_ext (s := s) (i := i) (j := i + n) h0 (by omega) (by omega)
      omega
  · simp
theorem low_n {s : ByteArray} {i r n : Int} (h : chr s i = some (r, n)) (c : bt s i < 128) : n = 1 := by
  unfold chr at h
  rw [if_pos c] at h
  simp only [Option.some.injEq, Prod.mk.injEq] at h
  omega
theorem u202 : bytesOf (⟨#[92, 117, 50, 48, 50]⟩ : ByteArray) = [92, 117, 50, 48, 50] := rfl
theorem step_l0 {s : ByteArray} (hn : s.size ≤ 140737488351232) {i r n : Int} {x0 R : List Int} (h0 : 0 ≤ i) (hi : i < s.size) (h : chr s i = some (r, n)) (hx : x0.length + 6 < 140737488355328)
    (he : Ev (fun k => gjson_AppendJSONString.l0 k (x0 ++ out s i r n) s (i + n)) R) : Ev (fun k => gjson_AppendJSONString.l0 k x0 s i) R := by
  have hl := chr_len hi h
  have b0 := bt_lo s i
  have b1 := bt_hi s i
  have w1 : wrap64 (i + 1) = i + 1 := wr (by omega) (by omega)
  have p1 : (x0 ++ [92]).length < 140737488355328 := by simp; omega
  have p2 : (x0 ++ [92, 117]).length + 4 < 140737488355328 := by simp; omega
  have p3 : x0.length < 140737488355328 := by omega
  have p4 : x0.length + ([92, 117] : List Int).length < 140737488355328 := by simp; omega
  have p5 : x0.length + ([92, 92] : List Int).length < 140737488355328 := by simp; omega
  have p6 : x0.length + ([92, 34] : List Int).length < 140737488355328 := by simp; omega
  by_cases c1 : bt s i < 32
  · have hn1 := low_n h (by omega)
    subst hn1
    unfold out at he
    rw [if_pos c1] at he
    by_cases d1 : bt s i = 8
    · rw [if_pos d1] at he
      refine Ev.step (fun k => ?_) he
      simp only [gjson_AppendJSONString.l0, if_pos hi, if_pos h0, if_pos c1, if_pos p3, Option.bind_some, if_pos p1, if_pos d1, w1, List.append_assoc, List.cons_append, List.nil_append]
    rw [if_neg d1] at he
    by_cases d2 : bt s i = 12
    · rw [if_pos d2] at he
      refine Ev.step (fun k => ?_) he
      simp only [gjson_AppendJSONString.l0, if_pos hi, if_pos h0, if_pos c1, if_pos p3, Option.bind_some, if_pos p1, if_neg d1, if_pos d2, w1, List.append_assoc, List.cons_append, List.nil_append]
    rw [if_neg d2] at he
    by_cases d3 : bt s i = 10
    · rw [if_pos d3] at he
      refine Ev.step (fun k => ?_) he
      simp only [gjson_AppendJSONString.l0, if_pos hi, if_pos h0, if_pos c1, if_pos p3, Option.bind_some, if_pos p1, if_neg d1, if_neg d2, if_pos d3, w1, List.append_assoc, List.cons_append, List.nil_append]
    rw [if_neg d3] at he
    by_cases d4 : bt s i = 13
    · rw [if_pos d4] at he
      refine Ev.step (fun k => ?_) he
      simp only [gjson_AppendJSONString.l0, if_pos hi, if_pos h0, if_pos c1, if_pos p3, Option.bind_some, if_pos p1, if_neg d1, if_neg d2, if_neg d3, if_pos d4, w1, List.append_assoc, List.cons_append, List.nil_append]
    rw [if_neg d4] at he
    by_cases d5 : bt s i = 9
    · rw [if_pos d5] at he
      refine Ev.step (fun k => ?_) he
      simp only [gjson_AppendJSONString.l0, if_pos hi, if_pos h0, if_pos c1, if_pos p3, Option.bind_some, if_pos p1, if_neg d1, if_neg d2, if_neg d3, if_neg d4, if_pos d5, w1, List.append_assoc, List.cons_append, List.nil_append]
    rw [if_neg d5] at he
    refine Ev.step (fun k => ?_) he
    have hq := hex_f b0 b1 (l := x0 ++ [92, 117]) p2
    simp only [gjson_AppendJSONString.l0, if_pos hi, if_pos h0, if_pos c1, if_pos p3, Option.bind_some, if_pos p1, if_neg d1, if_neg d2, if_neg d3, if_neg d4, if_neg d5, w1, hq, List.append_assoc, List.cons_append, List.nil_append]
  have fin : ∀ b, Ev (fun k => gjson_AppendJSONString.j1 k x0 s i b) R → (b = true ↔ bt s i = 62 ∨ bt s i = 60 ∨ bt s i = 38) → Ev (fun k => gjson_AppendJSONString.l0 k x0 s i) R := by
    intro b hj hb
    refine Ev.step (fun k => ?_) hj
    by_cases d1 : bt s i = 62
    · obtain rfl := hb.2 (.inl d1)
      simp only [gjson_AppendJSONString.l0, if_pos hi, if_pos h0, if_neg c1, if_pos d1]
    by_cases d2 : bt s i = 60
    · obtain rfl := hb.2 (.inr (.inl d2))
      simp only [gjson_AppendJSONString.l0, if_pos hi, if_pos h0, if_neg c1, if_neg d1, if_pos d2]
    have e : (bt s i == 38) = b := by
      rw [Bool.eq_iff_iff, hb, beq_iff_eq]
      exact ⟨fun h => .inr (.inr h), fun h => by rcases h with h | h | h <;> first | exact absurd h d1 | exact absurd h d2 | exact h⟩
    simp only [gjson_AppendJSONString.l0, if_pos hi, if_pos h0, if_neg c1, if_neg d1, if_neg d2, e]
  unfold out at he
  rw [if_neg c1] at he
  by_cases c2 : bt s i = 62 ∨ bt s i = 60 ∨ bt s i = 38
  · have hn1 := low_n h (by omega)
    subst hn1
    rw [if_pos c2] at he
    refine fin true (Ev.step (fun k => ?_) he) (by simp [c2])
    have hq := hex_f b0 b1 (l := x0 ++ [92, 117]) p2
    simp only [gjson_AppendJSONString.j1, if_true, gjson_escapeHTML.f, Option.bind_some, if_pos p4, if_pos h0, if_pos hi, hq, w1, List.append_assoc, List.cons_append, List.nil_append]
  rw [if_neg c2] at he
  refine fin false ?_ (by simp [c2])
  by_cases c3 : bt s i = 92
  · have hn1 := low_n h (by omega)
    subst hn1
    rw [if_pos c3] at he
    refine Ev.step (fun k => ?_) he
    simp only [gjson_AppendJSONString.j1, Bool.false_eq_true, if_false, if_pos h0, if_pos hi, if_pos c3, Option.bind_some, if_pos p5, w1]
  rw [if_neg c3] at he
  by_cases c4 : bt s i = 34
  · have hn1 := low_n h (by omega)
    subst hn1
    rw [if_pos c4] at he
    refine Ev.step (fun k => ?_) he
    simp only [gjson_AppendJSONString.j1, Bool.false_eq_true, if_false, if_pos h0, if_pos hi, if_neg c3, if_pos c4, Option.bind_some, if_pos p6, w1]
  rw [if_neg c4] at he
  by_cases c5 : bt s i > 127
  · rw [if_pos c5] at he
    have w2 : wrap64 (i + n) = i + n := wr (by omega) (by omega)
    have w3 : wrap64 (i + n - 1) = i + n - 1 := wr (by omega) (by omega)
    have w4 : wrap64 (i + n - 1 + 1) = i + n := by rw [wr (by omega) (by omega)]; omega
    have hd : Ev (fun k => utf8_DecodeRuneInString.f k (s.extract i.toNat s.size)) (r, n) := by
      have hz := size_ext (s := s) (i := i) (j := s.size) h0 (by omega) (by omega)
      rw [Int.toNat_natCast] at hz
      have := dec_ev (s := s.extract i.toNat s.size) (by omega)
      rw [dec_some (chr_tail h0 hi h)] at this
      exact this
    have hne : ¬ n = 0 := by omega
    have hnn : ¬ n = 1 := by
      intro e
      subst e
      unfold chr at h
      rw [if_neg (by omega)] at h
      repeat (split at h; · have := multi_len h; omega)
      cases h
    have hj : Ev (fun k => gjson_AppendJSONString.j2 k x0 s i r n false) R := by
      by_cases d1 : r = 8232 ∨ r = 8233
      · rw [if_pos d1] at he
        have q1 : x0.length + 5 < 140737488355328 := by omega
        have q2 : (x0 ++ [92, 117, 50, 48, 50]).length < 140737488355328 := by simp; omega
        rcases d1 with d1 | d1
        · refine Ev.step (fun k => ?_) he
          have q3 : 0 ≤ Go.bits .and .i32 r 15 := by rw [d1]; decide +kernel
          have q4 : Go.bits .and .i32 r 15 < 16 := by rw [d1]; decide +kernel
          simp only [gjson_AppendJSONString.j2, Bool.false_eq_true, if_false, if_pos d1, if_pos q1, Option.bind_some, if_pos q3, if_pos q4, if_pos q2, w2, w3, w4, u202, List.append_assoc, List.cons_append, List.nil_append]
        · refine Ev.step (fun k => ?_) he
          have d2 : ¬ r = 8232 := by omega
          have q3 : 0 ≤ Go.bits .and .i32 r 15 := by rw [d1]; decide +kernel
          have q4 : Go.bits .and .i32 r 15 < 16 := by rw [d1]; decide +kernel
          simp only [gjson_AppendJSONString.j2, Bool.false_eq_true, if_false, if_neg d2, if_pos d1, if_pos q1, Option.bind_some, if_pos q3, if_pos q4, if_pos q2, w2, w3, w4, u202, List.append_assoc, List.cons_append, List.nil_append]
      · rw [if_neg d1] at he
        have d2 : ¬ r = 8232 := by omega
        have d3 : ¬ r = 8233 := by omega
        have q1 : i ≤ i + n := by omega
        have q2 : i + n ≤ s.size := by omega
        have q3 : x0.length + (s.extract i.toNat (i + n).toNat).size < 140737488355328 := by
          have := size_ext (s := s) (i := i) (j := i + n) h0 (by omega) (by omega)
          omega
        refine Ev.step (fun k => ?_) he
        simp only [gjson_AppendJSONString.j2, Bool.false_eq_true, if_false, if_neg d2, if_neg d3, if_pos h0, w2, if_pos q1, if_pos q2, if_pos q3, w3, w4]
    refine Ev.step (f := fun k => (utf8_DecodeRuneInString.f k (s.extract i.toNat s.size)).bind fun b => if b.2 = 0 then (if x0.length < 140737488355328 then some (x0 ++ [34]) else none) else if b.1 = 65533 then gjson_AppendJSONString.j2 k x0 s i b.1 b.2 (b.2 == 1) else gjson_AppendJSONString.j2 k x0 s i b.1 b.2 false) (fun k => ?_)
      (Ev.bind (f := fun k b => if b.2 = 0 then (if x0.length < 140737488355328 then some (x0 ++ [34]) else none) else if b.1 = 65533 then gjson_AppendJSONString.j2 k x0 s i b.1 b.2 (b.2 == 1) else gjson_AppendJSONString.j2 k x0 s i b.1 b.2 false) hd ?_)
    · have q1 : i ≤ s.size := by omega
      simp only [gjson_AppendJSONString.j1, Bool.false_eq_true, if_false, if_pos h0, if_pos hi, if_neg c3, if_neg c4, if_pos c5, if_pos q1]
    · have e : (n == 1) = false := beq_eq_false_iff_ne.mpr hnn
      simp only [if_neg hne, e]
      refine Ev.congr (fun k => ?_) hj
      split <;> rfl
  · rw [if_neg c5] at he
    have hn1 := low_n h (by omega)
    subst hn1
    refine Ev.step (fun k => ?_) he
    simp only [gjson_AppendJSONString.j1, Bool.false_eq_true, if_false, if_pos h0, if_pos hi, if_neg c3, if_neg c4, if_neg c5, if_pos p3, w1]
/-- What is put out from i on. -/
inductive Bd (s : ByteArray) : Int → List Int → Prop
  | done : Bd s s.size []
  | next {i r n : Int} {l : List Int} : 0 ≤ i → i < s.size → chr s i = some (r, n) → Bd s (i + n) l → Bd s i (out s i r n ++ l)
theorem utf_bd {s : ByteArray} {i : Int} (h : Utf s i) (h0 : 0 ≤ i) (h1 : i ≤ s.size) : ∃ l, Bd s i l ∧ (l.length : Int) ≤ 6 * (s.size - i) := by
  induction h with
  | done h =>
    obtain rfl : (_ : Int) = s.size := Int.le_antisymm h1 h
    exact ⟨[], .done, by simp⟩
  | @next i r n hi hc _ ih =>
    have hl := chr_len hi hc
    obtain ⟨l, hb, hz⟩ := ih (by omega) (by omega)
    have ho := out_length h0 hi hc
    exact ⟨_, .next h0 hi hc hb, by rw [List.length_append]; omega⟩
theorem loop_ev {s : ByteArray} (hn : s.size ≤ 140737488351232) {i : Int} {l : List Int} (h : Bd s i l) : ∀ x0 : List Int, x0.length + l.length + 7 < 140737488355328 → Ev (fun k => gjson_AppendJSONString.l0 k x0 s i) (x0 ++ l ++ [34]) := by
  induction h with
  | done =>
    intro x0 hx
    refine ev_one fun k => ?_
    have c1 : ¬ ((s.size : Int) < s.size) := by omega
    have c2 : x0.length < 140737488355328 := by omega
    simp only [gjson_AppendJSONString.l0, if_neg c1, if_pos c2, List.append_nil]
  | @next i r n l h0 hi hc _ ih =>
    intro x0 hx
    rw [List.length_append] at hx
    have := ih (x0 ++ out s i r n) (by rw [List.length_append]; omega)
    rw [List.append_assoc x0] at this
    exact step_l0 hn h0 hi hc (by omega) this
theorem quote_ev {s : ByteArray} (hn : s.size ≤ 8192) {l : List Int} (h : Bd s 0 l) (hl : l.length ≤ 49152) : Ev (fun k => impl_GjQuote.f k s) (strOfNums (34 :: l ++ [34])) := by
  have w1 : wrap64 ((s.size : Int) + 2) = (s.size : Int) + 2 := wr (by omega) (by omega)
  have hz' : (((List.replicate ((s.size : Int) + 2).toNat (0 : Int)).length : Nat) : Int) = (s.size : Int) + 2 := by rw [List.length_replicate]; omega
  have w2 : wrap64 ((s.size : Int) + 2 - s.size) = 2 := by rw [wr (by omega) (by omega)]; omega
  have w3 : wrap64 (2 - 2) = 0 := by unfold wrap64; omega
  have c1 : 0 ≤ (s.size : Int) + 2 := by omega
  have c2 : ([] : List Int).length + ((s.size : Int) + 2).toNat < 140737488355328 := by simp; omega
  have c3 : (0 : Int) ≤ 0 := by omega
  have c5 : ([] : List Int).length < 140737488355328 := by simp
  have e := loop_ev (by omega) h [34] (by simp; omega)
  have f : Ev (fun k => gjson_AppendJSONString.f k [] s) ([34] ++ l ++ [34]) := by
    refine Ev.congr (fun k => ?_) e
    simp only [gjson_AppendJSONString.f, w1, if_pos c1, if_pos c2, Option.bind_some, hz', w2, w3, if_pos c3, if_pos c5, Int.toNat_zero, List.take_zero, List.nil_append]
  exact Ev.bind (f := fun _ t => some (strOfNums t)) f (ev_const fun _ => rfl)
theorem bt_left {a b : ByteArray} {i : Int} (h0 : 0 ≤ i) (hi : i < a.size) : bt (a ++ b) i = bt a i := by
  rw [bt_get, bt_get, bytesOf_append]
  have : i.toNat < (bytesOf a).length := by rw [bytesOf_length]; omega
  rw [List.getD_eq_getElem?_getD, List.getElem?_append_left this, List.getD_eq_getElem?_getD]
theorem bt_right {a b : ByteArray} {i : Int} (h0 : 0 ≤ i) : bt (a ++ b) (a.size + i) = bt b i := by
  rw [bt_get, bt_get, bytesOf_append]
  have hl : (bytesOf a).length = a.size := bytesOf_length a
  rw [List.getD_eq_getElem?_getD, List.getElem?_append_right (by omega), List.getD_eq_getElem?_getD]
  congr 2
  omega
theorem out_at {s t : ByteArray} {i j r n : Int} (h0 : 0 ≤ i) (k0 : 0 ≤ j) (h1 : i + n ≤ s.size) (k1 : j + n ≤ t.size) (hn : 1 ≤ n) (hb : ∀ d : Int, 0 ≤ d → d < n → bt t (j + d) = bt s (i + d)) : out t j r n = out s i r n := by
  have b0 := hb 0 (by omega) (by omega)
  simp only [Int.add_zero] at b0
  have e : bytesOf (t.extract j.toNat (j + n).toNat) = bytesOf (s.extract i.toNat (i + n).toNat) := by
    have z1 := size_ext (s := s) (i := i) (j := i + n) h0 (by omega) h1
    have z2 := size_ext (s := t) (i := j) (j := j + n) k0 (by omega) k1
    apply List.ext_getElem?
    intro d
    by_cases hd : (d : Int) < n
    · have e1 := bt_ext (s := t) (i := j) (j := j + n) (d := d) k0 (by omega) k1 (by omega)
      have e2 := bt_ext (s := s) (i := i) (j := i + n) (d := d) h0 (by omega) h1 (by omega)
      rw [hb d (by omega) hd, ← e2, bt_nat, bt_nat] at e1
      have l1 : d < (bytesOf (t.extract j.toNat (j + n).toNat)).length := by rw [bytesOf_length]; omega
      have l2 : d < (bytesOf (s.extract i.toNat (i + n).toNat)).length := by rw [bytesOf_length]; omega
      rw [List.getD_eq_getElem?_getD, List.getD_eq_getElem?_getD, List.getElem?_eq_getElem l1, List.getElem?_eq_getElem l2] at e1
      rw [List.getElem?_eq_getElem l1, List.getElem?_eq_getElem l2]
      exact congrArg some e1
    · rw [List.getElem?_eq_none (by rw [bytesOf_length]; omega), List.getElem?_eq_none (by rw [bytesOf_length]; omega)]
  unfold out
  rw [b0, e]
theorem bd_right {a b : ByteArray} {j : Int} {l : List Int} (h : Bd b j l) : Bd (a ++ b) (a.size + j) l := by
  have hz : (((a ++ b).size : Nat) : Int) = a.size + b.size := by rw [ByteArray.size_append]; omega
  induction h with
  | done => rw [← hz]; exact .done
  | @next j r n l h0 hj hc _ ih =>
    have hl := chr_len hj hc
    have hb : ∀ d : Int, 0 ≤ d → d < n → bt (a ++ b) (a.size + j + d) = bt b (j + d) := fun d d0 d1 => by
      rw [Int.add_assoc]; exact bt_right (by omega)
    rw [← out_at (t := a ++ b) (j := a.size + j) h0 (by omega) hl.2.2 (by omega) hl.1 hb]
    rw [← Int.add_assoc] at ih
    exact .next (by omega) (by omega) (chr_local hj hc hb (by omega)) ih
theorem bd_join {a b : ByteArray} {i : Int} {la lb : List Int} (h : Bd a i la) (k : Bd b 0 lb) : Bd (a ++ b) i (la ++ lb) := by
  have hz : (((a ++ b).size : Nat) : Int) = a.size + b.size := by rw [ByteArray.size_append]; omega
  induction h with
  | done =>
    have := bd_right (a := a) k
    rw [Int.add_zero] at this
    exact this
  | @next j r n l h0 hj hc _ ih =>
    have hl := chr_len hj hc
    have hb : ∀ d : Int, 0 ≤ d → d < n → bt (a ++ b) (j + d) = bt a (j + d) := fun d d0 d1 => bt_left (by omega) (by omega)
    rw [← out_at (t := a ++ b) (j := j) h0 h0 hl.2.2 (by omega) hl.1 hb, List.append_assoc]
    exact .next (by omega) (by omega) (chr_local hj hc hb (by omega)) ih
theorem son_data (l : List Int) : (strOfNums l).data.toList = l.map fun x => UInt8.ofNat x.toNat := strOfNums_data l
theorem son_size (l : List Int) : (strOfNums l).size = l.length := by
  have := congrArg List.length (son_data l)
  rw [List.length_map] at this
  simpa using this
theorem FnGjQuoteJoin : laws_FnGjQuoteJoin.Pure := by
  intro a b ha hb
  have base : ∀ z, Ev (fun k => laws_FnGjQuoteJoin.j1 k a b z) true → Ev (fun k => laws_FnGjQuoteJoin.j1 k a b z) true := fun _ h => h
  have t1 : Ev (fun k => laws_FnGjQuoteJoin.j1 k a b true) true := ev_one fun k => by simp only [laws_FnGjQuoteJoin.j1, if_true]
  have t0 : Ev (fun k => laws_FnGjQuoteJoin.j0 k a b true) true := ev_one fun k => by simp only [laws_FnGjQuoteJoin.j0, if_true]
  suffices h : Ev (fun k => laws_FnGjQuoteJoin.j0 k a b false) true by
    refine Ev.rounds (g := fun k => laws_FnGjQuoteJoin.f k a b) ?_
    by_cases c1 : (a.size : Int) > 2147483647
    · exact Ev.congr (fun k => by simp only [laws_FnGjQuoteJoin.f, if_pos c1]) t0
    · by_cases c2 : (b.size : Int) > 2147483647
      · exact Ev.congr (fun k => by simp only [laws_FnGjQuoteJoin.f, if_neg c1, decide_eq_true c2]) t0
      · exact Ev.congr (fun k => by simp only [laws_FnGjQuoteJoin.f, if_neg c1, decide_eq_false c2]) h
  have ws : wrap64 ((a.size : Int) + b.size) = (a.size : Int) + b.size := wr (by omega) (by omega)
  by_cases c1 : (a.size : Int) + b.size > 4096
  · exact Ev.step (fun k => by simp only [laws_FnGjQuoteJoin.j0, Bool.false_eq_true, if_false, ws, if_pos c1]) t1
  obtain ⟨ua, ea, ia⟩ := utf_ev (s := a) ha
  obtain ⟨ub, eb, ib⟩ := utf_ev (s := b) hb
  refine Ev.step (f := fun k => (spec_UTF8.f k a).bind fun t => if t = true then (spec_UTF8.f k b).bind fun t2 => laws_FnGjQuoteJoin.j1 k a b (!t2) else laws_FnGjQuoteJoin.j1 k a b true) (fun k => by simp only [laws_FnGjQuoteJoin.j0, Bool.false_eq_true, if_false, ws, if_neg c1]) ?_
  refine Ev.bind (f := fun k t => if t = true then (spec_UTF8.f k b).bind fun t2 => laws_FnGjQuoteJoin.j1 k a b (!t2) else laws_FnGjQuoteJoin.j1 k a b true) ea ?_
  cases ua with
  | false => simpa only [Bool.false_eq_true, if_false] using t1
  | true =>
  simp only [if_true]
  refine Ev.bind (f := fun k t2 => laws_FnGjQuoteJoin.j1 k a b (!t2)) eb ?_
  cases ub with
  | false => exact t1
  | true =>
  show Ev (fun k => laws_FnGjQuoteJoin.j1 k a b false) true
  obtain ⟨la, ba, za⟩ := utf_bd (ia.1 rfl) (by omega) (by omega)
  obtain ⟨lb, bb, zb⟩ := utf_bd (ib.1 rfl) (by omega) (by omega)
  have qa := quote_ev (by omega) ba (by omega)
  have qb := quote_ev (by omega) bb (by omega)
  have hz : (a ++ b).size = a.size + b.size := ByteArray.size_append
  have qab := quote_ev (s := a ++ b) (by omega) (bd_join ba bb) (by rw [List.length_append]; omega)
  have sa := son_size (34 :: la ++ [34])
  have sb := son_size (34 :: lb ++ [34])
  have la2 : (34 :: la ++ [34]).length = la.length + 2 := by simp
  have lb2 : (34 :: lb ++ [34]).length = lb.length + 2 := by simp
  obtain ⟨A, hA⟩ : ∃ A, A = strOfNums (34 :: la ++ [34]) := ⟨_, rfl⟩
  obtain ⟨B, hB⟩ : ∃ B, B = strOfNums (34 :: lb ++ [34]) := ⟨_, rfl⟩
  rw [← hA] at qa sa
  rw [← hB] at qb sb
  have w5 : wrap64 ((A.size : Int) - 1) = (A.size : Int) - 1 := wr (by omega) (by omega)
  have c2 : (A.size : Int) > 1 := by omega
  have c3 : (B.size : Int) > 1 := by omega
  have c4 : a.size + b.size ≤ 9223372036854775807 := by omega
  have c5 : 0 ≤ (A.size : Int) - 1 := by omega
  have c6 : (A.size : Int) - 1 ≤ A.size := by omega
  have c7 : 1 ≤ (B.size : Int) := by omega
  have z1 : (A.extract 0 ((A.size : Int) - 1).toNat).size = ((A.size : Int) - 1).toNat := by rw [ByteArray.size_extract]; omega
  have z2 : (B.extract 1 B.size).size = B.size - 1 := by rw [ByteArray.size_extract]; omega
  have c8 : (A.extract 0 ((A.size : Int) - 1).toNat).size + (B.extract 1 B.size).size ≤ 9223372036854775807 := by rw [z1, z2]; omega
  have eq : strOfNums (34 :: (la ++ lb) ++ [34]) = A.extract 0 ((A.size : Int) - 1).toNat ++ B.extract 1 B.size := by
    apply ByteArray.ext
    apply Array.ext'
    rw [son_data]
    have hda : A.data.toList = (34 :: la ++ [34]).map fun x : Int => UInt8.ofNat x.toNat := by rw [hA, son_data]
    have hdb : B.data.toList = (34 :: lb ++ [34]).map fun x : Int => UInt8.ofNat x.toNat := by rw [hB, son_data]
    have e1 : ((A.size : Int) - 1).toNat = la.length + 1 := by omega
    have e2 : B.size = lb.length + 2 := by omega
    simp only [ByteArray.data_append, ByteArray.data_extract, Array.toList_append, Array.toList_extract, hda, hdb, e1, e2, List.extract]
    simp [List.take_append, List.take_of_length_le]
  refine Ev.step (f := fun k => (impl_GjQuote.f k a).bind fun t217 => (impl_GjQuote.f k b).bind fun t218 => (if (t217.size : Int) > 1 then (if (t218.size : Int) > 1 then (if a.size + b.size ≤ 9223372036854775807 then ((impl_GjQuote.f k (a ++ b)).bind fun t219 => (if 0 ≤ (wrap64 ((t217.size : Int) - 1)) then (if (wrap64 ((t217.size : Int) - 1)) ≤ (t217.size : Int) then (if 1 ≤ (t218.size : Int) then (if (t217.extract 0 ((wrap64 ((t217.size : Int) - 1)) : Int).toNat).size + (t218.extract 1 t218.size).size ≤ 9223372036854775807 then (some (t219.toList == ((t217.extract 0 ((wrap64 ((t217.size : Int) - 1)) : Int).toNat) ++ (t218.extract 1 t218.size)).toList)) else (none)) else (none)) else (none)) else (none))) else (none)) else (some false)) else (some false))) (fun k => by simp only [laws_FnGjQuoteJoin.j1, Bool.false_eq_true, if_false]) ?_
  refine Ev.bind (f := fun k t217 => (impl_GjQuote.f k b).bind fun t218 => (if (t217.size : Int) > 1 then (if (t218.size : Int) > 1 then (if a.size + b.size ≤ 9223372036854775807 then ((impl_GjQuote.f k (a ++ b)).bind fun t219 => (if 0 ≤ (wrap64 ((t217.size : Int) - 1)) then (if (wrap64 ((t217.size : Int) - 1)) ≤ (t217.size : Int) then (if 1 ≤ (t218.size : Int) then (if (t217.extract 0 ((wrap64 ((t217.size : Int) - 1)) : Int).toNat).size + (t218.extract 1 t218.size).size ≤ 9223372036854775807 then (some (t219.toList == ((t217.extract 0 ((wrap64 ((t217.size : Int) - 1)) : Int).toNat) ++ (t218.extract 1 t218.size)).toList)) else (none)) else (none)) else (none)) else (none))) else (none)) else (some false)) else (some false))) qa ?_
  refine Ev.bind (f := fun k t218 => (if (A.size : Int) > 1 then (if (t218.size : Int) > 1 then (if a.size + b.size ≤ 9223372036854775807 then ((impl_GjQuote.f k (a ++ b)).bind fun t219 => (if 0 ≤ (wrap64 ((A.size : Int) - 1)) then (if (wrap64 ((A.size : Int) - 1)) ≤ (A.size : Int) then (if 1 ≤ (t218.size : Int) then (if (A.extract 0 ((wrap64 ((A.size : Int) - 1)) : Int).toNat).size + (t218.extract 1 t218.size).size ≤ 9223372036854775807 then (some (t219.toList == ((A.extract 0 ((wrap64 ((A.size : Int) - 1)) : Int).toNat) ++ (t218.extract 1 t218.size)).toList)) else (none)) else (none)) else (none)) else (none))) else (none)) else (some false)) else (some false))) qb ?_
  simp only [if_pos c2, if_pos c3, if_pos c4, w5, if_pos c5, if_pos c6, if_pos c7, if_pos c8]
  refine Ev.bind (f := fun _ t219 => some (t219.toList == (A.extract 0 ((A.size : Int) - 1).toNat ++ B.extract 1 B.size).toList)) qab (ev_const fun _ => ?_)
  rw [eq, beq_self_eq_true]
end Go.Proofs.YtdndddembndnhaaDoor.Pure
