/- The last component of a path of keys is the last key as it is written, under the law's own guards alone. -/
import Derived.Test.YtdndddembndnhaaStmFnGjLastName
import Derived.Test.YtdndddembndnhaaJByt
import Derived.Test.YtdndddembndnhaaJStr
namespace Go.Proofs.Ytdndddembndnhaa.Pure
open Go.RowKit Go.Proofs.Ytdndddembndnhaa.PA Go.Proofs.Ytdndddembndnhaa.J Go.Proofs.YtdndddembndnhaaW.PrintWords Go.Proofs.YtdndddembndnhaaW.PrintLast
set_option linter.unusedSimpArgs false
set_option linter.unusedSectionVars false

def pb (c : Int) : Bool := (spec_pathByte.f c).getD false
theorem letter_some (c : Int) : ∃ b, spec_letter.f c = some b := by
  unfold spec_letter.f
  repeat' split
  all_goals exact ⟨_, rfl⟩
theorem pathByte_eq (c : Int) : spec_pathByte.f c = some (pb c) := by
  have : ∃ b, spec_pathByte.f c = some b := by
    unfold spec_pathByte.f
    obtain ⟨b, hb⟩ := letter_some c
    rw [hb, Option.bind_some]
    repeat' split
    all_goals exact ⟨_, rfl⟩
  obtain ⟨b, hb⟩ := this
  simp only [pb, hb, Option.getD_some]
def esc1 (c : Int) : List Int := if pb c then [c] else [92, c]
theorem esc1_len (c : Int) : 1 ≤ (esc1 c).length ∧ (esc1 c).length ≤ 2 := by unfold esc1; split <;> simp
def pth (l : List Int) : List Int := l.flatMap esc1
theorem pth_len (l : List Int) : l.length ≤ (pth l).length ∧ (pth l).length ≤ 2 * l.length := by
  induction l with
  | nil => simp [pth]
  | cons c l ih => have := esc1_len c; simp only [pth, List.flatMap_cons, List.length_append, List.length_cons] at *; omega
theorem pth_isB {l : List Int} (h : IsB l) : IsB (pth l) := by
  intro x hx
  simp only [pth, List.mem_flatMap] at hx
  obtain ⟨c, hc, hx⟩ := hx
  have := h c hc
  unfold esc1 at hx
  split at hx <;> simp at hx <;> omega
theorem pth_append (a b : List Int) : pth (a ++ b) = pth a ++ pth b := by simp [pth]
theorem pth_last (l : List Int) (c : Int) : ∃ q, pth (l ++ [c]) = q ++ [c] := by
  rw [pth_append]
  simp only [pth, List.flatMap_cons, List.flatMap_nil, List.append_nil]
  unfold esc1
  split
  · exact ⟨_, rfl⟩
  · exact ⟨l.flatMap esc1 ++ [92], by rw [List.append_assoc]; rfl⟩
/-- A dot or a pipe of a component stands behind a backslash. -/
theorem pth_esc : ∀ (l : List Int) (t : Nat) (c : Int), (pth l)[t]? = some c → c = 124 ∨ c = 46 → ∃ u, t = u + 1 ∧ (pth l)[u]? = some 92
  | [], t, c, h, _ => by simp [pth] at h
  | x :: l, t, c, h, hc => by
    have hp : pth (x :: l) = esc1 x ++ pth l := rfl
    rw [hp] at h ⊢
    by_cases ht : t < (esc1 x).length
    · rw [List.getElem?_append_left ht] at h
      unfold esc1 at h ht ⊢
      have h46 : pb 46 = false := by decide
      have h124 : pb 124 = false := by decide
      cases hx : pb x with
      | true =>
        rw [hx] at h ht
        simp only [if_true, List.length_cons, List.length_nil] at h ht
        obtain rfl : t = 0 := by omega
        simp only [List.getElem?_cons_zero, Option.some.injEq] at h
        subst h
        rcases hc with rfl | rfl <;> simp_all
      | false =>
        rw [hx] at h ht
        simp only [Bool.false_eq_true, if_false, List.length_cons, List.length_nil] at h ht
        match t, h with
        | 0, h => simp at h; omega
        | 1, h => exact ⟨0, rfl, by simp⟩
        | t + 2, _ => omega
    · rw [List.getElem?_append_right (by omega)] at h
      obtain ⟨u, hu, h92⟩ := pth_esc l _ c h hc
      refine ⟨u + (esc1 x).length, by omega, ?_⟩
      rw [List.getElem?_append_right (by omega), Nat.add_sub_cancel]
      exact h92

theorem l1_goes (s : ByteArray) (hs : s.size ≤ 2147483647) (n : Int) : ∀ (d i : Nat) (acc : List Int), i + d = s.size → acc.length ≤ 2 * i →
    Ev (fun k => spec_PathOf.l1 k acc s i [s] 1 0) (strOfNums (acc ++ pth ((bytesOf s).drop i)))
  | 0, i, acc, hi, ha => by
    have e : (bytesOf s).drop i = [] := List.drop_eq_nil_of_le (by rw [bytesOf_length]; omega)
    rw [e]
    refine Ev.step (f := fun k => spec_PathOf.l0 k acc [s] 1 1) (fun k => ?_) (ev_one fun k => ?_)
    · simp (disch := omega) only [spec_PathOf.l1, if_neg, show wrap64 (0 + 1) = 1 from wr (by omega) (by omega)]
    · simp [spec_PathOf.l0, pth]
  | d + 1, i, acc, hi, ha => by
    have hw : wrap64 ((i : Int) + 1) = ((i + 1 : Nat) : Int) := by rw [wr (by omega) (by omega)]; omega
    have hlt : i < (bytesOf s).length := by rw [bytesOf_length]; omega
    have hd : (bytesOf s).drop i = bt s i :: (bytesOf s).drop (i + 1) := by
      rw [List.drop_eq_getElem_cons hlt, bt_nat]
      simp [List.getD_eq_getElem?_getD, List.getElem?_eq_getElem hlt]
    have hp : acc ++ pth ((bytesOf s).drop i) = (acc ++ esc1 (bt s i)) ++ pth ((bytesOf s).drop (i + 1)) := by
      rw [hd]; simp [pth]
    have hl := esc1_len (bt s i)
    rw [hp]
    refine Ev.step (fun k => ?_) (l1_goes s hs n d (i + 1) (acc ++ esc1 (bt s i)) (by omega) (by rw [List.length_append]; omega))
    cases hb : pb (bt s i) with
    | true => simp (disch := omega) only [spec_PathOf.l1, if_pos, pathByte_eq, Option.bind_some, hb, if_true, hw, esc1]
    | false =>
      have : (acc ++ [92]).length < 140737488355328 := by rw [List.length_append]; simp; omega
      simp (disch := omega) only [spec_PathOf.l1, if_pos, pathByte_eq, Option.bind_some, hb, Bool.false_eq_true, if_false, hw, esc1, List.append_assoc]
      rfl
theorem pathOf_one (s : ByteArray) (hs : s.size ≤ 2147483647) : Ev (fun k => spec_PathOf.f k [s]) (strOfNums (pth (bytesOf s))) := by
  have h := l1_goes s hs 0 s.size 0 [] (by omega) (by simp)
  refine Ev.step (f := fun k => spec_PathOf.j1 k [] s [s] 1 0) (fun k => ?_) (Ev.step (fun k => ?_) h)
  · simp [spec_PathOf.f, spec_PathOf.l0, rdOf]
  · simp only [spec_PathOf.j1]; rfl

/-- What stands ahead of the last component: nothing, or something that ends with a separator that no backslash is ahead of. -/
def Head (p : List Int) : Prop := p = [] ∨ ∃ q c e, p = q ++ [c, e] ∧ c ≠ 92 ∧ (e = 124 ∨ e = 46)
theorem name_goes {x : ByteArray} {p r : List Int} (hx : bytesOf x = p ++ pth r) (hp : Head p) (hn : x.size ≤ 9223372036854775000) :
    ∀ t : Nat, t ≤ (pth r).length → Ev (fun k => gjson_nameOfLast.l0 k x ((p.length : Int) + t - 1)) (x.extract p.length x.size) := by
  have hz : x.size = p.length + (pth r).length := by rw [size_of hx, List.length_append]
  have hget : ∀ (j : Nat) (c : Int), (p ++ pth r)[j]? = some c → bt x j = c := fun j c h => by
    rw [bt_nat, hx, List.getD_eq_getElem?_getD, h]; rfl
  intro t
  induction t with
  | zero =>
    intro _
    rcases hp with rfl | ⟨q, c, e, rfl, hc, he⟩
    · refine ev_one fun k => ?_
      simp (disch := omega) only [gjson_nameOfLast.l0, if_neg, List.length_nil]
      congr 1
      apply bytesOf_inj
      rw [bytesOf_extract, List.take_of_length_le (by rw [bytesOf_length]; exact Nat.le_refl _)]
      rfl
    · have hb1 : bt x ((q.length + 1 : Nat) : Int) = e := hget _ _ (by simp)
      have hb0 : bt x ((q.length : Nat) : Int) = c := hget _ _ (by simp)
      have hl : (((q ++ [c, e]).length : Nat) : Int) + ((0 : Nat) : Int) - 1 = ((q.length + 1 : Nat) : Int) := by simp; omega
      have hl2 : (q ++ [c, e]).length = q.length + 2 := by simp
      rw [hl, hl2]
      rw [hl2] at hz
      have hw : wrap64 (((q.length + 1 : Nat) : Int) - 1) = ((q.length : Nat) : Int) := by rw [wr (by omega) (by omega)]; omega
      have hw2 : wrap64 (((q.length + 1 : Nat) : Int) + 1) = ((q.length + 2 : Nat) : Int) := by rw [wr (by omega) (by omega)]; omega
      refine Ev.step (f := fun k => gjson_nameOfLast.j1 k x ((q.length + 1 : Nat) : Int) true) (fun k => ?_) (ev_one fun k => ?_)
      · simp (disch := omega) only [gjson_nameOfLast.l0, if_pos]
        rcases he with rfl | rfl
        · rw [if_pos hb1]
        · rw [if_neg (by rw [hb1]; decide), hb1]; rfl
      · simp only [gjson_nameOfLast.j1, hw, hw2, hb0, if_true]
        simp (disch := omega) only [if_pos, if_neg, hc]
        rfl
  | succ t ih =>
    intro ht
    have ih := ih (by omega)
    have hj : ((p.length : Int) + ((t + 1 : Nat) : Int) - 1) = ((p.length + t : Nat) : Int) := by omega
    have hw : wrap64 (((p.length + t : Nat) : Int) - 1) = (p.length : Int) + t - 1 := by rw [wr (by omega) (by omega)]; omega
    rw [hj]
    obtain ⟨c, hc⟩ : ∃ c, (pth r)[t]? = some c := ⟨_, List.getElem?_eq_getElem (by omega)⟩
    have hb : bt x ((p.length + t : Nat) : Int) = c := hget _ _ (by rw [List.getElem?_append_right (by omega), Nat.add_sub_cancel_left]; exact hc)
    by_cases hsep : c = 124 ∨ c = 46
    · obtain ⟨u, rfl, h92⟩ := pth_esc r t c hc hsep
      have hb92 : bt x ((p.length + u : Nat) : Int) = 92 := hget _ _ (by rw [List.getElem?_append_right (by omega), Nat.add_sub_cancel_left]; exact h92)
      have e : (p.length : Int) + ((u + 1 : Nat) : Int) - 1 = ((p.length + u : Nat) : Int) := by omega
      rw [e] at hw ih
      refine Ev.step (f := fun k => gjson_nameOfLast.j1 k x ((p.length + (u + 1) : Nat) : Int) true) (fun k => ?_) (Ev.step (fun k => ?_) ih)
      · simp (disch := omega) only [gjson_nameOfLast.l0, if_pos, hb]
        rcases hsep with rfl | rfl <;> rfl
      · simp only [gjson_nameOfLast.j1, hw, hb92, if_true]
        simp (disch := omega) only [if_pos]
    · have h1 : c ≠ 124 := fun h => hsep (.inl h)
      have h2 : c ≠ 46 := fun h => hsep (.inr h)
      refine Ev.step (f := fun k => gjson_nameOfLast.j1 k x ((p.length + t : Nat) : Int) false) (fun k => ?_) (Ev.step (fun k => ?_) ih)
      · simp (disch := omega) only [gjson_nameOfLast.l0, if_pos, hb, if_neg h1, beq_eq_false_iff_ne.2 h2]
      · simp only [gjson_nameOfLast.j1, hw, Bool.false_eq_true, if_false]
theorem name_ev {x : ByteArray} {p r : List Int} (hx : bytesOf x = p ++ pth r) (hp : Head p) (hn : x.size ≤ 9223372036854775000) (hr : IsB r) : Ev (fun k => impl_GjLastName.f k x) (strOfNums (pth r)) := by
  have h := name_goes hx hp hn _ (Nat.le_refl _)
  have hz : x.size = p.length + (pth r).length := by rw [size_of hx, List.length_append]
  have he : x.extract p.length x.size = strOfNums (pth r) := by
    apply bytesOf_inj
    rw [bytesOf_extract, bytesOf_str (pth_isB hr), hx, List.take_of_length_le (by rw [List.length_append]; omega), List.drop_left]
  have hw : wrap64 ((x.size : Int) - 1) = (p.length : Int) + ((pth r).length : Int) - 1 := by rw [wr (by omega) (by omega)]; omega
  rw [he] at h
  unfold impl_GjLastName.f gjson_DoorName.f gjson_nameOfLast.f
  rw [hw]
  exact Ev.bind (f := fun _ a => some a) (Ev.bind (f := fun _ a => some a) h (Ev.now _)) (Ev.now _)

theorem fits_ev (l : List ByteArray) (hl : l.length ≤ 2147483647) (h : ∀ s ∈ l, s.size ≤ 2147483647) : ∀ (d i : Nat), i + d = l.length → Ev (fun k => laws_zzFits1.l0 k l (l.length : Int) i) true
  | 0, i, hi => ev_one fun k => by simp (disch := omega) only [laws_zzFits1.l0, if_neg]
  | d + 1, i, hi => by
    have hw : wrap64 ((i : Int) + 1) = ((i + 1 : Nat) : Int) := by rw [wr (by omega) (by omega)]; omega
    refine Ev.step (fun k => ?_) (fits_ev l hl h d (i + 1) (by omega))
    have : (rdOf ByteArray.empty l i).size ≤ 2147483647 := by
      have hlt : i < l.length := by omega
      simp only [rdOf, Int.toNat_natCast, List.getD_eq_getElem?_getD, List.getElem?_eq_getElem hlt, Option.getD_some]
      exact h _ (List.getElem_mem hlt)
    simp (disch := omega) only [laws_zzFits1.l0, if_pos, if_neg, hw]
theorem fits_no (l : List ByteArray) (hl : l.length ≤ 2147483647) : ∀ (d i : Nat), i + d = l.length → (∃ s ∈ l.drop i, ¬ s.size ≤ 2147483647) → Ev (fun k => laws_zzFits1.l0 k l (l.length : Int) i) false
  | 0, i, hi, h => by
    obtain ⟨s, hs, _⟩ := h
    rw [List.drop_eq_nil_of_le (by omega)] at hs
    cases hs
  | d + 1, i, hi, h => by
    have hw : wrap64 ((i : Int) + 1) = ((i + 1 : Nat) : Int) := by rw [wr (by omega) (by omega)]; omega
    have hlt : i < l.length := by omega
    have hr : rdOf ByteArray.empty l i = l[i] := by simp [rdOf, List.getD_eq_getElem?_getD, List.getElem?_eq_getElem hlt]
    by_cases hb : ((l[i]).size : Int) > 2147483647
    · exact ev_one fun k => by simp (disch := omega) only [laws_zzFits1.l0, if_pos, hr]
    · refine Ev.step (fun k => ?_) (fits_no l hl d (i + 1) (by omega) ?_)
      · simp (disch := omega) only [laws_zzFits1.l0, if_pos, if_neg, hr, hw]
      · obtain ⟨s, hs, hn⟩ := h
        rw [List.drop_eq_getElem_cons hlt] at hs
        rcases List.mem_cons.1 hs with rfl | hs
        · omega
        · exact ⟨s, hs, hn⟩
theorem rest_ev (l : List ByteArray) (hl : l.length ≤ 2147483647) : ∀ (d i : Nat), i + d = l.length → ∃ b, Ev (fun k => laws_gjRest.l0 k l l (l.length : Int) i) b ∧ (b = true → 0 < l.length ∧ ∀ s ∈ l.drop i, bytesOf s ≠ [])
  | 0, i, hi => ⟨decide ((l.length : Int) > 0), ev_one fun k => by simp (disch := omega) only [laws_gjRest.l0, if_neg], fun h => ⟨by have := of_decide_eq_true h; omega, fun s hs => by rw [List.drop_eq_nil_of_le (by omega)] at hs; cases hs⟩⟩
  | d + 1, i, hi => by
    have hw : wrap64 ((i : Int) + 1) = ((i + 1 : Nat) : Int) := by rw [wr (by omega) (by omega)]; omega
    have hlt : i < l.length := by omega
    have hr : rdOf ByteArray.empty l i = l[i] := by simp [rdOf, List.getD_eq_getElem?_getD, List.getElem?_eq_getElem hlt]
    obtain ⟨b, hb, hq⟩ := rest_ev l hl d (i + 1) (by omega)
    by_cases he : (l[i]).toList = ([] : List UInt8)
    · exact ⟨false, ev_one fun k => by simp (disch := omega) only [laws_gjRest.l0, if_pos, hr, he, if_true], fun h => by cases h⟩
    · refine ⟨b, Ev.step (fun k => ?_) hb, fun h => ⟨(hq h).1, fun s hs => ?_⟩⟩
      · simp (disch := omega) only [laws_gjRest.l0, if_pos, hr, if_neg he, hw]
      · rw [List.drop_eq_getElem_cons hlt] at hs
        rcases List.mem_cons.1 hs with rfl | hs
        · intro hn
          have : l[i] = strOfNums [] := by rw [← hn, str_bytesOf]
          apply he
          rw [this]
          simp [strOfNums]
        · exact (hq h).2 s hs
section
variable {l : List ByteArray} (hl : l.length ≤ 64) (hf : ∀ s ∈ l, s.size ≤ 2147483647) (hne : ∀ s ∈ l, bytesOf s ≠ []) (h0 : 0 < l.length) (u : Int) (hu : (Lit.int .u64 u).wf = true)
include hl hf hne h0 hu
/-- What is ahead of component i: the components told already, with separators between. -/
theorem loop_goes : ∀ (d i : Nat) (x : ByteArray), i + d = l.length → x.size ≤ 8589934592 * i →
    (i = 0 → bytesOf x = []) → (∀ j, i = j + 1 → ∃ p s, l[j]? = some s ∧ bytesOf x = p ++ pth (bytesOf s) ∧ Head p ∧ (i < l.length → ∃ q c, bytesOf s = q ++ [c] ∧ c ≠ 92)) →
    Ev (fun k => laws_FnGjLastName.l0 k l u x (l.length : Int) i) true
  | 0, i, x, hi, hx, hz, hs => by
    obtain ⟨j, rfl⟩ : ∃ j, i = j + 1 := ⟨i - 1, by omega⟩
    obtain ⟨p, s, hj, hb, hp, _⟩ := hs j rfl
    have hjl : j < l.length := by omega
    have hsm : s ∈ l := List.mem_of_getElem? hj
    have hw : wrap64 ((l.length : Int) - 1) = (j : Int) := by rw [wr (by omega) (by omega)]; omega
    have hd : l.drop j = [s] := by
      rw [List.drop_eq_getElem_cons hjl, List.drop_eq_nil_of_le (by omega)]
      rw [List.getElem?_eq_getElem hjl, Option.some.injEq] at hj
      rw [hj]
    have e1 := name_ev hb hp (by omega) (isB_bytesOf s)
    have e2 := pathOf_one s (hf s hsm)
    refine Ev.step (f := fun k => (impl_GjLastName.f k x).bind fun a => (spec_PathOf.f k [s]).bind fun b => some (a.toList == b.toList)) (fun k => ?_) (Ev.bind (f := fun k a => (spec_PathOf.f k [s]).bind fun b => some (a.toList == b.toList)) e1 (Ev.bind (f := fun _ b => some ((strOfNums (pth (bytesOf s))).toList == b.toList)) e2 (ev_const fun _ => by simp)))
    simp (disch := omega) only [laws_FnGjLastName.l0, if_pos, if_neg, hw, Int.toNat_natCast, hd]
  | d + 1, i, x, hi, hx, hz, hs => by
    have hil : i < l.length := by omega
    obtain ⟨s, hsi⟩ : ∃ s, l[i]? = some s := ⟨_, List.getElem?_eq_getElem hil⟩
    have hsm : s ∈ l := List.mem_of_getElem? hsi
    have hsf := hf s hsm
    have hsz := pth_len (bytesOf s)
    rw [bytesOf_length] at hsz
    have hr : rdOf ByteArray.empty l i = s := by simp [rdOf, List.getD_eq_getElem?_getD, hsi]
    have hw : wrap64 ((l.length : Int) - 1) = (l.length : Int) - 1 := wr (by omega) (by omega)
    have hw1 : wrap64 ((i : Int) + 1) = ((i + 1 : Nat) : Int) := by rw [wr (by omega) (by omega)]; omega
    have hcut : (l.take ((i + 1 : Nat) : Int).toNat).drop ((i : Int)).toNat = [s] := by
      rw [Int.toNat_natCast, Int.toNat_natCast, List.drop_take, show i + 1 - i = 1 from by omega, List.drop_eq_getElem_cons hil]
      rw [List.getElem?_eq_getElem hil, Option.some.injEq] at hsi
      rw [hsi]; rfl
    have e2 := pathOf_one s hsf
    -- behind the check of the last byte
    have go : ((i : Int) < (l.length : Int) - 1 → ∃ q c, bytesOf s = q ++ [c] ∧ c ≠ 92) → Ev (fun k => laws_FnGjLastName.j2 k l u x (i : Int) (l.length : Int) (i : Int) false) true := by
      intro hlast
      -- the next round
      have next : ∀ (y : ByteArray) (m : List Int), bytesOf y = bytesOf x ++ m ++ pth (bytesOf s) → (i = 0 → m = []) → (0 < i → m = [124] ∨ m = [46]) → Ev (fun k => laws_FnGjLastName.l0 k l u y (l.length : Int) ((i + 1 : Nat) : Int)) true := by
        intro y m hy hm0 hm1
        have hml : m.length ≤ 1 := by
          rcases Nat.eq_zero_or_pos i with h | h
          · rw [hm0 h]; simp
          · rcases hm1 h with rfl | rfl <;> simp
        refine loop_goes d (i + 1) y (by omega) ?_ (by omega) ?_
        · have hyl : y.size ≤ x.size + 1 + 2 * s.size := by
            rw [size_of hy, List.length_append, List.length_append, bytesOf_length]; omega
          omega
        · intro j hj
          obtain rfl : j = i := by omega
          refine ⟨bytesOf x ++ m, s, hsi, hy, ?_, fun h => hlast (by omega)⟩
          rcases Nat.eq_zero_or_pos j with h | h
          · rw [hz h, hm0 h]; exact .inl rfl
          · obtain ⟨p, s', hj', hb, hp, hq⟩ := hs (j - 1) (by omega)
            obtain ⟨q, c, hqc, hc⟩ := hq hil
            obtain ⟨q', hq'⟩ := pth_last q c
            rw [hb, hqc, hq']
            rcases hm1 h with rfl | rfl
            · exact .inr ⟨p ++ q', c, 124, by simp, hc, .inl rfl⟩
            · exact .inr ⟨p ++ q', c, 46, by simp, hc, .inr rfl⟩
      have hby : ∀ m : List Int, IsB m → bytesOf (x ++ strOfNums m ++ strOfNums (pth (bytesOf s))) = bytesOf x ++ m ++ pth (bytesOf s) := fun m hm => by
        rw [bytesOf_append, bytesOf_append, bytesOf_str hm, bytesOf_str (pth_isB (isB_bytesOf s))]
      have hpz : (strOfNums (pth (bytesOf s))).size ≤ 2 * s.size := by rw [strOfNums_size]; omega
      rcases Nat.eq_zero_or_pos i with h | h
      · have e : bytesOf (x ++ strOfNums (pth (bytesOf s))) = bytesOf x ++ [] ++ pth (bytesOf s) := by rw [bytesOf_append, bytesOf_str (pth_isB (isB_bytesOf s)), List.append_nil]
        refine Ev.step (f := fun k => laws_FnGjLastName.j3 k l u x (i : Int) (l.length : Int) (i : Int) false) (fun k => ?_) (Ev.step (f := fun k => (spec_PathOf.f k [s]).bind fun b => if x.size + b.size ≤ 9223372036854775807 then laws_FnGjLastName.l0 k l u (x ++ b) (l.length : Int) ((i + 1 : Nat) : Int) else none) (fun k => ?_) (Ev.bind (f := fun k b => if x.size + b.size ≤ 9223372036854775807 then laws_FnGjLastName.l0 k l u (x ++ b) (l.length : Int) ((i + 1 : Nat) : Int) else none) e2 ?_))
        · simp (disch := omega) only [laws_FnGjLastName.j2, if_neg, Bool.false_eq_true, if_false]
        · simp (disch := omega) only [laws_FnGjLastName.j3, if_neg, if_pos, Bool.false_eq_true, if_false, hw1, hcut]
        · simp only [if_pos (show x.size + (strOfNums (pth (bytesOf s))).size ≤ 9223372036854775807 by omega)]
          exact next _ [] e (fun _ => rfl) (fun hh => by omega)
      · have hu2 : 0 ≤ IntKind.u64.wrap (i : Int) := by
          simp only [IntKind.wrap_u64]; omega
        have fin : ∀ b : Bool, Ev (fun k => laws_FnGjLastName.j3 k l u x (i : Int) (l.length : Int) (i : Int) b) true := by
          intro b
          cases b with
          | true =>
            refine Ev.step (f := fun k => (spec_PathOf.f k [s]).bind fun b => if x.size + 1 + b.size ≤ 9223372036854775807 then laws_FnGjLastName.l0 k l u ((x ++ strOfNums [124]) ++ b) (l.length : Int) ((i + 1 : Nat) : Int) else none) (fun k => ?_) (Ev.bind (f := fun k b => if x.size + 1 + b.size ≤ 9223372036854775807 then laws_FnGjLastName.l0 k l u ((x ++ strOfNums [124]) ++ b) (l.length : Int) ((i + 1 : Nat) : Int) else none) e2 ?_)
            · simp (disch := omega) only [laws_FnGjLastName.j3, if_neg, if_pos, if_true, hw1, hcut]
              rfl
            · simp only [if_pos (show x.size + 1 + (strOfNums (pth (bytesOf s))).size ≤ 9223372036854775807 by omega)]
              exact next _ [124] (hby [124] (by simp [IsB])) (fun hh => by omega) (fun _ => .inl rfl)
          | false =>
            refine Ev.step (f := fun k => (spec_PathOf.f k [s]).bind fun b => if x.size + 1 + b.size ≤ 9223372036854775807 then laws_FnGjLastName.l0 k l u ((x ++ strOfNums [46]) ++ b) (l.length : Int) ((i + 1 : Nat) : Int) else none) (fun k => ?_) (Ev.bind (f := fun k b => if x.size + 1 + b.size ≤ 9223372036854775807 then laws_FnGjLastName.l0 k l u ((x ++ strOfNums [46]) ++ b) (l.length : Int) ((i + 1 : Nat) : Int) else none) e2 ?_)
            · simp (disch := omega) only [laws_FnGjLastName.j3, if_neg, if_pos, Bool.false_eq_true, if_false, hw1, hcut]
              rfl
            · simp only [if_pos (show x.size + 1 + (strOfNums (pth (bytesOf s))).size ≤ 9223372036854775807 by omega)]
              exact next _ [46] (hby [46] (by simp [IsB])) (fun hh => by omega) (fun _ => .inr rfl)
        refine Ev.step (fun k => ?_) (fin ((Go.bits .and .u64 (shr .u64 u (IntKind.u64.wrap (i : Int))) 1) == 1))
        simp (disch := omega) only [laws_FnGjLastName.j2, if_pos, Bool.false_eq_true, if_false]
    by_cases hlast : (i : Int) < (l.length : Int) - 1
    · have hs1 : 0 < s.size := by
        have := hne s hsm
        rcases Nat.eq_zero_or_pos s.size with h | h
        · rw [← bytesOf_length] at h; exact absurd (List.eq_nil_of_length_eq_zero h) this
        · exact h
      have hw3 : wrap64 ((s.size : Int) - 1) = ((s.size - 1 : Nat) : Int) := by rw [wr (by omega) (by omega)]; omega
      have st : ∀ k, laws_FnGjLastName.l0 (k + 1) l u x (l.length : Int) i = laws_FnGjLastName.j2 k l u x (i : Int) (l.length : Int) (i : Int) (bt s ((s.size - 1 : Nat) : Int) == 92) := fun k => by
        simp (disch := omega) only [laws_FnGjLastName.l0, if_pos, hw, hr, hw3]
      refine Ev.step st ?_
      by_cases h92 : bt s ((s.size - 1 : Nat) : Int) = 92
      · exact ev_one fun k => by simp only [h92, laws_FnGjLastName.j2, beq_self_eq_true, if_true]
      · rw [beq_eq_false_iff_ne.2 h92]
        refine go fun _ => ⟨(bytesOf s).dropLast, _, ?_, h92⟩
        have hl1 : bytesOf s ≠ [] := hne s hsm
        rw [bt_nat, List.getD_eq_getElem?_getD]
        have := List.dropLast_concat_getLast hl1
        conv => lhs; rw [← this]
        congr 2
        rw [List.getLast_eq_getElem]
        simp only [bytesOf_length]
        rw [List.getElem?_eq_getElem (by rw [bytesOf_length]; omega)]
        rfl
    · refine Ev.step (fun k => ?_) (go fun h => absurd h hlast)
      simp (disch := omega) only [laws_FnGjLastName.l0, if_pos, if_neg, hw]
end
theorem FnGjLastName : laws_FnGjLastName.Pure := by
  intro l u hl hs hu
  have j0t : Ev (fun k => laws_FnGjLastName.j0 k l u true) true := ev_one fun k => by simp [laws_FnGjLastName.j0]
  by_cases c0 : (l.length : Int) > 2147483647
  · refine ⟨1, ?_⟩
    unfold laws_FnGjLastName.f laws_zzFits1.f
    rw [if_pos c0]; rfl
  have hlen : l.length ≤ 2147483647 := by omega
  by_cases hf : ∀ s ∈ l, s.size ≤ 2147483647
  · have e1 := fits_ev l hlen hf l.length 0 (by omega)
    obtain ⟨b, e2, hb⟩ := rest_ev l hlen l.length 0 (by omega)
    have e1' : Ev (fun k => laws_zzFits1.f k l) true := by unfold laws_zzFits1.f; simp only [if_neg c0]; exact e1
    have e2' : Ev (fun k => laws_gjRest.f k l) b := by unfold laws_gjRest.f; exact e2
    refine Ev.rounds (Ev.bind (f := fun k t => (if t = true then ((laws_gjRest.f k l).bind fun t353 => (if t353 = true then (laws_FnGjLastName.j0 k l u (decide ((l.length : Int) > 64))) else (laws_FnGjLastName.j0 k l u true))) else (some true))) e1' ?_)
    simp only [if_true]
    refine Ev.bind (f := fun k t353 => (if t353 = true then (laws_FnGjLastName.j0 k l u (decide ((l.length : Int) > 64))) else (laws_FnGjLastName.j0 k l u true))) e2' ?_
    cases b with
    | false => simpa using j0t
    | true =>
      obtain ⟨h0, hne⟩ := hb rfl
      simp only [if_true]
      by_cases c1 : (l.length : Int) > 64
      · rw [decide_eq_true c1]; exact j0t
      · rw [decide_eq_false c1]
        refine Ev.step (fun k => ?_) (loop_goes (l := l) (by omega) hf (by simpa using hne) h0 u hu l.length 0 (⟨#[]⟩ : ByteArray) (by omega) (by simp [ByteArray.size]) (fun _ => rfl) (fun j hj => by omega))
        simp only [laws_FnGjLastName.j0, Bool.false_eq_true, if_false]
        rfl
  · have hno : ∃ s ∈ l.drop 0, ¬ s.size ≤ 2147483647 := by
      simpa using hf
    have e1 := fits_no l hlen l.length 0 (by omega) hno
    have e1' : Ev (fun k => laws_zzFits1.f k l) false := by unfold laws_zzFits1.f; simp only [if_neg c0]; exact e1
    exact Ev.rounds (Ev.bind (f := fun k t => (if t = true then ((laws_gjRest.f k l).bind fun t353 => (if t353 = true then (laws_FnGjLastName.j0 k l u (decide ((l.length : Int) > 64))) else (laws_FnGjLastName.j0 k l u true))) else (some true))) e1' (ev_const fun _ => rfl))
end Go.Proofs.Ytdndddembndnhaa.Pure
