/- A text's characters, each behind a backslash, and a star behind them match the texts that begin with it, and no others, under the law's own guards alone. -/
import Derived.Test.YtfpbbnllaogclaaDoorPAx17
import Derived.Test.YtfpbbnllaogclaaDoorPAx18
import Derived.Test.YtfpbbnllaogclaaDoorPAx19
import Derived.Test.YtfpbbnllaogclaaDoorPAx7
import Derived.Test.YtfpbbnllaogclaaDoorMTop
namespace Go.Proofs.YtfpbbnllaogclaaDoor.Pure
open Go.RowKit Go.Proofs.YtfpbbnllaogclaaDoor.PA Go.Proofs.YtfpbbnllaogclaaDoor.J Go.Proofs.YtfpbbnllaogclaaDoorW.PrintWords Go.Proofs.YtfpbbnllaogclaaDoorW.PrintLast
set_option linter.unusedSimpArgs false
set_option linter.unusedVariables false
/-- Each first byte of a character behind a backslash. -/
def gl : List Int → List Int
  | [] => []
  | b :: l => if b < 128 ∨ b > 191 then 92 :: b :: gl l else b :: gl l
theorem gl_cons (x : Int) (l : List Int) : gl (x :: l) = if x < 128 ∨ x > 191 then 92 :: x :: gl l else x :: gl l := rfl
theorem gl_append (a b : List Int) : gl (a ++ b) = gl a ++ gl b := by
  induction a with
  | nil => rfl
  | cons x a ih =>
    rw [List.cons_append, gl_cons, gl_cons, ih]
    split <;> rfl
theorem gl_cont : ∀ (t : List Int), (∀ x ∈ t, 128 ≤ x ∧ x ≤ 191) → gl t = t
  | [], _ => rfl
  | x :: t, h => by
    have := h x (by simp)
    unfold gl
    rw [if_neg (by omega), gl_cont t (fun y hy => h y (by simp [hy]))]
theorem gl_ch {c : List Int} {r : Int} (h : Ch c r) : gl c = 92 :: c := by
  rcases h.parts with ⟨rfl, h0, h1⟩ | ⟨a, t, rfl, h0, h1, _, h2, _⟩
  · unfold gl; rw [if_pos (by omega)]; rfl
  · unfold gl; rw [if_pos (by omega), gl_cont t h2]
theorem gl_length (l : List Int) : (gl l).length ≤ 2 * l.length := by
  induction l with
  | nil => exact Nat.le_refl _
  | cons x l ih => unfold gl; split <;> simp <;> omega
theorem gl_pt {l rs : List Int} (h : Tx l rs) : Pt (gl l) (rs.map .ch) := by
  induction h with
  | nil => exact .nil
  | cons hc _ ih => rw [gl_append, gl_ch hc]; exact .cons (.esc hc) ih
theorem gl_isB {l rs : List Int} (h : Tx l rs) : IsB (gl l) := by
  induction h with
  | nil => exact isB_nil
  | cons hc _ ih => rw [gl_append, gl_ch hc]; exact (isB_cons.2 ⟨by omega, hc.isB⟩).append ih
theorem gm_lits (rs cs : List Int) : GM (rs.map .ch ++ [.star]) cs ↔ ∃ t, cs = rs ++ t := by
  induction rs generalizing cs with
  | nil => exact ⟨fun _ => ⟨cs, rfl⟩, fun _ => gm_all cs⟩
  | cons r rs ih =>
    rw [List.map_cons, List.cons_append, gm_ch]
    constructor
    · rintro ⟨t, rfl, h⟩
      obtain ⟨t', rfl⟩ := (ih t).1 h
      exact ⟨t', rfl⟩
    · rintro ⟨t, rfl⟩
      exact ⟨rs ++ t, rfl, (ih _).2 ⟨t, rfl⟩⟩
theorem guard_l0 {s : ByteArray} (hn : s.size ≤ 8192) : ∀ (d i : Nat) (x3 : List Int), i + d = s.size → x3.length ≤ 2 * i → Ev (fun k => laws_mtGuard.l0 k s x3 i) (strOfNums (x3 ++ gl ((bytesOf s).drop i)))
  | 0, i, x3, hd, hx => by
    have c1 : ¬ (i : Int) < s.size := by omega
    rw [List.drop_eq_nil_of_le (by rw [bytesOf_length]; omega)]
    exact ev_one fun k => by simp only [laws_mtGuard.l0, if_neg c1, gl, List.append_nil]
  | d + 1, i, x3, hd, hx => by
    have c1 : (i : Int) < s.size := by omega
    have c2 : 0 ≤ (i : Int) := by omega
    have w : wrap64 ((i : Int) + 1) = ((i + 1 : Nat) : Int) := by rw [wr (by omega) (by omega)]; omega
    have p3 : x3.length < 140737488355328 := by omega
    have p4 : (x3 ++ [92]).length < 140737488355328 := by simp; omega
    rw [drop_bt c1]
    unfold gl
    by_cases k1 : bt s i < 128
    · have ih := guard_l0 hn d (i + 1) (x3 ++ [92] ++ [bt s i]) (by omega) (by simp; omega)
      rw [if_pos (.inl k1)]
      refine Ev.step (fun k => ?_) (by simpa only [List.append_assoc, List.cons_append, List.nil_append] using ih)
      simp only [laws_mtGuard.l0, if_pos c1, if_pos c2, if_pos k1, if_pos p3, Option.bind_some, if_pos p4, w, List.append_assoc, List.cons_append, List.nil_append]
    · by_cases k2 : bt s i > 191
      · have ih := guard_l0 hn d (i + 1) (x3 ++ [92] ++ [bt s i]) (by omega) (by simp; omega)
        rw [if_pos (.inr k2)]
        refine Ev.step (fun k => ?_) (by simpa only [List.append_assoc, List.cons_append, List.nil_append] using ih)
        simp only [laws_mtGuard.l0, if_pos c1, if_pos c2, if_neg k1, if_pos k2, if_pos p3, Option.bind_some, if_pos p4, w, List.append_assoc, List.cons_append, List.nil_append]
      · have ih := guard_l0 hn d (i + 1) (x3 ++ [bt s i]) (by omega) (by simp; omega)
        rw [if_neg (by omega)]
        refine Ev.step (fun k => ?_) (by simpa only [List.append_assoc, List.cons_append, List.nil_append] using ih)
        simp only [laws_mtGuard.l0, if_pos c1, if_pos c2, if_neg k1, if_neg k2, if_pos p3, w]
theorem FnMtAhead : laws_FnMtAhead.Pure := by
  intro a b ha hb
  have t1 : Ev (fun k => laws_FnMtAhead.j1 k a b true) true := ev_one fun k => by simp only [laws_FnMtAhead.j1, if_true]
  have t0 : Ev (fun k => laws_FnMtAhead.j0 k a b true) true := ev_one fun k => by simp only [laws_FnMtAhead.j0, if_true]
  suffices h : Ev (fun k => laws_FnMtAhead.j0 k a b false) true by
    refine Ev.rounds (g := fun k => laws_FnMtAhead.f k a b) ?_
    by_cases c1 : (a.size : Int) > 2147483647
    · exact Ev.congr (fun k => by simp only [laws_FnMtAhead.f, if_pos c1]) t0
    · by_cases c2 : (b.size : Int) > 2147483647
      · exact Ev.congr (fun k => by simp only [laws_FnMtAhead.f, if_neg c1, decide_eq_true c2]) t0
      · exact Ev.congr (fun k => by simp only [laws_FnMtAhead.f, if_neg c1, decide_eq_false c2]) h
  by_cases c1 : (a.size : Int) > 4096
  · exact Ev.step (fun k => by simp only [laws_FnMtAhead.j0, Bool.false_eq_true, if_false, if_pos c1]) t1
  by_cases c2 : (b.size : Int) > 4096
  · exact Ev.step (fun k => by simp only [laws_FnMtAhead.j0, Bool.false_eq_true, if_false, if_neg c1, if_pos c2]) t1
  obtain ⟨ua, ea, ia⟩ := utf_ev (s := a) ha
  obtain ⟨ub, eb, ib⟩ := utf_ev (s := b) hb
  refine Ev.step (f := fun k => (spec_UTF8.f k a).bind fun t => if t = true then (spec_UTF8.f k b).bind fun t2 => laws_FnMtAhead.j1 k a b (!t2) else laws_FnMtAhead.j1 k a b true) (fun k => by simp only [laws_FnMtAhead.j0, Bool.false_eq_true, if_false, if_neg c1, if_neg c2]) ?_
  refine Ev.bind (f := fun k t => if t = true then (spec_UTF8.f k b).bind fun t2 => laws_FnMtAhead.j1 k a b (!t2) else laws_FnMtAhead.j1 k a b true) ea ?_
  cases ua with
  | false => simpa only [Bool.false_eq_true, if_false] using t1
  | true =>
  simp only [if_true]
  refine Ev.bind (f := fun k t2 => laws_FnMtAhead.j1 k a b (!t2)) eb ?_
  cases ub with
  | false => exact t1
  | true =>
  show Ev (fun k => laws_FnMtAhead.j1 k a b false) true
  obtain ⟨cs, ta⟩ := utf_text (ia.1 rfl)
  obtain ⟨rs, tb⟩ := utf_text (ib.1 rfl)
  have hg : Ev (fun k => laws_mtGuard.f k b) (strOfNums (gl (bytesOf b))) := by
    have := guard_l0 (s := b) (by omega) b.size 0 [] (by omega) (by simp)
    exact Ev.congr (f := fun k => laws_mtGuard.l0 k b [] 0) (fun k => rfl) (by simpa using this)
  obtain ⟨G, hG⟩ : ∃ G, G = strOfNums (gl (bytesOf b)) := ⟨_, rfl⟩
  rw [← hG] at hg
  have hGb : bytesOf G = gl (bytesOf b) := by rw [hG, bytesOf_str (gl_isB tb)]
  have hGz : G.size ≤ 8192 := by
    have := gl_length (bytesOf b)
    rw [← bytesOf_length G, hGb]
    rw [bytesOf_length] at this
    omega
  have hx : bytesOf (G ++ (⟨#[42]⟩ : ByteArray)) = gl (bytesOf b) ++ [42] := by rw [bytesOf_append, hGb]; rfl
  have hxz : (G ++ (⟨#[42]⟩ : ByteArray)).size ≤ 140737488351232 := by rw [ByteArray.size_append]; show G.size + 1 ≤ _; omega
  obtain ⟨m, hm, im⟩ := mt_ev (s := a) (x := G ++ (⟨#[42]⟩ : ByteArray)) (cs := cs) (ts := rs.map .ch ++ [.star]) ha hxz ta (by rw [hx]; exact (gl_pt tb).append (.one' .star))
  have hpre : m = true ↔ ∃ q, bytesOf a = bytesOf b ++ q := by
    rw [im, gm_lits]
    constructor
    · rintro ⟨t, rfl⟩
      obtain ⟨x, y, hxy, hx, _⟩ := ta.split
      exact ⟨y, by rw [hxy, hx.det tb]⟩
    · rintro ⟨q, hq⟩
      rw [hq] at ta
      obtain ⟨t, ht, _⟩ := tb.prefix ta
      exact ⟨t, ht⟩
  have c3 : G.size + 1 ≤ 9223372036854775807 := by omega
  refine Ev.step (f := fun k => (laws_mtGuard.f k b).bind fun t156 => (if t156.size + 1 ≤ 9223372036854775807 then ((impl_MtMatch.f k a (t156 ++ (⟨#[42]⟩ : ByteArray))).bind fun t157 => (if (a.size : Int) ≥ (b.size : Int) then (if 0 ≤ (b.size : Int) then (if (b.size : Int) ≤ (a.size : Int) then (some (t157 == ((a.extract 0 ((b.size : Int) : Int).toNat).toList == b.toList))) else (none)) else (none)) else (some (t157 == false)))) else (none))) (fun k => by simp only [laws_FnMtAhead.j1, Bool.false_eq_true, if_false]) ?_
  refine Ev.bind (f := fun k t156 => (if t156.size + 1 ≤ 9223372036854775807 then ((impl_MtMatch.f k a (t156 ++ (⟨#[42]⟩ : ByteArray))).bind fun t157 => (if (a.size : Int) ≥ (b.size : Int) then (if 0 ≤ (b.size : Int) then (if (b.size : Int) ≤ (a.size : Int) then (some (t157 == ((a.extract 0 ((b.size : Int) : Int).toNat).toList == b.toList))) else (none)) else (none)) else (some (t157 == false)))) else (none))) hg ?_
  simp only [if_pos c3]
  refine Ev.bind (f := fun k t157 => (if (a.size : Int) ≥ (b.size : Int) then (if 0 ≤ (b.size : Int) then (if (b.size : Int) ≤ (a.size : Int) then (some (t157 == ((a.extract 0 ((b.size : Int) : Int).toNat).toList == b.toList))) else (none)) else (none)) else (some (t157 == false)))) hm (ev_const fun _ => ?_)
  by_cases c4 : (a.size : Int) ≥ (b.size : Int)
  · have c5 : 0 ≤ (b.size : Int) := by omega
    have c6 : (b.size : Int) ≤ (a.size : Int) := c4
    have e : ((a.extract 0 ((b.size : Int) : Int).toNat).toList == b.toList) = m := by
      rw [Bool.eq_iff_iff, hpre, beq_iff_eq, toList_iff, bytesOf_extract, List.drop_zero, Int.toNat_natCast]
      constructor
      · intro h
        exact ⟨(bytesOf a).drop b.size, by rw [← h, List.take_append_drop]⟩
      · rintro ⟨q, hq⟩
        rw [hq, ← bytesOf_length b, List.take_left]
    simp only [if_pos c4, if_pos c5, if_pos c6, e, beq_self_eq_true]
  · have : m = false := by
      cases m with
      | false => rfl
      | true =>
        obtain ⟨q, hq⟩ := hpre.1 rfl
        have := congrArg List.length hq
        rw [List.length_append, bytesOf_length, bytesOf_length] at this
        omega
    subst this
    simp only [if_neg c4]
    rfl
end Go.Proofs.YtfpbbnllaogclaaDoor.Pure
