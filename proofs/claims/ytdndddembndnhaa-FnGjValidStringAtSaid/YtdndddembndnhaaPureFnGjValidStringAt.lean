/- At every place of a text the library's check of a string's inside finds it just where the reference does, and ends where that ends; no condition beyond the law's own guards. -/
import Derived.Test.YtdndddembndnhaaPAx7
import Derived.Test.YtdndddembndnhaaJStr
namespace Go.Proofs.Ytdndddembndnhaa.Pure
open Go.RowKit Go.Proofs.Ytdndddembndnhaa.PA Go.Proofs.Ytdndddembndnhaa.J Go.Proofs.YtdndddembndnhaaW.PrintWords Go.Proofs.YtdndddembndnhaaW.PrintLast
set_option linter.unusedSimpArgs false
theorem ishex_eq (c : Int) : gjson_ishex.f c = some (hex c) := by
  unfold gjson_ishex.f
  by_cases a : 48 ≤ c ∧ c ≤ 57
  · rw [if_pos a.1, if_pos a.2, (hex_iff c).2 (.inl a)]
  by_cases b : 97 ≤ c ∧ c ≤ 102
  · rw [(hex_iff c).2 (.inr (.inl b))]
    simp (disch := omega) only [if_pos, if_neg, ite_self]
  have e2 : hex c = decide (65 ≤ c ∧ c ≤ 70) := by
    rw [Bool.eq_iff_iff, hex_iff]; simp only [decide_eq_true_iff]; omega
  rw [e2]
  have f : (if c ≥ 65 then some (decide (c ≤ 70)) else some false) = some (decide (65 ≤ c ∧ c ≤ 70)) := by
    split
    · congr 1; rw [Bool.eq_iff_iff]; simp only [decide_eq_true_iff]; omega
    · rw [decide_eq_false (by omega)]
  rw [f]
  by_cases g : c ≥ 48
  · rw [if_pos g, if_neg (by omega)]
    by_cases g2 : c ≥ 97
    · rw [if_pos g2, if_neg (by omega)]
    · rw [if_neg g2]
  · rw [if_neg g]
    by_cases g2 : c ≥ 97
    · rw [if_pos g2, if_neg (by omega)]
    · rw [if_neg g2]

theorem l1_goes {s : ByteArray} (hn : s.size ≤ 65536) : ∀ (n : Nat) (i x : Int), 0 ≤ i → i < s.size → 0 ≤ x → x + n = 4 →
    (hexes s n (i + 1) = true → ∀ r, Ev (fun k => gjson_validstring.l0 k (bytesOf s) (i + 1 + n)) r → Ev (fun k => gjson_validstring.l1 k (bytesOf s) i x) r) ∧ (hexes s n (i + 1) = false → ∃ p, Ev (fun k => gjson_validstring.l1 k (bytesOf s) i x) (p, false))
  | 0, i, x, h0, h1, hx0, hx => by
    have hw : wrap64 (i + 1) = i + 1 := wr (by omega) (by omega)
    refine ⟨fun _ r h => Ev.step (fun k => ?_) h, fun h => by simp [hexes] at h⟩
    simp (disch := omega) only [gjson_validstring.l1, if_neg, hw]
    rw [show i + 1 + ((0 : Nat) : Int) = i + 1 from by omega]
  | n + 1, i, x, h0, h1, hx0, hx => by
    have hw : wrap64 (i + 1) = i + 1 := wr (by omega) (by omega)
    have hw2 : wrap64 (x + 1) = x + 1 := wr (by omega) (by omega)
    have hl := bytesOf_length s
    by_cases hi : i + 1 < s.size
    · cases hc : hex (bt s (i + 1)) with
      | true =>
        have ih := l1_goes hn n (i + 1) (x + 1) (by omega) hi (by omega) (by omega)
        have st : ∀ k, gjson_validstring.l1 (k + 1) (bytesOf s) i x = gjson_validstring.l1 k (bytesOf s) (i + 1) (x + 1) := fun k => by
          simp (disch := omega) only [gjson_validstring.l1, if_pos, if_neg, hw, hw2, hl, rd_bytesOf, ishex_eq, Option.bind_some, hc, if_true]
        rw [hexes, hc, Bool.true_and]
        refine ⟨fun h r hr => Ev.step st (ih.1 h r ?_), fun h => ?_⟩
        · rw [show i + 1 + 1 + (n : Int) = i + 1 + ((n + 1 : Nat) : Int) from by omega]; exact hr
        · obtain ⟨p, hp⟩ := ih.2 h
          exact ⟨p, Ev.step st hp⟩
      | false =>
        rw [hexes, hc, Bool.false_and]
        refine ⟨(fun h => by cases h), fun _ => ⟨i + 1, ev_one fun k => ?_⟩⟩
        simp (disch := omega) only [gjson_validstring.l1, if_pos, if_neg, hw, hw2, hl, rd_bytesOf, ishex_eq, Option.bind_some, hc, Bool.false_eq_true, if_false]
    · refine ⟨fun h => by have := hexes_in h; omega, fun _ => ⟨i + 1, ev_one fun k => ?_⟩⟩
      simp (disch := omega) only [gjson_validstring.l1, if_pos, if_neg, hw, hl]

theorem valid_l0 {s : ByteArray} (hn : s.size ≤ 65536) : ∀ (d : Nat) (i : Int), 0 ≤ i → i ≤ s.size → (s.size : Int) - i ≤ d →
    ∃ ok p, Ev (fun k => gjson_validstring.l0 k (bytesOf s) i) (p, ok) ∧ ∀ j, StrTo s i j ↔ ok = true ∧ p = j := by
  have hl := bytesOf_length s
  intro d
  induction d with
  | zero =>
    intro i h0 h1 hd
    refine ⟨false, i, ev_one fun k => ?_, fun j => ⟨fun h => absurd h (StrTo.low (by rw [bt_out s (by omega)]; omega)), fun h => by cases h.1⟩⟩
    simp (disch := omega) only [gjson_validstring.l0, if_neg, hl]
  | succ d ih =>
    intro i h0 h1 hd
    by_cases hi : i < s.size
    · have hw : wrap64 (i + 1) = i + 1 := wr (by omega) (by omega)
      have hw1 : wrap64 (i + 1 + 1) = i + 2 := by rw [wr (by omega) (by omega)]; omega
      by_cases c2 : bt s i < 32
      · refine ⟨false, i, ev_one fun k => ?_, fun j => ⟨fun h => absurd h (StrTo.low c2), fun h => by cases h.1⟩⟩
        simp (disch := omega) only [gjson_validstring.l0, if_pos, hl, rd_bytesOf]
      by_cases c3 : bt s i = 92
      · by_cases hi1 : i + 1 = s.size
        · refine ⟨false, i + 1, ev_one fun k => ?_, fun j => ?_⟩
          · simp (disch := omega) only [gjson_validstring.l0, if_pos, if_neg, hl, rd_bytesOf, hw]
          · rw [StrTo.escaped c3]
            refine ⟨fun ⟨m, e, _⟩ => ?_, fun h => by cases h.1⟩
            have := escEnd_le e
            omega
        · have st : ∀ k, gjson_validstring.l0 (k + 1) (bytesOf s) i = gjson_validstring.j1 k (bytesOf s) (i + 1) (bt s (i + 1)) (short (bt s (i + 1))) := fun k => by
            simp (disch := omega) only [gjson_validstring.l0, if_pos, if_neg, hl, rd_bytesOf, hw]
            by_cases c1 : bt s (i + 1) = 34
            · rw [if_pos c1, c1]; rfl
            rw [if_neg c1]
            by_cases c2 : bt s (i + 1) = 92
            · rw [if_pos c2, c2]; rfl
            rw [if_neg c2]
            by_cases c3 : bt s (i + 1) = 47
            · rw [if_pos c3, c3]; rfl
            rw [if_neg c3]
            by_cases c4 : bt s (i + 1) = 98
            · rw [if_pos c4, c4]; rfl
            rw [if_neg c4]
            by_cases c5 : bt s (i + 1) = 102
            · rw [if_pos c5, c5]; rfl
            rw [if_neg c5]
            by_cases c6 : bt s (i + 1) = 110
            · rw [if_pos c6, c6]; rfl
            rw [if_neg c6]
            by_cases c7 : bt s (i + 1) = 114
            · rw [if_pos c7, c7]; rfl
            rw [if_neg c7]
            have : short (bt s (i + 1)) = (bt s (i + 1) == 116) := by
              unfold short
              rw [beq_eq_false_iff_ne.2 c1, beq_eq_false_iff_ne.2 c2, beq_eq_false_iff_ne.2 c3, beq_eq_false_iff_ne.2 c4, beq_eq_false_iff_ne.2 c5, beq_eq_false_iff_ne.2 c6, beq_eq_false_iff_ne.2 c7]
              rfl
            rw [this]
          cases hs : short (bt s (i + 1)) with
          | true =>
            obtain ⟨ok, p, hev, hj⟩ := ih (i + 2) (by omega) (by omega) (by omega)
            refine ⟨ok, p, Ev.step st (Ev.step (fun k => ?_) hev), fun j => ?_⟩
            · simp only [gjson_validstring.j1, hs, if_true, hw1]
            · rw [StrTo.escaped c3, ← hj j]
              simp only [escEnd, hs, if_true, Option.some.injEq, show i + 1 + 1 = i + 2 from by omega, exists_eq_left']
          | false =>
            by_cases hu : bt s (i + 1) = 117
            · have g := l1_goes hn 4 (i + 1) 0 (by omega) (by omega) (by omega) (by omega)
              have st2 : ∀ k, gjson_validstring.j1 (k + 1) (bytesOf s) (i + 1) (bt s (i + 1)) (short (bt s (i + 1))) = gjson_validstring.l1 k (bytesOf s) (i + 1) 0 := fun k => by
                simp only [gjson_validstring.j1, hu, show short 117 = false from rfl, Bool.false_eq_true, if_true, if_false]
              cases hx : hexes s 4 (i + 1 + 1) with
              | true =>
                have hle := hexes_in hx
                obtain ⟨ok, p, hev, hj⟩ := ih (i + 6) (by omega) (by omega) (by omega)
                refine ⟨ok, p, Ev.step st (Ev.step st2 (g.1 hx _ (by rw [show i + 1 + 1 + ((4 : Nat) : Int) = i + 6 from by omega]; exact hev))), fun j => ?_⟩
                rw [StrTo.escaped c3, ← hj j]
                simp only [escEnd, hu, show short 117 = false from rfl, hx, Bool.false_eq_true, if_true, if_false, Option.some.injEq, show i + 1 + 5 = i + 6 from by omega, exists_eq_left']
              | false =>
                obtain ⟨p, hp⟩ := g.2 hx
                refine ⟨false, p, Ev.step st (Ev.step st2 hp), fun j => ?_⟩
                rw [StrTo.escaped c3]
                simp [escEnd, hu, show short 117 = false from rfl, hx]
            · refine ⟨false, i + 1, Ev.step st (ev_one fun k => ?_), fun j => ?_⟩
              · simp only [gjson_validstring.j1, hs, hu, Bool.false_eq_true, if_false]
              · rw [StrTo.escaped c3]
                simp [escEnd, hs, hu]
      by_cases c1 : bt s i = 34
      · refine ⟨true, i + 1, ev_one fun k => ?_, fun j => by rw [StrTo.quote c1]; simp [eq_comm]⟩
        simp (disch := omega) only [gjson_validstring.l0, if_pos, if_neg, hw, hl, rd_bytesOf]
      · obtain ⟨ok, p, hev, hj⟩ := ih (i + 1) (by omega) (by omega) (by omega)
        refine ⟨ok, p, Ev.step (fun k => ?_) hev, fun j => by rw [StrTo.plain (by omega) c1 c3]; exact hj j⟩
        simp (disch := omega) only [gjson_validstring.l0, if_pos, if_neg, hw, hl, rd_bytesOf]
    · refine ⟨false, i, ev_one fun k => ?_, fun j => ⟨fun h => absurd h (StrTo.low (by rw [bt_out s (by omega)]; omega)), fun h => by cases h.1⟩⟩
      simp (disch := omega) only [gjson_validstring.l0, if_neg, hl]

theorem FnGjValidStringAt : laws_FnGjValidStringAt.Pure := by
  intro s a hs ha
  have j0t : laws_FnGjValidStringAt.j0 1 s a true = some true := by simp [laws_FnGjValidStringAt.j0]
  by_cases c0 : (s.size : Int) > 2147483647
  · exact ⟨1, by unfold laws_FnGjValidStringAt.f; rw [if_pos c0]⟩
  by_cases c1 : (s.size : Int) > 65536
  · exact ⟨1, by unfold laws_FnGjValidStringAt.f; rw [if_neg c0, if_pos c1]; exact j0t⟩
  by_cases c2 : a < 0
  · exact ⟨1, by unfold laws_FnGjValidStringAt.f; rw [if_neg c0, if_neg c1, if_pos c2]; exact j0t⟩
  by_cases c3 : a > s.size
  · exact ⟨1, by unfold laws_FnGjValidStringAt.f; rw [if_neg c0, if_neg c1, if_neg c2, decide_eq_true c3]; exact j0t⟩
  have hw : wrap64 (a - 1) = a - 1 := wr (by omega) (by omega)
  have hw2 : wrap64 (a - 1 + 1) = a := by rw [wr (by omega) (by omega)]; omega
  obtain ⟨ok, p, hev, hj⟩ := quoted_l0 (s := s) (by omega) s.size a (by omega) (by omega) (by omega)
  obtain ⟨ok', p', hev', hj'⟩ := valid_l0 (s := s) (by omega) s.size a (by omega) (by omega) (by omega)
  have e1 : Ev (fun k => spec_StringAt.f k s a) (p, ok) := by
    unfold spec_StringAt.f spec_reader_quoted.f
    rw [hw, hw2]
    exact Ev.bind (f := fun _ b => some (b.2.2, b.1)) hev (Ev.now _)
  have e2 : Ev (fun k => impl_GjValidStringAt.f k s a) (p', ok') := by
    unfold impl_GjValidStringAt.f gjson_DoorValidString.f gjson_validstring.f
    simp only [if_pos hs]
    exact Ev.bind (f := fun _ b => some (b.1, b.2)) hev' (Ev.now _)
  have hok : ok' = ok ∧ (ok = true → p' = p) := by
    cases ok with
    | true => have := ((hj' p).1 ((hj p).2 ⟨rfl, rfl⟩)); exact ⟨this.1, fun _ => this.2⟩
    | false =>
      cases ok' with
      | true => have := ((hj p').1 ((hj' p').2 ⟨rfl, rfl⟩)); exact absurd this.1 (by simp)
      | false => exact ⟨rfl, fun h => by cases h⟩
  obtain ⟨rfl, hp⟩ := hok
  refine Ev.rounds (Ev.congr (f := fun k => laws_FnGjValidStringAt.j0 k s a false) (fun k => ?_) (Ev.step (f := fun k => (spec_StringAt.f k s a).bind fun b => ((impl_GjValidStringAt.f k s a).bind fun c => (if (c.2 == b.2) = true then (if b.2 = true then (some (c.1 == b.1)) else (some true)) else (some false)))) (fun k => ?_) (Ev.bind (f := fun k b => ((impl_GjValidStringAt.f k s a).bind fun c => (if (c.2 == b.2) = true then (if b.2 = true then (some (c.1 == b.1)) else (some true)) else (some false)))) e1 (Ev.bind (f := fun _ c => (if (c.2 == ok') = true then (if ok' = true then (some (c.1 == p)) else (some true)) else (some false))) e2 (ev_const fun _ => ?_)))))
  · unfold laws_FnGjValidStringAt.f
    rw [if_neg c0, if_neg c1, if_neg c2, decide_eq_false c3]
  · simp only [laws_FnGjValidStringAt.j0, Bool.false_eq_true, if_false]
  · cases ok' with
    | true => simp [hp rfl]
    | false => simp

end Go.Proofs.Ytdndddembndnhaa.Pure
