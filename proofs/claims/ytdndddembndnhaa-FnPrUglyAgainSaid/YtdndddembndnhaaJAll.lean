/- The reference's reader computes val, mems and elems. -/
import Derived.Test.YtdndddembndnhaaJRead
import Derived.Test.YtdndddembndnhaaPAx11
import Derived.Test.YtdndddembndnhaaPAx16
import Derived.Test.YtdndddembndnhaaPAx2
import Derived.Test.YtdndddembndnhaaPAx6
import Derived.Test.YtdndddembndnhaaPAx7
import Derived.Test.YtdndddembndnhaaPAx9
namespace Go.Proofs.Ytdndddembndnhaa.J
open Go.RowKit Go.Proofs.Ytdndddembndnhaa.PA Go.Proofs.YtdndddembndnhaaW.PrintWords Go.Proofs.YtdndddembndnhaaW.PrintLast
attribute [local irreducible] bt
set_option linter.unusedSimpArgs false
set_option linter.unusedVariables false
set_option linter.unusedSectionVars false

section
variable {s : ByteArray} (hn : s.size ≤ 2147483647)
include hn
theorem quoted_ev {i : Int} (h0 : 0 ≤ i) (h1 : i < s.size) : (∀ j, strEnd s (i + 1) = some j → Ev (fun k => spec_reader_quoted.f k s i) (true, s, j)) ∧ (strEnd s (i + 1) = none → ∃ p, Ev (fun k => spec_reader_quoted.f k s i) (false, s, p)) := by
  have hw : wrap64 (i + 1) = i + 1 := wr (by omega) (by omega)
  obtain ⟨ok, p, hev, hj⟩ := quoted_l0 (s := s) (by omega) s.size (i + 1) (by omega) (by omega) (by omega)
  unfold spec_reader_quoted.f
  rw [hw]
  refine ⟨fun j h => ?_, fun h => ?_⟩
  · obtain ⟨rfl, rfl⟩ := (hj j).1 (strEnd_iff.1 h)
    exact hev
  · cases ok with
    | false => exact ⟨p, hev⟩
    | true => exact absurd ((hj p).2 ⟨rfl, rfl⟩) (strEnd_none.1 h p)
def RV (s : ByteArray) (n : Nat) : Prop := ∀ i : Int, 0 ≤ i → i ≤ s.size → 2 * ((s.size : Int) - i) < n →
  (∀ j p, val s n i = some (j, p) → Ev (fun k => spec_reader_value.f k s i) (p.f0, p.f1, p.f2, p.f3, p.f4, true, s, j)) ∧
  (val s n i = none → ∃ a b c d e q, Ev (fun k => spec_reader_value.f k s i) (a, b, c, d, e, false, s, q))
def RM (s : ByteArray) (n : Nat) : Prop := ∀ (i : Int) x5 x6, 0 ≤ i → i ≤ s.size → 2 * ((s.size : Int) - i) < n → (x5.length : Int) ≤ i → (x6.length : Int) ≤ i →
  (∀ r, mems s n i = some r → Ev (fun k => spec_reader_members.l0 k x5 x6 s i) (x5 ++ r.2.1, x6 ++ r.2.2, true, s, r.1)) ∧
  (mems s n i = none → ∃ q, Ev (fun k => spec_reader_members.l0 k x5 x6 s i) ([], [], false, s, q))
def RE (s : ByteArray) (n : Nat) : Prop := ∀ (i : Int) x4, 0 ≤ i → i ≤ s.size → 2 * ((s.size : Int) - i) + 1 < n → (x4.length : Int) ≤ i →
  (∀ r, elems s n i = some r → Ev (fun k => spec_reader_elements.l0 k x4 s i) (x4 ++ r.2, true, s, r.1)) ∧
  (elems s n i = none → ∃ q, Ev (fun k => spec_reader_elements.l0 k x4 s i) ([], false, s, q))
omit hn in
theorem sk_in {i : Int} (h : i ≤ s.size) : i ≤ sk s i ∧ sk s i ≤ s.size := ⟨stop_ge blank0 s i, stop_le blank0 s h⟩
theorem re_step {n : Nat} (hV : RV s n) (hE : RE s n) : RE s (n + 1) := by
  intro i x4 h0 h1 hd hx
  have hs : s.size ≤ 140737488351232 := by omega
  rw [elems]
  have hv := hV i h0 h1 (by omega)
  cases e : val s n i with
  | none =>
    obtain ⟨a, b, c, d, f, q, g⟩ := hv.2 e
    refine ⟨fun r hr => by simp at hr, fun _ => ⟨q, ?_⟩⟩
    refine Ev.step (fun k => spec_reader_elements.l0.eq_2 x4 s i k) ?_
    refine Ev.bind g ?_
    simp only [Bool.false_eq_true, if_false]
    exact Ev.now _
  | some v =>
    obtain ⟨j, p⟩ := v
    have g := hv.1 j p e
    have ep : (⟨p.f0, p.f1, p.f2, p.f3, p.f4⟩ : S32) = p := by cases p; rfl
    have hj := (val_le_all s n).1 i j p h1 e
    have hk := sk_in (s := s) (i := j) hj.2.1
    have hx' : x4.length < 1954687338268 := by omega
    have hb := blanks_f hs (i := j) (by omega) hj.2.1
    have t1 := take_ev hs (i := sk s j) (c := 93) (by omega) hk.2 (by decide)
    have t2 := take_ev hs (i := sk s j) (c := 44) (by omega) hk.2 (by decide)
    have go : ∀ r, Ev (fun k => if (bt s (sk s j) == 93) = true then (some (x4 ++ [p], true, s, if bt s (sk s j) = 93 then sk s j + 1 else sk s j)) else ((spec_reader_take.f s (if bt s (sk s j) = 93 then sk s j + 1 else sk s j) 44).bind fun bt225 => (if bt225.1 = true then ((spec_reader_blanks.f k bt225.2.1 bt225.2.2).bind fun bt228 => (spec_reader_elements.l0 k (x4 ++ [p]) bt228.1 bt228.2)) else (some ([], false, bt225.2.1, bt225.2.2))))) r → Ev (fun k => spec_reader_elements.l0 k x4 s i) r := by
      intro r hr
      refine Ev.step (fun k => spec_reader_elements.l0.eq_2 x4 s i k) ?_
      refine Ev.bind g ?_
      simp only [if_true, if_pos hx', Option.bind_some]
      refine Ev.bind hb ?_
      simp only [t1, Option.bind_some, ep]
      exact hr
    simp only [Option.bind_some]
    by_cases c1 : bt s (sk s j) = 93
    · rw [if_pos c1]
      refine ⟨fun r hr => ?_, fun h => by cases h⟩
      obtain rfl := Option.some.inj hr
      refine go _ ?_
      simp only [beq_iff_eq.2 c1, if_true, if_pos c1]
      exact Ev.now _
    rw [if_neg c1]
    simp only [beq_eq_false_iff_ne.2 c1, if_neg c1, Bool.false_eq_true, if_false, t2, Option.bind_some] at go
    by_cases c2 : bt s (sk s j) = 44
    · have hl : sk s j < s.size := bt_in (by rw [c2]; decide)
      have hk2 := sk_in (s := s) (i := sk s j + 1) (by omega)
      have hb2 := blanks_f hs (i := sk s j + 1) (by omega) (by omega)
      have ih := hE (sk s (sk s j + 1)) (x4 ++ [p]) (by omega) hk2.2 (by omega) (by simp only [List.length_append, List.length_cons, List.length_nil]; omega)
      simp only [beq_iff_eq.2 c2, if_true, if_pos c2] at go ⊢
      refine ⟨fun r hr => ?_, fun h => ?_⟩
      · obtain ⟨q, hq, hr⟩ := Option.bind_eq_some_iff.1 hr
        obtain rfl := Option.some.inj hr
        refine go _ (Ev.bind hb2 ?_)
        have := ih.1 q hq
        rw [List.append_assoc] at this
        exact this
      · cases e2 : elems s n (sk s (sk s j + 1)) with
        | none =>
          obtain ⟨q, hq⟩ := ih.2 e2
          exact ⟨q, go _ (Ev.bind hb2 hq)⟩
        | some q => rw [e2] at h; cases h
    · simp only [beq_eq_false_iff_ne.2 c2, Bool.false_eq_true, if_false, if_neg c2] at go ⊢
      exact ⟨fun r hr => by simp at hr, fun _ => ⟨_, go _ (Ev.now _)⟩⟩
theorem rm_step {n : Nat} (hV : RV s n) (hM : RM s n) : RM s (n + 1) := by
  intro i x5 x6 h0 h1 hd hx5 hx6
  have hs : s.size ≤ 140737488351232 := by omega
  rw [mems]
  have st : ∀ k, spec_reader_members.l0 (k + 1) x5 x6 s i = (if bt s i = 34 then ((spec_reader_quoted.f k s i).bind fun bt160 => (spec_reader_members.j1 k x5 x6 i (!bt160.1) bt160.2.1 bt160.2.2)) else (spec_reader_members.j1 k x5 x6 i true s i)) := fun k => by
    simp only [spec_reader_members.l0, here_ev h0, Option.bind_some]
  have bad : ∀ q, Ev (fun k => spec_reader_members.j1 k x5 x6 i true s q) ([], [], false, s, q) := fun q => ev_one fun k => by simp only [spec_reader_members.j1, if_true]
  by_cases c0 : bt s i = 34
  · simp only [if_pos c0] at st ⊢
    have hi : i < s.size := bt_in (by rw [c0]; decide)
    have hq := quoted_ev hn h0 hi
    cases e0 : strEnd s (i + 1) with
    | none =>
      obtain ⟨q, g⟩ := hq.2 e0
      refine ⟨fun r hr => by simp at hr, fun _ => ⟨q, Ev.step st (Ev.bind g ?_)⟩⟩
      exact bad q
    | some m =>
      have hm := (strEnd_iff.1 e0).le
      have g0 := hq.1 m e0
      have hk := sk_in (s := s) (i := m) hm.2
      have hx5' : x5.length < 8796093022208 := by omega
      have hb := blanks_f hs (i := m) (by omega) hm.2
      have t1 := take_ev hs (i := sk s m) (c := 58) (by omega) hk.2 (by decide)
      simp only [Option.bind_some]
      have go0 : ∀ r, Ev (fun k => (if (bt s (sk s m) == 58) = true then ((spec_reader_blanks.f k s (if bt s (sk s m) = 58 then sk s m + 1 else sk s m)).bind fun bt171 => ((spec_reader_value.f k bt171.1 bt171.2).bind fun bt173 => (if bt173.2.2.2.2.2.1 = true then (if x6.length < 1954687338268 then ((some (x6 ++ [(⟨bt173.1, bt173.2.1, bt173.2.2.1, bt173.2.2.2.1, bt173.2.2.2.2.1⟩ : S32)] : List (S32))).bind fun y186 => ((spec_reader_blanks.f k bt173.2.2.2.2.2.2.1 bt173.2.2.2.2.2.2.2).bind fun bt189 => ((spec_reader_take.f bt189.1 bt189.2 125).bind fun bt191 => (if bt191.1 = true then (some (x5 ++ [⟨i, m⟩], y186, true, bt191.2.1, bt191.2.2)) else ((spec_reader_take.f bt191.2.1 bt191.2.2 44).bind fun bt194 => (if bt194.1 = true then ((spec_reader_blanks.f k bt194.2.1 bt194.2.2).bind fun bt197 => (spec_reader_members.l0 k (x5 ++ [⟨i, m⟩]) y186 bt197.1 bt197.2)) else (some ([], [], false, bt194.2.1, bt194.2.2)))))))) else (none)) else (some ([], [], false, bt173.2.2.2.2.2.2.1, bt173.2.2.2.2.2.2.2))))) else (some ([], [], false, s, (if bt s (sk s m) = 58 then sk s m + 1 else sk s m))))) r → Ev (fun k => spec_reader_members.l0 k x5 x6 s i) r := by
        intro r hr
        refine Ev.step st (Ev.bind g0 ?_)
        refine Ev.step (fun k => spec_reader_members.j1.eq_2 x5 x6 i (!true) s m k) ?_
        simp only [Bool.not_true, Bool.false_eq_true, if_false, if_pos hx5', Option.bind_some]
        refine Ev.bind hb ?_
        simp only [t1, Option.bind_some]
        exact hr
      by_cases c1 : bt s (sk s m) = 58
      · have hl : sk s m < s.size := bt_in (by rw [c1]; decide)
        have hk1 := sk_in (s := s) (i := sk s m + 1) (by omega)
        have hb1 := blanks_f hs (i := sk s m + 1) (by omega) (by omega)
        have hv := hV (sk s (sk s m + 1)) (by omega) hk1.2 (by omega)
        have hx6' : x6.length < 1954687338268 := by omega
        simp only [beq_iff_eq.2 c1, if_true, if_pos c1] at go0 ⊢
        cases e : val s n (sk s (sk s m + 1)) with
        | none =>
          obtain ⟨a, b, c, d, f, q, g⟩ := hv.2 e
          refine ⟨fun r hr => by simp at hr, fun _ => ⟨q, go0 _ (Ev.bind hb1 (Ev.bind g ?_))⟩⟩
          simp only [Bool.false_eq_true, if_false]
          exact Ev.now _
        | some v =>
          obtain ⟨j, p⟩ := v
          have g := hv.1 j p e
          have ep : (⟨p.f0, p.f1, p.f2, p.f3, p.f4⟩ : S32) = p := by cases p; rfl
          have hj := (val_le_all s n).1 _ j p hk1.2 e
          have hkj := sk_in (s := s) (i := j) hj.2.1
          have hbj := blanks_f hs (i := j) (by omega) hj.2.1
          have t2 := take_ev hs (i := sk s j) (c := 125) (by omega) hkj.2 (by decide)
          have t3 := take_ev hs (i := sk s j) (c := 44) (by omega) hkj.2 (by decide)
          have go : ∀ r, Ev (fun k => (if (bt s (sk s j) == 125) = true then (some (x5 ++ [⟨i, m⟩], x6 ++ [p], true, s, if bt s (sk s j) = 125 then sk s j + 1 else sk s j)) else ((spec_reader_take.f s (if bt s (sk s j) = 125 then sk s j + 1 else sk s j) 44).bind fun bt194 => (if bt194.1 = true then ((spec_reader_blanks.f k bt194.2.1 bt194.2.2).bind fun bt197 => (spec_reader_members.l0 k (x5 ++ [⟨i, m⟩]) (x6 ++ [p]) bt197.1 bt197.2)) else (some ([], [], false, bt194.2.1, bt194.2.2)))))) r → Ev (fun k => spec_reader_members.l0 k x5 x6 s i) r := by
            intro r hr
            refine go0 _ (Ev.bind hb1 (Ev.bind g ?_))
            simp only [if_true, if_pos hx6', Option.bind_some]
            refine Ev.bind hbj ?_
            simp only [t2, Option.bind_some, ep]
            exact hr
          simp only [Option.bind_some]
          by_cases c2 : bt s (sk s j) = 125
          · rw [if_pos c2]
            refine ⟨fun r hr => ?_, fun h => by cases h⟩
            obtain rfl := Option.some.inj hr
            refine go _ ?_
            simp only [beq_iff_eq.2 c2, if_true, if_pos c2]
            exact Ev.now _
          rw [if_neg c2]
          simp only [beq_eq_false_iff_ne.2 c2, if_neg c2, Bool.false_eq_true, if_false, t3, Option.bind_some] at go
          by_cases c3 : bt s (sk s j) = 44
          · have hl2 : sk s j < s.size := bt_in (by rw [c3]; decide)
            have hk2 := sk_in (s := s) (i := sk s j + 1) (by omega)
            have hb2 := blanks_f hs (i := sk s j + 1) (by omega) (by omega)
            have ih := hM (sk s (sk s j + 1)) (x5 ++ [⟨i, m⟩]) (x6 ++ [p]) (by omega) hk2.2 (by omega) (by simp only [List.length_append, List.length_cons, List.length_nil]; omega) (by simp only [List.length_append, List.length_cons, List.length_nil]; omega)
            simp only [beq_iff_eq.2 c3, if_true, if_pos c3] at go ⊢
            refine ⟨fun r hr => ?_, fun h => ?_⟩
            · obtain ⟨q, hq, hr⟩ := Option.bind_eq_some_iff.1 hr
              obtain rfl := Option.some.inj hr
              refine go _ (Ev.bind hb2 ?_)
              have := ih.1 q hq
              rw [List.append_assoc, List.append_assoc] at this
              exact this
            · cases e2 : mems s n (sk s (sk s j + 1)) with
              | none =>
                obtain ⟨q, hq⟩ := ih.2 e2
                exact ⟨q, go _ (Ev.bind hb2 hq)⟩
              | some q => rw [e2] at h; cases h
          · simp only [beq_eq_false_iff_ne.2 c3, Bool.false_eq_true, if_false, if_neg c3] at go ⊢
            exact ⟨fun r hr => by simp at hr, fun _ => ⟨_, go _ (Ev.now _)⟩⟩
      · simp only [beq_eq_false_iff_ne.2 c1, Bool.false_eq_true, if_false, if_neg c1] at go0 ⊢
        exact ⟨fun r hr => by simp at hr, fun _ => ⟨_, go0 _ (Ev.now _)⟩⟩
  · simp only [if_neg c0] at st ⊢
    exact ⟨fun r hr => by simp at hr, fun _ => ⟨i, Ev.step st (bad i)⟩⟩
theorem members_f {n : Nat} (hM : RM s n) {i : Int} (h0 : 0 ≤ i) (h1 : i < s.size) (hd : 2 * ((s.size : Int) - i) ≤ n) :
    (bt s (sk s (i + 1)) = 125 → Ev (fun k => spec_reader_members.f k s i) ([], [], true, s, sk s (i + 1) + 1)) ∧
    (bt s (sk s (i + 1)) ≠ 125 → (∀ r, mems s n (sk s (i + 1)) = some r → Ev (fun k => spec_reader_members.f k s i) (r.2.1, r.2.2, true, s, r.1)) ∧
      (mems s n (sk s (i + 1)) = none → ∃ q, Ev (fun k => spec_reader_members.f k s i) ([], [], false, s, q))) := by
  have hs : s.size ≤ 140737488351232 := by omega
  have hw : wrap64 (i + 1) = i + 1 := wr (by omega) (by omega)
  have hk := sk_in (s := s) (i := i + 1) (by omega)
  have hb := blanks_f hs (i := i + 1) (by omega) (by omega)
  have t1 := take_ev hs (i := sk s (i + 1)) (c := 125) (by omega) hk.2 (by decide)
  have go : ∀ r, Ev (fun k => if (bt s (sk s (i + 1)) == 125) = true then (some ([], [], true, s, if bt s (sk s (i + 1)) = 125 then sk s (i + 1) + 1 else sk s (i + 1))) else (spec_reader_members.l0 k [] [] s (if bt s (sk s (i + 1)) = 125 then sk s (i + 1) + 1 else sk s (i + 1)))) r → Ev (fun k => spec_reader_members.f k s i) r := by
    intro r hr
    refine Ev.step (fun k => spec_reader_members.f.eq_2 s i k) ?_
    rw [hw]
    refine Ev.bind hb ?_
    simp only [t1, Option.bind_some]
    exact hr
  have ih := hM (sk s (i + 1)) [] [] (by omega) hk.2 (by omega) (by simp only [List.length_nil]; omega) (by simp only [List.length_nil]; omega)
  refine ⟨fun c => go _ ?_, fun c => ?_⟩
  · simp only [beq_iff_eq.2 c, if_true, if_pos c]
    exact Ev.now _
  · simp only [beq_eq_false_iff_ne.2 c, Bool.false_eq_true, if_false, if_neg c] at go
    refine ⟨fun r hr => go _ ?_, fun h => ?_⟩
    · have := ih.1 r hr
      rw [List.nil_append, List.nil_append] at this
      exact this
    · obtain ⟨q, hq⟩ := ih.2 h
      exact ⟨q, go _ hq⟩
theorem elements_f {n : Nat} (hE : RE s n) {i : Int} (h0 : 0 ≤ i) (h1 : i < s.size) (hd : 2 * ((s.size : Int) - i) ≤ n) :
    (bt s (sk s (i + 1)) = 93 → Ev (fun k => spec_reader_elements.f k s i) ([], true, s, sk s (i + 1) + 1)) ∧
    (bt s (sk s (i + 1)) ≠ 93 → (∀ r, elems s n (sk s (i + 1)) = some r → Ev (fun k => spec_reader_elements.f k s i) (r.2, true, s, r.1)) ∧
      (elems s n (sk s (i + 1)) = none → ∃ q, Ev (fun k => spec_reader_elements.f k s i) ([], false, s, q))) := by
  have hs : s.size ≤ 140737488351232 := by omega
  have hw : wrap64 (i + 1) = i + 1 := wr (by omega) (by omega)
  have hk := sk_in (s := s) (i := i + 1) (by omega)
  have hb := blanks_f hs (i := i + 1) (by omega) (by omega)
  have t1 := take_ev hs (i := sk s (i + 1)) (c := 93) (by omega) hk.2 (by decide)
  have go : ∀ r, Ev (fun k => if (bt s (sk s (i + 1)) == 93) = true then (some ([], true, s, if bt s (sk s (i + 1)) = 93 then sk s (i + 1) + 1 else sk s (i + 1))) else (spec_reader_elements.l0 k [] s (if bt s (sk s (i + 1)) = 93 then sk s (i + 1) + 1 else sk s (i + 1)))) r → Ev (fun k => spec_reader_elements.f k s i) r := by
    intro r hr
    refine Ev.step (fun k => spec_reader_elements.f.eq_2 s i k) ?_
    rw [hw]
    refine Ev.bind hb ?_
    simp only [t1, Option.bind_some]
    exact hr
  have ih := hE (sk s (i + 1)) [] (by omega) hk.2 (by omega) (by simp only [List.length_nil]; omega)
  refine ⟨fun c => go _ ?_, fun c => ?_⟩
  · simp only [beq_iff_eq.2 c, if_true, if_pos c]
    exact Ev.now _
  · simp only [beq_eq_false_iff_ne.2 c, Bool.false_eq_true, if_false, if_neg c] at go
    refine ⟨fun r hr => go _ ?_, fun h => ?_⟩
    · have := ih.1 r hr
      rw [List.nil_append] at this
      exact this
    · obtain ⟨q, hq⟩ := ih.2 h
      exact ⟨q, go _ hq⟩
theorem rv_step {n : Nat} (hM : RM s n) (hE : RE s n) : RV s (n + 1) := by
  intro i h0 h1 hd
  have hs : s.size ≤ 140737488351232 := by omega
  have hl : ∀ {c : Int}, bt s i = c → c ≠ 0 → i < s.size := fun e hc => bt_in (by rw [e]; exact hc)
  rw [val]
  have st : ∀ r, Ev (fun k => (if bt s i = 123 then ((spec_reader_members.f k s i).bind fun bt235 => (some (6, i, bt235.2.2.2.2, bt235.1, bt235.2.1, bt235.2.2.1, bt235.2.2.2.1, bt235.2.2.2.2))) else (if bt s i = 91 then ((spec_reader_elements.f k s i).bind fun bt244 => (some (5, i, bt244.2.2.2, [], bt244.1, bt244.2.1, bt244.2.2.1, bt244.2.2.2))) else (if bt s i = 34 then ((spec_reader_quoted.f k s i).bind fun bt250 => (some (4, i, bt250.2.2, [], [], bt250.1, bt250.2.1, bt250.2.2))) else (if bt s i = 45 then (spec_reader_value.j0 k true true s i 0 i 0) else (if 48 ≤ bt s i then (spec_reader_value.j0 k true (decide (bt s i ≤ 57)) s i 0 i 0) else (spec_reader_value.j0 k true false s i 0 i 0))))))) r → Ev (fun k => spec_reader_value.f k s i) r := by
    intro r hr
    refine Ev.step (fun k => spec_reader_value.f.eq_2 s i k) ?_
    simp only [here_ev h0, Option.bind_some]
    exact hr
  by_cases c1 : bt s i = 123
  · have g := members_f hn hM h0 (hl c1 (by decide)) (by omega)
    simp only [if_pos c1] at st ⊢
    by_cases d : bt s (sk s (i + 1)) = 125
    · rw [if_pos d]
      refine ⟨fun j p h => ?_, fun h => by cases h⟩
      obtain ⟨rfl, rfl⟩ := Prod.mk.inj (Option.some.inj h)
      exact st _ (Ev.bind (g.1 d) (Ev.now _))
    · rw [if_neg d]
      refine ⟨fun j p h => ?_, fun h => ?_⟩
      · obtain ⟨r, hr, h⟩ := Option.bind_eq_some_iff.1 h
        obtain ⟨rfl, rfl⟩ := Prod.mk.inj (Option.some.inj h)
        exact st _ (Ev.bind ((g.2 d).1 r hr) (Ev.now _))
      · cases e : mems s n (sk s (i + 1)) with
        | none =>
          obtain ⟨q, hq⟩ := (g.2 d).2 e
          exact ⟨_, _, _, _, _, _, st _ (Ev.bind hq (Ev.now _))⟩
        | some q => rw [e] at h; cases h
  simp only [if_neg c1] at st ⊢
  by_cases c2 : bt s i = 91
  · have g := elements_f hn hE h0 (hl c2 (by decide)) (by omega)
    simp only [if_pos c2] at st ⊢
    by_cases d : bt s (sk s (i + 1)) = 93
    · rw [if_pos d]
      refine ⟨fun j p h => ?_, fun h => by cases h⟩
      obtain ⟨rfl, rfl⟩ := Prod.mk.inj (Option.some.inj h)
      exact st _ (Ev.bind (g.1 d) (Ev.now _))
    · rw [if_neg d]
      refine ⟨fun j p h => ?_, fun h => ?_⟩
      · obtain ⟨r, hr, h⟩ := Option.bind_eq_some_iff.1 h
        obtain ⟨rfl, rfl⟩ := Prod.mk.inj (Option.some.inj h)
        exact st _ (Ev.bind ((g.2 d).1 r hr) (Ev.now _))
      · cases e : elems s n (sk s (i + 1)) with
        | none =>
          obtain ⟨q, hq⟩ := (g.2 d).2 e
          exact ⟨_, _, _, _, _, _, st _ (Ev.bind hq (Ev.now _))⟩
        | some q => rw [e] at h; cases h
  simp only [if_neg c2] at st ⊢
  by_cases c3 : bt s i = 34
  · have g := quoted_ev hn h0 (hl c3 (by decide))
    simp only [if_pos c3] at st ⊢
    refine ⟨fun j p h => ?_, fun h => ?_⟩
    · obtain ⟨r, hr, h⟩ := Option.bind_eq_some_iff.1 h
      obtain ⟨rfl, rfl⟩ := Prod.mk.inj (Option.some.inj h)
      exact st _ (Ev.bind (g.1 r hr) (Ev.now _))
    · cases e : strEnd s (i + 1) with
      | none =>
        obtain ⟨q, hq⟩ := g.2 e
        exact ⟨_, _, _, _, _, _, st _ (Ev.bind hq (Ev.now _))⟩
      | some q => rw [e] at h; cases h
  simp only [if_neg c3] at st ⊢
  have hnum : ∀ r, Ev (fun k => spec_reader_value.j0 k true (decide (bt s i = 45 ∨ dig (bt s i) = true)) s i 0 i 0) r → Ev (fun k => spec_reader_value.f k s i) r := by
    intro r hr
    refine st r ?_
    by_cases c4 : bt s i = 45
    · rw [decide_eq_true (.inl c4)] at hr
      simp only [if_pos c4]
      exact hr
    · simp only [if_neg c4]
      by_cases c5 : 48 ≤ bt s i
      · simp only [if_pos c5]
        have : decide (bt s i = 45 ∨ dig (bt s i) = true) = decide (bt s i ≤ 57) := by
          rw [decide_eq_decide, dig_iff]; omega
        rw [this] at hr
        exact hr
      · simp only [if_neg c5]
        have : decide (bt s i = 45 ∨ dig (bt s i) = true) = false := by
          rw [decide_eq_false_iff_not, dig_iff]; omega
        rw [this] at hr
        exact hr
  by_cases c4 : bt s i = 45 ∨ dig (bt s i) = true
  · have g := number_ev hs h0 h1
    rw [decide_eq_true c4] at hnum
    have go : ∀ r, Ev (fun k => (spec_reader_number.f k s i).bind fun bt253 => (some (3, i, bt253.2.2, [], [], bt253.1, bt253.2.1, bt253.2.2))) r → Ev (fun k => spec_reader_value.f k s i) r := fun r hr =>
      hnum r (Ev.step (fun k => by simp only [spec_reader_value.j0, if_true]) hr)
    rw [if_pos c4]
    refine ⟨fun j p h => ?_, fun h => ?_⟩
    · obtain ⟨r, hr, h⟩ := Option.bind_eq_some_iff.1 h
      obtain ⟨rfl, rfl⟩ := Prod.mk.inj (Option.some.inj h)
      exact go _ (Ev.bind (g.1 r hr) (Ev.now _))
    · cases e : numEnd s i with
      | none =>
        obtain ⟨q, hq⟩ := g.2 e
        exact ⟨_, _, _, _, _, _, go _ (Ev.bind hq (Ev.now _))⟩
      | some q => rw [e] at h; cases h
  rw [if_neg c4]
  rw [decide_eq_false c4] at hnum
  have w1 := word_ev hs h0 h1 [110, 117, 108, 108] (by decide) (by simp [IsB]) (by decide) ⟨#[110, 117, 108, 108]⟩ rfl
  have w2 := word_ev hs h0 h1 [102, 97, 108, 115, 101] (by decide) (by simp [IsB]) (by decide) ⟨#[102, 97, 108, 115, 101]⟩ rfl
  have w3 := word_ev hs h0 h1 [116, 114, 117, 101] (by decide) (by simp [IsB]) (by decide) ⟨#[116, 114, 117, 101]⟩ rfl
  have go : ∀ r, (∀ k, spec_reader_value.j0 (k + 1) true false s i 0 i 0 = some r) → Ev (fun k => spec_reader_value.f k s i) r := fun r hr => hnum r (ev_one hr)
  simp only [spec_reader_value.j0, Bool.false_eq_true, if_false, w1, Option.bind_some] at go
  cases v1 : wordAt s i [110, 117, 108, 108] with
  | true =>
    simp only [v1, if_true] at go ⊢
    refine ⟨fun j p h => ?_, fun h => by cases h⟩
    obtain ⟨rfl, rfl⟩ := Prod.mk.inj (Option.some.inj h)
    exact go _ (fun _ => rfl)
  | false =>
  simp only [v1, Bool.false_eq_true, if_false, w2, Option.bind_some] at go ⊢
  cases v2 : wordAt s i [102, 97, 108, 115, 101] with
  | true =>
    simp only [v2, if_true] at go ⊢
    refine ⟨fun j p h => ?_, fun h => by cases h⟩
    obtain ⟨rfl, rfl⟩ := Prod.mk.inj (Option.some.inj h)
    exact go _ (fun _ => rfl)
  | false =>
  simp only [v2, Bool.false_eq_true, if_false, w3, Option.bind_some] at go ⊢
  cases v3 : wordAt s i [116, 114, 117, 101] with
  | true =>
    simp only [v3, if_true] at go ⊢
    refine ⟨fun j p h => ?_, fun h => by cases h⟩
    obtain ⟨rfl, rfl⟩ := Prod.mk.inj (Option.some.inj h)
    exact go _ (fun _ => rfl)
  | false =>
  simp only [v3, Bool.false_eq_true, if_false] at go ⊢
  exact ⟨fun j p h => by simp at h, fun _ => ⟨_, _, _, _, _, _, go _ (fun _ => rfl)⟩⟩
theorem read_all : ∀ n : Nat, RV s n ∧ RM s n ∧ RE s n
  | 0 => ⟨fun i _ _ h => by omega, fun i _ _ _ _ h => by omega, fun i _ _ _ h => by omega⟩
  | n + 1 => by
    obtain ⟨a, b, c⟩ := read_all n
    exact ⟨rv_step hn b c, rm_step hn a b, re_step hn a c⟩
/-- What the reference tells of a text as a whole. -/
theorem Places_ev (n : Nat) (h : 2 * s.size < n) :
    (∀ p j, val s n (sk s 0) = some (j, p) → sk s j = s.size → Ev (fun k => spec_Places.f k s) (p.f0, p.f1, p.f2, p.f3, p.f4, true)) ∧
    ((∀ p j, val s n (sk s 0) = some (j, p) → sk s j ≠ s.size) → Ev (fun k => spec_Places.f k s) (0, 0, 0, [], [], false)) := by
  have hs : s.size ≤ 140737488351232 := by omega
  have hk := sk_in (s := s) (i := 0) (by omega)
  have hb := blanks_f hs (i := 0) (by omega) (by omega)
  have g := (read_all hn n).1 (sk s 0) hk.1 hk.2 (by omega)
  have go : ∀ r, Ev (fun k => ((spec_reader_value.f k s (sk s 0)).bind fun bt269 => (if bt269.2.2.2.2.2.1 = true then ((spec_reader_blanks.f k bt269.2.2.2.2.2.2.1 bt269.2.2.2.2.2.2.2).bind fun bt282 => (if bt282.2 = (s.size : Int) then (some (bt269.1, bt269.2.1, bt269.2.2.1, bt269.2.2.2.1, bt269.2.2.2.2.1, true)) else (some (0, 0, 0, [], [], false)))) else (some (0, 0, 0, [], [], false))))) r → Ev (fun k => spec_Places.f k s) r := by
    intro r hr
    unfold spec_Places.f
    exact Ev.bind hb hr
  refine ⟨fun p j e h2 => go _ ?_, fun h2 => ?_⟩
  · have hj := (val_le_all s n).1 _ j p hk.2 e
    refine Ev.bind (g.1 j p e) ?_
    simp only [if_true]
    refine Ev.bind (blanks_f hs (i := j) (by omega) hj.2.1) ?_
    simp only [if_pos h2]
    exact Ev.now _
  · cases e : val s n (sk s 0) with
    | none =>
      obtain ⟨a, b, c, d, f, q, hq⟩ := g.2 e
      refine go _ (Ev.bind hq ?_)
      simp only [Bool.false_eq_true, if_false]
      exact Ev.now _
    | some v =>
      obtain ⟨j, p⟩ := v
      have hj := (val_le_all s n).1 _ j p hk.2 e
      refine go _ (Ev.bind (g.1 j p e) ?_)
      simp only [if_true]
      refine Ev.bind (blanks_f hs (i := j) (by omega) hj.2.1) ?_
      simp only [if_neg (h2 p j e)]
      exact Ev.now _
end
end Go.Proofs.Ytdndddembndnhaa.J
