/- What falseish looks at: a text in small letters. -/
import Derived.Test.YtfpbbnllaogclaaDoorHFalse
import Derived.Test.YtfpbbnllaogclaaDoorJByt
namespace Go.Proofs.YtfpbbnllaogclaaDoor.H
set_option linter.unusedVariables false
set_option linter.unusedSimpArgs false
open Go.RowKit Go.Proofs.YtfpbbnllaogclaaDoorW.PrintWords Go.Proofs.YtfpbbnllaogclaaDoorW.PrintLast Go.Proofs.YtfpbbnllaogclaaDoorW.PrintMore Go.Proofs.YtfpbbnllaogclaaDoor.PE Go.Proofs.YtfpbbnllaogclaaDoor.J

def lo (c : Int) : Int := if 65 ≤ c ∧ c ≤ 90 then c + 32 else c
def zl : List Int → List Int
  | [] => []
  | c :: l => if c = 196 ∧ l.head? = some 176 then 105 :: zl l.tail else lo c :: zl l
termination_by l => l.length
decreasing_by all_goals (first | (simp; done) | (simp; omega))

theorem zl_len : ∀ (n : Nat) (l : List Int), l.length ≤ n → (zl l).length ≤ l.length
  | 0, [], _ => by simp [zl]
  | n + 1, [], _ => by simp [zl]
  | n + 1, c :: l, h => by
    rw [zl]
    have hl : l.length ≤ n := by simpa using h
    split
    · have := zl_len n l.tail (by simp; omega)
      simp only [List.length_cons, List.length_tail] at this ⊢
      omega
    · have := zl_len n l hl
      simp only [List.length_cons]
      omega

theorem run (s : ByteArray) (hs : s.size ≤ 140737488351232) : ∀ (n : Nat) (p q acc : List Int), q.length ≤ n → bytesOf s = p ++ q → acc.length ≤ p.length →
    Ev (fun k => gjson_zzLower.l0 k s acc p.length) (strOfNums (acc ++ zl q)) := by
  intro n
  induction n with
  | zero =>
    intro p q acc hn hb ha
    obtain rfl : q = [] := List.eq_nil_of_length_eq_zero (by omega)
    have hz := size_of hb
    simp at hz
    refine ev_one fun k => ?_
    rw [gjson_zzLower.l0, if_neg (by omega)]
    simp [zl]
  | succ n ih =>
    intro p q acc hn hb ha
    have hz := size_of hb
    rw [List.length_append] at hz
    rcases q with _ | ⟨c, l⟩
    · refine ev_one fun k => ?_
      rw [gjson_zzLower.l0, if_neg (by simp at hz; omega)]
      simp [zl]
    · have hB : IsB (p ++ c :: l) := hb ▸ isB_bytesOf s
      obtain ⟨⟨hc0, hc1⟩, hBl⟩ := isB_cons.1 hB.right
      have hbt := bt_mid hb (i := (p.length : Int)) rfl
      simp only [List.length_cons] at hz hn
      have e1 : wrap64 ((p.length : Int) + 1) = ((p ++ [c]).length : Int) := by rw [wr (by omega) (by omega)]; simp
      have hb1 : bytesOf s = (p ++ [c]) ++ l := by rw [hb]; simp
      have next : ∀ x, lo c = x → ¬ (c = 196 ∧ l.head? = some 176) → Ev (fun k => gjson_zzLower.l0 k s (acc ++ [x]) ((p ++ [c]).length : Int)) (strOfNums (acc ++ zl (c :: l))) := fun x hx hne => by
        have := ih (p ++ [c]) l (acc ++ [x]) (by omega) hb1 (by simp; omega)
        rw [zl, if_neg hne, hx]
        simpa using this
      have hlt : (p.length : Int) < (s.size : Int) := by omega
      have hacc : acc.length < 140737488355328 := by omega
      have h0 : (0 : Int) ≤ (p.length : Int) := by omega
      by_cases h65 : 65 ≤ c ∧ c ≤ 90
      · have hne : ¬ (c + 32) % 256 = 196 := by omega
        have hc32 : (c + 32) % 256 = c + 32 := by omega
        refine Ev.step (f := fun k => gjson_zzLower.j1 k s acc p.length c true) (fun k => ?_) (Ev.step (fun k => ?_) (next (c + 32) (by unfold lo; rw [if_pos h65]) (by omega)))
        · rw [gjson_zzLower.l0, if_pos hlt, if_pos h0, hbt, if_pos h65.1, decide_eq_true h65.2]
        · rw [gjson_zzLower.j1, if_pos rfl, if_neg hne, if_pos hacc, hc32, e1]
      · refine Ev.step (f := fun k => gjson_zzLower.j1 k s acc p.length c false) (fun k => ?_) ?_
        · rw [gjson_zzLower.l0, if_pos hlt, if_pos h0, hbt]
          by_cases h1 : 65 ≤ c
          · rw [if_pos h1, decide_eq_false (by omega)]
          · rw [if_neg h1]
        · have hlo : lo c = c := by unfold lo; rw [if_neg h65]
          have ff : ¬ (false = true) := by decide
          by_cases h196 : c = 196
          · rcases l with _ | ⟨d, l⟩
            · refine Ev.step (fun k => ?_) (next c hlo (by simp))
              simp only [List.length_nil] at hz
              rw [gjson_zzLower.j1, if_neg ff, if_pos h196, e1, if_neg (by simp; omega), if_pos hacc]
            · simp only [List.length_cons] at hz hn
              have hb2 : bytesOf s = (p ++ [c]) ++ d :: l := by rw [hb]; simp
              have hbt2 := bt_mid hb2 (i := ((p ++ [c]).length : Int)) rfl
              have hlt2 : ((p ++ [c]).length : Int) < (s.size : Int) := by simp; omega
              by_cases h176 : d = 176
              · have e2 : wrap64 (((p ++ [c]).length : Int) + 1) = ((p ++ [c, d]).length : Int) := by rw [wr (by omega) (by omega)]; simp; omega
                have hb3 : bytesOf s = (p ++ [c, d]) ++ l := by rw [hb]; simp
                have := ih (p ++ [c, d]) l (acc ++ [105]) (by omega) hb3 (by simp; omega)
                rw [zl, if_pos ⟨h196, by rw [h176]; rfl⟩]
                refine Ev.step (fun k => ?_) (by simpa using this)
                rw [gjson_zzLower.j1, if_neg ff, if_pos h196, e1, if_pos hlt2, if_pos (by omega), hbt2, if_pos h176, if_pos hacc, e2]
                simp
              · refine Ev.step (fun k => ?_) (next c hlo (by simp; intro _; exact h176))
                rw [gjson_zzLower.j1, if_neg ff, if_pos h196, e1, if_pos hlt2, if_pos (by omega), hbt2, if_neg h176, if_pos hacc]
          · refine Ev.step (fun k => ?_) (next c hlo (fun h => h196 h.1))
            rw [gjson_zzLower.j1, if_neg ff, if_neg h196, if_pos hacc, e1]

theorem zl_two : ∀ (n : Nat) (l : List Int), l.length ≤ n → zl l = l.map lo ∨ (105 ∈ zl l ∧ 196 ∈ l.map lo)
  | 0, [], _ => by simp [zl]
  | n + 1, [], _ => by simp [zl]
  | n + 1, c :: l, h => by
    have hl : l.length ≤ n := by simpa using h
    rw [zl]
    split
    · rename_i hc
      refine .inr ⟨List.mem_cons_self, ?_⟩
      rw [List.map_cons, hc.1]
      exact List.mem_cons_self
    · rcases zl_two n l hl with e | ⟨e1, e2⟩
      · left; rw [e]; rfl
      · right; exact ⟨List.mem_cons_of_mem _ e1, List.mem_cons_of_mem _ e2⟩

theorem low_bytes (s : ByteArray) : bytesOf (low s) = (bytesOf s).map lo := by
  unfold bytesOf low
  simp only [List.toList_toArray, List.map_map]
  apply List.map_congr_left
  intro b _
  show ((lowB b).toNat : Int) = lo (b.toNat : Int)
  unfold lowB lo
  by_cases h : 65 ≤ b.toNat ∧ b.toNat ≤ 90
  · rw [if_pos h, if_pos (by omega), low_num b (by omega)]
  · rw [if_neg h, if_neg (by omega)]

theorem lo_bytes {l : List Int} (h : IsB l) : IsB (l.map lo) := fun x hx => by
  obtain ⟨y, hy, rfl⟩ := List.mem_map.1 hx
  have := h y hy
  unfold lo
  split <;> omega

theorem word_eq (s : ByteArray) (l : List UInt8) : (s.toList == l) = (bytesOf s == l.map fun b => (b.toNat : Int)) := by
  rw [Go.ByteArray.toList_eq]
  unfold bytesOf
  rw [Bool.eq_iff_iff, beq_iff_eq, beq_iff_eq]
  constructor
  · intro h; rw [h]
  · intro h
    have := congrArg (List.map fun x : Int => UInt8.ofNat x.toNat) h
    simp only [List.map_map] at this
    have hid : ∀ m : List UInt8, m.map ((fun x : Int => UInt8.ofNat x.toNat) ∘ fun b : UInt8 => (b.toNat : Int)) = m := fun m => by
      conv => rhs; rw [← List.map_id m]
      apply List.map_congr_left
      intro b _
      exact u8_back b
    rwa [hid, hid] at this

theorem data_eq (s : ByteArray) (l : List UInt8) : (s.data.toList == l) = (bytesOf s == l.map fun b => (b.toNat : Int)) := by
  rw [← word_eq, Go.ByteArray.toList_eq]
theorem beq_out {a b : List Int} {x : Int} (h : x ∈ a) (k : x ∉ b) : (a == b) = false := by
  rw [beq_eq_false_iff_ne]
  rintro rfl
  exact k h
theorem beq_big {a b : List Int} {x : Int} (h : ∀ x ∈ a, ¬ (65 ≤ x ∧ x ≤ 90)) (k : x ∈ b) (hx : 65 ≤ x ∧ x ≤ 90) : (a == b) = false := by
  rw [beq_eq_false_iff_ne]
  rintro rfl
  exact h x k hx
theorem no_two {r : ByteArray} (h : (105 : Int) ∈ bytesOf r) : no r = false := by
  unfold no
  rw [Lib.parseBool_bytes]
  simp only [data_eq]
  have key : ∀ w : List UInt8, (105 : Int) ∉ (w.map fun b => (b.toNat : Int)) → (bytesOf r == w.map fun b => (b.toNat : Int)) = false := fun w hw => beq_out h hw
  rw [key [49] (by decide), key [116] (by decide), key [84] (by decide), key [116, 114, 117, 101] (by decide), key [84, 82, 85, 69] (by decide), key [84, 114, 117, 101] (by decide),
    key [48] (by decide), key [102] (by decide), key [70] (by decide), key [102, 97, 108, 115, 101] (by decide), key [70, 65, 76, 83, 69] (by decide), key [70, 97, 108, 115, 101] (by decide)]
  rfl
theorem no_small {r : ByteArray} (h : ∀ x ∈ bytesOf r, ¬ (65 ≤ x ∧ x ≤ 90)) : no r = (r.toList == [48] || r.toList == [102] || r.toList == [102, 97, 108, 115, 101]) := by
  unfold no
  rw [Lib.parseBool_bytes]
  simp only [data_eq, word_eq]
  have key : ∀ w : List UInt8, ∀ x : Int, x ∈ (w.map fun b => (b.toNat : Int)) → (65 ≤ x ∧ x ≤ 90) → (bytesOf r == w.map fun b => (b.toNat : Int)) = false := fun w x hw hx => beq_big h hw hx
  rw [key [84] 84 (by decide) (by decide), key [84, 82, 85, 69] 84 (by decide) (by decide), key [84, 114, 117, 101] 84 (by decide) (by decide), key [70] 70 (by decide) (by decide), key [70, 65, 76, 83, 69] 70 (by decide) (by decide), key [70, 97, 108, 115, 101] 70 (by decide) (by decide)]
  simp only [Bool.or_false]
  by_cases a : (bytesOf r == [48].map fun b : UInt8 => (b.toNat : Int)) = true
  · have e := eq_of_beq a
    rw [e]; rfl
  · by_cases b : (bytesOf r == [102].map fun b : UInt8 => (b.toNat : Int)) = true
    · have e := eq_of_beq b
      rw [e]; rfl
    · by_cases c : (bytesOf r == [102, 97, 108, 115, 101].map fun b : UInt8 => (b.toNat : Int)) = true
      · have e := eq_of_beq c
        rw [e]; rfl
      · rw [Bool.eq_false_iff.2 a, Bool.eq_false_iff.2 b, Bool.eq_false_iff.2 c]
        simp only [Bool.or_false]
        split
        · rename_i q hq
          split at hq
          · cases hq; rfl
          · simp at hq
        · rfl

/-- The pure statement. -/
theorem pure (s : ByteArray) (hs : s.size ≤ 140737488351232) : ∃ k r, gjson_zzLower.f k s = some r ∧ r.size ≤ 281474976710656 ∧ no r = ((low s).toList == [48] || (low s).toList == [102] || (low s).toList == [102, 97, 108, 115, 101]) := by
  obtain ⟨k, hk⟩ := (run s hs s.size [] (bytesOf s) [] (by rw [bytesOf_length]; exact Nat.le_refl _) rfl (by simp)).rounds
  refine ⟨k, _, hk, ?_, ?_⟩
  · show (strOfNums _).data.size ≤ _
    rw [← Array.length_toList, strOfNums_data, List.length_map, List.nil_append]
    have := zl_len _ (bytesOf s) (Nat.le_refl _)
    rw [bytesOf_length] at this
    omega
  · rw [List.nil_append]
    have hB : IsB ((bytesOf s).map lo) := lo_bytes (isB_bytesOf s)
    rcases zl_two _ (bytesOf s) (Nat.le_refl _) with e | ⟨e1, e2⟩
    · rw [e, ← low_bytes, str_bytesOf]
      refine no_small fun x hx => ?_
      rw [low_bytes] at hx
      obtain ⟨y, hy, rfl⟩ := List.mem_map.1 hx
      have := isB_bytesOf s y hy
      unfold lo
      split <;> omega
    · have h196 : (196 : Int) ∈ bytesOf (low s) := by rw [low_bytes]; exact e2
      rw [word_eq, word_eq, word_eq, beq_out h196 (by decide), beq_out h196 (by decide), beq_out h196 (by decide)]
      rw [no_two]
      · rfl
      · simp only [bytesOf, strOfNums_data, List.map_map]
        exact List.mem_map.2 ⟨105, e1, by decide⟩
end Go.Proofs.YtfpbbnllaogclaaDoor.H
