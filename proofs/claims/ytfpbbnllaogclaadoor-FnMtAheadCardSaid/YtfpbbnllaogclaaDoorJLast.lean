/- What unicode/utf8's DecodeLastRuneInString gives of a text that ends with a character. -/
import Derived.Test.YtfpbbnllaogclaaDoorJCh
import Derived.Test.YtfpbbnllaogclaaDoorPAx11
import Derived.Test.YtfpbbnllaogclaaDoorPAx12
import Derived.Test.YtfpbbnllaogclaaDoorPAx9
namespace Go.Proofs.YtfpbbnllaogclaaDoor.J
open Go.RowKit Go.Proofs.YtfpbbnllaogclaaDoor.PA Go.Proofs.YtfpbbnllaogclaaDoorW.PrintWords Go.Proofs.YtfpbbnllaogclaaDoorW.PrintLast
set_option linter.unusedSimpArgs false
set_option linter.unusedVariables false
theorem start_all : ∀ b : Fin 256, (Go.bits .and .u8 (b.val : Int) 192 != 128) = !(decide (128 ≤ (b.val : Int)) && decide ((b.val : Int) ≤ 191)) := by decide +kernel
theorem start_at {b : Int} (h0 : 0 ≤ b) (h1 : b ≤ 255) : utf8_RuneStart.f b = some (!(decide (128 ≤ b) && decide (b ≤ 191))) := by
  have h := start_all ⟨b.toNat, by omega⟩
  simp only [Int.toNat_of_nonneg h0] at h
  unfold utf8_RuneStart.f
  rw [h]
theorem last_loop {s : ByteArray} {lim i : Int} {R : Int × Int} (hn : s.size ≤ 140737488351232) (hi : 0 ≤ i) (hl : lim ≤ i) (hs : utf8_RuneStart.f (bt s i) = some true)
    (hj : Ev (fun k => utf8_DecodeLastRuneInString.j1 k s s.size i) R) : ∀ (d : Nat), i + d < s.size → (∀ e : Nat, 1 ≤ e → e ≤ d → 128 ≤ bt s (i + e) ∧ bt s (i + e) ≤ 191) → Ev (fun k => utf8_DecodeLastRuneInString.l0 k s s.size (i + d) lim) R
  | 0, hd, _ => by
    have c1 : i ≥ lim := by omega
    have c2 : i < (s.size : Int) := by omega
    refine Ev.step (fun k => ?_) hj
    have e : i + ((0 : Nat) : Int) = i := by omega
    simp only [utf8_DecodeLastRuneInString.l0, e, if_pos c1, if_pos hi, if_pos c2, hs, Option.bind_some, if_true]
  | d + 1, hd, hb => by
    have ih := last_loop hn hi hl hs hj d (by omega) (fun e h0 h1 => hb e h0 (by omega))
    have b := hb (d + 1) (by omega) (by omega)
    have c1 : i + ((d + 1 : Nat) : Int) ≥ lim := by omega
    have c2 : i + ((d + 1 : Nat) : Int) < (s.size : Int) := by omega
    have c3 : 0 ≤ i + ((d + 1 : Nat) : Int) := by omega
    have hs : utf8_RuneStart.f (bt s (i + ((d + 1 : Nat) : Int))) = some false := by
      rw [start_at (by omega) (by omega), decide_eq_true b.1, decide_eq_true b.2]; rfl
    have w : wrap64 (i + ((d + 1 : Nat) : Int) - 1) = i + d := by rw [wr (by omega) (by omega)]; omega
    refine Ev.step (fun k => ?_) ih
    simp only [utf8_DecodeLastRuneInString.l0, if_pos c1, if_pos c3, if_pos c2, hs, Option.bind_some, Bool.false_eq_true, if_false, w]
theorem last_ch {s : ByteArray} {p c : List Int} {r : Int} (hn : s.size ≤ 140737488351232) (hc : Ch c r) (h : bytesOf s = p ++ c) : Ev (fun k => utf8_DecodeLastRuneInString.f k s) (r, (c.length : Int)) := by
  have hl := hc.len
  have hz : s.size = p.length + c.length := by rw [← bytesOf_length s, h, List.length_append]
  have hb := bt_split (p := p) (c := c) (q := []) (s := s) (by simpa using h)
  have c1 : ¬ (s.size : Int) = 0 := by omega
  have w1 : wrap64 ((s.size : Int) - 1) = (s.size : Int) - 1 := wr (by omega) (by omega)
  have c2 : 0 ≤ (s.size : Int) - 1 := by omega
  have c3 : (s.size : Int) - 1 < s.size := by omega
  have b0 := bt_lo s ((s.size : Int) - 1)
  have b1 := bt_hi s ((s.size : Int) - 1)
  have w2 : wrap32 (bt s ((s.size : Int) - 1)) = bt s ((s.size : Int) - 1) := wr32 (by omega) (by omega)
  have bl : bt s ((s.size : Int) - 1) = c.getD (c.length - 1) 0 := by
    have := hb (c.length - 1) (by omega)
    rw [← this]
    congr 1
    omega
  rcases hc.parts with ⟨rfl, h0, h1⟩ | ⟨a, t, rfl, h0, h1, ht, hx, h2⟩
  · have e : bt s ((s.size : Int) - 1) = r := by simpa using bl
    have c4 : r < 128 := by omega
    rw [e] at w2
    refine ev_const fun k => ?_
    simp only [utf8_DecodeLastRuneInString.f, if_neg c1, w1, if_pos c2, if_pos c3, e, w2, if_pos c4]
    rfl
  · have hmem : ∀ d : Nat, 1 ≤ d → d < (a :: t).length → 128 ≤ bt s (p.length + d) ∧ bt s (p.length + d) ≤ 191 := by
      intro d h3 h4
      rw [hb d h4]
      obtain ⟨e, rfl⟩ : ∃ e, d = e + 1 := ⟨d - 1, by omega⟩
      have he : e < t.length := by simpa using h4
      have : (a :: t).getD (e + 1) 0 = t[e] := by simp [List.getD_eq_getElem?_getD, he]
      rw [this]
      exact hx _ (List.getElem_mem he)
    have ht1 : 1 ≤ t.length := by
      cases t with
      | nil => exact absurd rfl ht
      | cons => simp
    have hlen : (a :: t).length = t.length + 1 := rfl
    rw [hlen] at hz hl hmem
    have hlast := hmem t.length ht1 (by omega)
    have el : (p.length : Int) + t.length = (s.size : Int) - 1 := by omega
    rw [el] at hlast
    have c4 : ¬ bt s ((s.size : Int) - 1) < 128 := by omega
    have w3 : wrap64 ((s.size : Int) - 1 - 1) = (p.length : Int) + ((t.length - 1 : Nat) : Int) := by rw [wr (by omega) (by omega)]; omega
    have w4 : wrap64 ((s.size : Int) - 4) = (s.size : Int) - 4 := wr (by omega) (by omega)
    have ba : bt s p.length = a := by
      have := hb 0 (by simp)
      simpa using this
    have hs : utf8_RuneStart.f (bt s p.length) = some true := by
      rw [ba, start_at (by omega) (by omega)]
      have : decide (a ≤ 191) = false := decide_eq_false (by omega)
      rw [this, Bool.and_false]; rfl
    have hj : Ev (fun k => utf8_DecodeLastRuneInString.j1 k s s.size p.length) (r, ((a :: t).length : Int)) := by
      have c5 : ¬ (p.length : Int) < 0 := by omega
      have c6 : 0 ≤ (p.length : Int) := by omega
      have c7 : (p.length : Int) ≤ s.size := by omega
      have c8 : (s.size : Int) ≤ s.size := by omega
      have hex : bytesOf (s.extract ((p.length : Int)).toNat ((s.size : Int)).toNat) = (a :: t) ++ [] := by
        rw [bytesOf_extract, Int.toNat_natCast, Int.toNat_natCast, h, ← bytesOf_length s, h, List.take_length, List.drop_left, List.append_nil]
      have hd := dec_ch hc hex
      have w5 : wrap64 ((p.length : Int) + ((a :: t).length : Int)) = s.size := by rw [wr (by omega) (by omega), hlen]; omega
      refine Ev.step (f := fun k => (utf8_DecodeRuneInString.f k (s.extract ((p.length : Int)).toNat ((s.size : Int)).toNat)).bind fun b => if wrap64 ((p.length : Int) + b.2) = s.size then some (b.1, b.2) else some (65533, 1)) (fun k => ?_)
        (Ev.bind (f := fun _ b => if wrap64 ((p.length : Int) + b.2) = s.size then some (b.1, b.2) else some (65533, 1)) hd (ev_const fun _ => if_pos w5))
      simp only [utf8_DecodeLastRuneInString.j1, if_neg c5, if_pos c6, if_pos c7, if_pos c8]
    have hlim : mx ((s.size : Int) - 4) 0 ≤ p.length := by unfold mx; split <;> omega
    have e := last_loop hn (by omega) hlim hs hj (t.length - 1) (by omega) (fun e h3 h4 => hmem e h3 (by omega))
    refine Ev.congr (fun k => ?_) e
    simp only [utf8_DecodeLastRuneInString.f, if_neg c1, w1, if_pos c2, if_pos c3, w2, if_neg c4, w3, w4]
end Go.Proofs.YtfpbbnllaogclaaDoor.J
