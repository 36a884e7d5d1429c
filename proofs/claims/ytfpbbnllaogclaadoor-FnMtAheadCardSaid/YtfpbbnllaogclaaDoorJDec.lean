/- What unicode/utf8's DecodeRuneInString gives: the character that stands first, by the plain reading of UTF-8. -/
import Derived.Test.YtfpbbnllaogclaaDoorJUtf
import Derived.Laws.BitsLemmas
import Derived.Test.YtfpbbnllaogclaaDoorPAx0
import Derived.Test.YtfpbbnllaogclaaDoorPAx1
import Derived.Test.YtfpbbnllaogclaaDoorPAx3
import Derived.Test.YtfpbbnllaogclaaDoorPAx8
import Derived.Test.YtfpbbnllaogclaaDoorPAx9
namespace Go.Proofs.YtfpbbnllaogclaaDoor.J
open Go.RowKit Go.Proofs.YtfpbbnllaogclaaDoor.PA Go.Proofs.YtfpbbnllaogclaaDoorW.PrintWords Go.Proofs.YtfpbbnllaogclaaDoorW.PrintLast
set_option linter.unusedSimpArgs false
set_option linter.unusedVariables false

def tabF : List Int := tabG4
def tabA : List S159 := tabG5
def clsF (c : Int) : Int :=
  if c < 128 then 240 else if c < 194 then 241 else if c < 224 then 2 else if c < 225 then 19 else if c < 237 then 3 else if c < 238 then 35 else if c < 240 then 3 else if c < 241 then 52 else if c < 244 then 4 else if c < 245 then 68 else 241
theorem first_all : ∀ c : Fin 256, tabF.getD c.val 0 = clsF (c.val : Int) := by decide +kernel
theorem first_at {c : Int} (h0 : 0 ≤ c) (h1 : c ≤ 255) : rd tabG4 c = clsF c := by
  have h := first_all ⟨c.toNat, by omega⟩
  simp only [Int.toNat_of_nonneg h0] at h
  exact h
theorem bad_all : ∀ c : Fin 256, Go.bits .or .i32 (Go.bits .andNot .i32 (wrap32 (c.val : Int)) (wrap32 (wrap32 241 * 2147483648) / 2147483648)) (Go.bits .and .i32 65533 (wrap32 (wrap32 241 * 2147483648) / 2147483648)) = 65533 := by decide +kernel
theorem bad_at {c : Int} (h0 : 0 ≤ c) (h1 : c ≤ 255) : Go.bits .or .i32 (Go.bits .andNot .i32 (wrap32 c) (wrap32 (wrap32 241 * 2147483648) / 2147483648)) (Go.bits .and .i32 65533 (wrap32 (wrap32 241 * 2147483648) / 2147483648)) = 65533 := by
  have h := bad_all ⟨c.toNat, by omega⟩
  simp only [Int.toNat_of_nonneg h0] at h
  exact h
theorem wr32 {x : Int} (h0 : -2147483648 ≤ x) (h1 : x ≤ 2147483647) : wrap32 x = x := by unfold wrap32; omega

theorem slow_bad {s : ByteArray} (hs : 0 < s.size) (h0 : 0 ≤ bt s 0) (h1 : bt s 0 ≤ 255) (hx : rd tabG4 (bt s 0) = 241) : Ev (fun k => utf8_decodeRuneInStringSlow.f k s) (65533, 1) := by
  refine ev_const fun k => ?_
  have hb := bad_at h0 h1
  have c1 : ¬ ((s.size : Int) < 1) := by omega
  have c2 : 0 < (s.size : Int) := by omega
  have c3 : bt s 0 < 256 := by omega
  have c4 : (241 : Int) ≥ 240 := by decide
  simp only [utf8_decodeRuneInStringSlow.f, hx, if_neg c1, if_pos c2, if_pos h0, if_pos c3, if_pos c4, hb]
theorem slow_at {s : ByteArray} {x lo hi n : Int} (hs : 0 < s.size) (h0 : 0 ≤ bt s 0) (h1 : bt s 0 ≤ 255) (hx : rd tabG4 (bt s 0) = x) (hge : ¬ x ≥ 240) (hq0 : 0 ≤ x / 16) (hq1 : x / 16 < 16)
    (hsz : wrap64 (Go.bits .and .u8 x 7) = n) (hlo : (rd_T159 tabG5 (x / 16)).f0 = lo) (hhi : (rd_T159 tabG5 (x / 16)).f1 = hi) (hn : 2 ≤ n) :
    ((s.size : Int) < n → Ev (fun k => utf8_decodeRuneInStringSlow.f k s) (65533, 1)) ∧
    (n ≤ (s.size : Int) → ¬ (lo ≤ bt s 1 ∧ bt s 1 ≤ hi) → Ev (fun k => utf8_decodeRuneInStringSlow.f k s) (65533, 1)) ∧
    (n ≤ (s.size : Int) → lo ≤ bt s 1 → bt s 1 ≤ hi → ∀ r, Ev (fun k => utf8_decodeRuneInStringSlow.j0 k s (bt s 0) n (bt s 1) false) r → Ev (fun k => utf8_decodeRuneInStringSlow.f k s) r) := by
  have c1 : ¬ ((s.size : Int) < 1) := by omega
  have c2 : 0 < (s.size : Int) := by omega
  have c3 : bt s 0 < 256 := by omega
  refine ⟨fun c5 => ?_, fun c5 c6 => ?_, fun c5 c6 c7 r h => ?_⟩
  · refine ev_const fun k => ?_
    simp only [utf8_decodeRuneInStringSlow.f, hx, if_neg c1, if_pos c2, if_pos h0, if_pos c3, if_neg hge, if_pos hq0, if_pos hq1, hsz, if_pos c5]
  · have c5' : ¬ ((s.size : Int) < n) := by omega
    have c8 : 1 < (s.size : Int) := by omega
    have e : Ev (fun k => utf8_decodeRuneInStringSlow.j0 k s (bt s 0) n (bt s 1) true) (65533, 1) := ev_one fun k => by simp only [utf8_decodeRuneInStringSlow.j0, if_true]
    refine Ev.congr (fun k => ?_) e
    by_cases c9 : bt s 1 < lo
    · simp only [utf8_decodeRuneInStringSlow.f, hx, if_neg c1, if_pos c2, if_pos h0, if_pos c3, if_neg hge, if_pos hq0, if_pos hq1, hsz, if_neg c5', if_pos c8, hlo, hhi, if_pos c9]
    · have c10 : decide (hi < bt s 1) = true := decide_eq_true (by omega)
      simp only [utf8_decodeRuneInStringSlow.f, hx, if_neg c1, if_pos c2, if_pos h0, if_pos c3, if_neg hge, if_pos hq0, if_pos hq1, hsz, if_neg c5', if_pos c8, hlo, hhi, if_neg c9, c10]
  · have c5' : ¬ ((s.size : Int) < n) := by omega
    have c8 : 1 < (s.size : Int) := by omega
    have c9 : ¬ (bt s 1 < lo) := by omega
    have c10 : decide (hi < bt s 1) = false := decide_eq_false (by omega)
    refine Ev.congr (fun k => ?_) h
    simp only [utf8_decodeRuneInStringSlow.f, hx, if_neg c1, if_pos c2, if_pos h0, if_pos c3, if_neg hge, if_pos hq0, if_pos hq1, hsz, if_neg c5', if_pos c8, hlo, hhi, if_neg c9, c10]
theorem and63 {b : Int} (h0 : 0 ≤ b) (h1 : b ≤ 255) : wrap32 (Go.bits .and .u8 b 63) = b % 64 := by rw [u8_and63 _ h0 (by omega), wr32 (by omega) (by omega)]
theorem or2 {p q : Int} (a0 : 0 ≤ p) (a1 : p < 32) (b0 : 0 ≤ q) (b1 : q < 64) : Go.bits .or .i32 (wrap32 (p * 64)) q = p * 64 + q := by
  rw [wr32 (by omega) (by omega), i32_or6 _ _ (by omega) (by omega) (by omega) (by omega) (by omega)]
theorem or3 {p q r : Int} (a0 : 0 ≤ p) (a1 : p < 16) (b0 : 0 ≤ q) (b1 : q < 64) (c0 : 0 ≤ r) (c1 : r < 64) : Go.bits .or .i32 (Go.bits .or .i32 (wrap32 (p * 4096)) (wrap32 (q * 64))) r = (p * 64 + q) * 64 + r := by
  have e1 : Go.bits .or .i32 (wrap32 (p * 4096)) (wrap32 (q * 64)) = p * 4096 + q * 64 := by
    rw [wr32 (by omega) (by omega), wr32 (by omega) (by omega), i32_or12 _ _ (by omega) (by omega) (by omega) (by omega) (by omega)]
  rw [e1, i32_or6 _ _ (by omega) (by omega) (by omega) (by omega) (by omega)]
  omega
theorem or4 {p q r v : Int} (a0 : 0 ≤ p) (a1 : p < 8) (b0 : 0 ≤ q) (b1 : q < 64) (c0 : 0 ≤ r) (c1 : r < 64) (d0 : 0 ≤ v) (d1 : v < 64) :
    Go.bits .or .i32 (Go.bits .or .i32 (Go.bits .or .i32 (wrap32 (p * 262144)) (wrap32 (q * 4096))) (wrap32 (r * 64))) v = ((p * 64 + q) * 64 + r) * 64 + v := by
  have e1 : Go.bits .or .i32 (wrap32 (p * 262144)) (wrap32 (q * 4096)) = p * 262144 + q * 4096 := by
    rw [wr32 (by omega) (by omega), wr32 (by omega) (by omega), i32_or18 _ _ (by omega) (by omega) (by omega) (by omega) (by omega)]
  have e2 : Go.bits .or .i32 (p * 262144 + q * 4096) (wrap32 (r * 64)) = p * 262144 + q * 4096 + r * 64 := by
    rw [wr32 (by omega) (by omega), i32_or12 _ _ (by omega) (by omega) (by omega) (by omega) (by omega)]
  rw [e1, e2, i32_or6 _ _ (by omega) (by omega) (by omega) (by omega) (by omega)]
  omega
theorem mask63 {b : Int} (h2 : 128 ≤ b) (h3 : b ≤ 191) : wrap32 (Go.bits .and .u8 b 63) = b - 128 := by rw [and63 (by omega) (by omega)]; omega
theorem slow_2 {s : ByteArray} {c b : Int} (h0 : 194 ≤ c) (h1 : c ≤ 223) (h2 : 128 ≤ b) (h3 : b ≤ 191) : Ev (fun k => utf8_decodeRuneInStringSlow.j0 k s c 2 b false) ((c - 192) * 64 + b - 128, 2) := by
  refine ev_one fun k => ?_
  have e1 : wrap32 (Go.bits .and .u8 c 31) = c - 192 := by rw [u8_and31 _ (by omega) (by omega), wr32 (by omega) (by omega)]; omega
  have e3 := or2 (p := c - 192) (q := b - 128) (by omega) (by omega) (by omega) (by omega)
  have e4 : (c - 192) * 64 + (b - 128) = (c - 192) * 64 + b - 128 := by omega
  have c1 : (2 : Int) ≤ 2 := by decide
  simp only [utf8_decodeRuneInStringSlow.j0, Bool.false_eq_true, if_false, if_pos c1, e1, mask63 h2 h3, e3, e4]
theorem j0_more {s : ByteArray} {c b n : Int} (hn : 2 < n) (hs : 2 < (s.size : Int)) :
    (¬ (128 ≤ bt s 2 ∧ bt s 2 ≤ 191) → Ev (fun k => utf8_decodeRuneInStringSlow.j0 k s c n b false) (65533, 1)) ∧
    (128 ≤ bt s 2 → bt s 2 ≤ 191 → ∀ r, Ev (fun k => utf8_decodeRuneInStringSlow.j1 k s c n b (bt s 2) false) r → Ev (fun k => utf8_decodeRuneInStringSlow.j0 k s c n b false) r) := by
  have c1 : ¬ (n ≤ 2) := by omega
  refine ⟨fun h => ?_, fun h0 h1 r h => ?_⟩
  · have e : Ev (fun k => utf8_decodeRuneInStringSlow.j1 k s c n b (bt s 2) true) (65533, 1) := ev_one fun k => by simp only [utf8_decodeRuneInStringSlow.j1, if_true]
    refine Ev.step (fun k => ?_) e
    by_cases c2 : bt s 2 < 128
    · simp only [utf8_decodeRuneInStringSlow.j0, Bool.false_eq_true, if_false, if_neg c1, if_pos hs, if_pos c2]
    · have c3 : decide (191 < bt s 2) = true := decide_eq_true (by omega)
      simp only [utf8_decodeRuneInStringSlow.j0, Bool.false_eq_true, if_false, if_neg c1, if_pos hs, if_neg c2, c3]
  · have c2 : ¬ (bt s 2 < 128) := by omega
    have c3 : decide (191 < bt s 2) = false := decide_eq_false (by omega)
    refine Ev.step (fun k => ?_) h
    simp only [utf8_decodeRuneInStringSlow.j0, Bool.false_eq_true, if_false, if_neg c1, if_pos hs, if_neg c2, c3]
theorem slow_3 {s : ByteArray} {c b d : Int} (h0 : 224 ≤ c) (h1 : c ≤ 239) (h2 : 128 ≤ b) (h3 : b ≤ 191) (h4 : 128 ≤ d) (h5 : d ≤ 191) : Ev (fun k => utf8_decodeRuneInStringSlow.j1 k s c 3 b d false) (((c - 224) * 64 + b - 128) * 64 + d - 128, 3) := by
  refine ev_one fun k => ?_
  have e1 : wrap32 (Go.bits .and .u8 c 15) = c - 224 := by rw [u8_and15 _ (by omega) (by omega), wr32 (by omega) (by omega)]; omega
  have e3 := or3 (p := c - 224) (q := b - 128) (r := d - 128) (by omega) (by omega) (by omega) (by omega) (by omega) (by omega)
  have e4 : ((c - 224) * 64 + (b - 128)) * 64 + (d - 128) = ((c - 224) * 64 + b - 128) * 64 + d - 128 := by omega
  have c1 : (3 : Int) ≤ 3 := by decide
  simp only [utf8_decodeRuneInStringSlow.j1, Bool.false_eq_true, if_false, if_pos c1, e1, mask63 h2 h3, mask63 h4 h5, e3, e4]
theorem slow_4 {s : ByteArray} {c b d : Int} (hs : 3 < (s.size : Int)) (h0 : 240 ≤ c) (h1 : c ≤ 244) (h2 : 128 ≤ b) (h3 : b ≤ 191) (h4 : 128 ≤ d) (h5 : d ≤ 191) :
    (¬ (128 ≤ bt s 3 ∧ bt s 3 ≤ 191) → Ev (fun k => utf8_decodeRuneInStringSlow.j1 k s c 4 b d false) (65533, 1)) ∧
    (128 ≤ bt s 3 → bt s 3 ≤ 191 → Ev (fun k => utf8_decodeRuneInStringSlow.j1 k s c 4 b d false) ((((c - 240) * 64 + b - 128) * 64 + d - 128) * 64 + bt s 3 - 128, 4)) := by
  have c1 : ¬ ((4 : Int) ≤ 3) := by decide
  refine ⟨fun h => ?_, fun h6 h7 => ?_⟩
  · refine ev_one fun k => ?_
    by_cases c2 : bt s 3 < 128
    · simp only [utf8_decodeRuneInStringSlow.j1, Bool.false_eq_true, if_false, if_neg c1, if_pos hs, if_pos c2]
    · have c3 : 191 < bt s 3 := by omega
      simp only [utf8_decodeRuneInStringSlow.j1, Bool.false_eq_true, if_false, if_neg c1, if_pos hs, if_neg c2, if_pos c3]
  · refine ev_one fun k => ?_
    have c2 : ¬ (bt s 3 < 128) := by omega
    have c3 : ¬ (191 < bt s 3) := by omega
    have e1 : wrap32 (Go.bits .and .u8 c 7) = c - 240 := by rw [u8_and7 _ (by omega) (by omega), wr32 (by omega) (by omega)]; omega
    have e3 := or4 (p := c - 240) (q := b - 128) (r := d - 128) (v := bt s 3 - 128) (by omega) (by omega) (by omega) (by omega) (by omega) (by omega) (by omega) (by omega)
    have e4 : (((c - 240) * 64 + (b - 128)) * 64 + (d - 128)) * 64 + (bt s 3 - 128) = (((c - 240) * 64 + b - 128) * 64 + d - 128) * 64 + bt s 3 - 128 := by omega
    simp only [utf8_decodeRuneInStringSlow.j1, Bool.false_eq_true, if_false, if_neg c1, if_pos hs, if_neg c2, if_neg c3, e1, mask63 h2 h3, mask63 h4 h5, mask63 h6 h7, e3, e4]
/-- What it gives: the character and its bytes, or U+FFFD and 1. -/
def dec (s : ByteArray) : Int × Int := match chr s 0 with | some p => p | none => (65533, 1)
theorem dec_none {s : ByteArray} (h : chr s 0 = none) : dec s = (65533, 1) := by unfold dec; rw [h]
theorem dec_some {s : ByteArray} {p : Int × Int} (h : chr s 0 = some p) : dec s = p := by unfold dec; rw [h]
theorem rows_of (x : Int) (h : x = 2 ∨ x = 19 ∨ x = 3 ∨ x = 35 ∨ x = 52 ∨ x = 4 ∨ x = 68) : ¬ x ≥ 240 ∧ 0 ≤ x / 16 ∧ x / 16 < 16 := by omega
theorem chr_2 {s : ByteArray} (h0 : 194 ≤ bt s 0) (h1 : bt s 0 ≤ 223) : chr s 0 = multi s 0 (bt s 0 - 192) 1 128 := by
  unfold chr; rw [if_neg (by omega), if_pos ⟨h0, h1⟩]
theorem chr_3 {s : ByteArray} (h0 : 224 ≤ bt s 0) (h1 : bt s 0 ≤ 239) : chr s 0 = multi s 0 (bt s 0 - 224) 2 2048 := by
  unfold chr; rw [if_neg (by omega), if_neg (by omega), if_pos ⟨h0, h1⟩]
theorem chr_4 {s : ByteArray} (h0 : 240 ≤ bt s 0) (h1 : bt s 0 ≤ 244) : chr s 0 = multi s 0 (bt s 0 - 240) 3 65536 := by
  unfold chr; rw [if_neg (by omega), if_neg (by omega), if_neg (by omega), if_pos ⟨h0, h1⟩]
theorem chr_bad {s : ByteArray} (h : 128 ≤ bt s 0 ∧ bt s 0 ≤ 193 ∨ 245 ≤ bt s 0) : chr s 0 = none := by
  unfold chr; rw [if_neg (by omega), if_neg (by omega), if_neg (by omega), if_neg (by omega)]
theorem conts_1 {s : ByteArray} {p a : Int} : conts s 1 p a = if 128 ≤ bt s p ∧ bt s p ≤ 191 then some (a * 64 + bt s p - 128) else none := rfl
theorem conts_succ {s : ByteArray} {n : Nat} {p a : Int} : conts s (n + 1) p a = if 128 ≤ bt s p ∧ bt s p ≤ 191 then conts s n (p + 1) (a * 64 + bt s p - 128) else none := rfl
theorem multi_short {s : ByteArray} {a m : Int} {n : Nat} (h : (s.size : Int) ≤ n) : multi s 0 a n m = none := by unfold multi; rw [if_pos (by omega)]
theorem multi_none {s : ByteArray} {a m : Int} {n : Nat} (h : conts s n 1 a = none) : multi s 0 a n m = none := by
  unfold multi; split
  · rfl
  · rw [show (0 : Int) + 1 = 1 from rfl, h]
theorem multi_some {s : ByteArray} {a m r : Int} {n : Nat} (hs : (n : Int) < s.size) (h : conts s n 1 a = some r) : multi s 0 a n m = if r < m ∨ r > 1114111 ∨ (55296 ≤ r ∧ r ≤ 57343) then none else some (r, (n : Int) + 1) := by
  unfold multi; rw [if_neg (by omega), show (0 : Int) + 1 = 1 from rfl, h]
theorem slow_ev {s : ByteArray} (hs : 0 < s.size) (hb : 128 ≤ bt s 0) : Ev (fun k => utf8_decodeRuneInStringSlow.f k s) (dec s) := by
  have h0 := bt_lo s 0
  have h1 := bt_hi s 0
  have hf := first_at h0 h1
  by_cases cb : bt s 0 ≤ 193 ∨ 245 ≤ bt s 0
  · rw [dec_none (chr_bad (by omega))]
    refine slow_bad hs h0 h1 (hf.trans ?_)
    unfold clsF
    split
    · omega
    · split
      · rfl
      · repeat (split; · omega)
        rfl
  by_cases c2 : bt s 0 ≤ 223
  · have hx : rd tabG4 (bt s 0) = 2 := hf.trans (by unfold clsF; rw [if_neg (by omega), if_neg (by omega), if_pos (by omega)])
    obtain ⟨g1, g2, g3⟩ := rows_of 2 (by omega)
    obtain ⟨a1, a2, a3⟩ := slow_at (n := 2) (lo := 128) (hi := 191) hs h0 h1 hx g1 g2 g3 (by decide +kernel) rfl rfl (by omega)
    have hc := chr_2 (s := s) (by omega) c2
    by_cases k1 : (s.size : Int) < 2
    · rw [dec_none (hc.trans (multi_short (by omega)))]; exact a1 k1
    · by_cases k2 : 128 ≤ bt s 1 ∧ bt s 1 ≤ 191
      · rw [dec_some (p := ((bt s 0 - 192) * 64 + bt s 1 - 128, 2)) (hc.trans ((multi_some (by omega) (conts_1.trans (if_pos k2))).trans (if_neg (by omega))))]
        exact a3 (by omega) k2.1 k2.2 _ (slow_2 (by omega) (by omega) k2.1 k2.2)
      · rw [dec_none (hc.trans (multi_none (conts_1.trans (if_neg k2))))]
        exact a2 (by omega) k2
  by_cases c3 : bt s 0 ≤ 239
  · have hc := chr_3 (s := s) (by omega) c3
    obtain ⟨x, lo, hi, hx, hxr, hsz, hlo, hhi, hrel⟩ : ∃ x lo hi, rd tabG4 (bt s 0) = x ∧ (x = 2 ∨ x = 19 ∨ x = 3 ∨ x = 35 ∨ x = 52 ∨ x = 4 ∨ x = 68) ∧ wrap64 (Go.bits .and .u8 x 7) = 3 ∧
        (rd_T159 tabG5 (x / 16)).f0 = lo ∧ (rd_T159 tabG5 (x / 16)).f1 = hi ∧ (bt s 0 = 224 ∧ lo = 160 ∧ hi = 191 ∨ bt s 0 = 237 ∧ lo = 128 ∧ hi = 159 ∨ bt s 0 ≠ 224 ∧ bt s 0 ≠ 237 ∧ lo = 128 ∧ hi = 191) := by
      by_cases d1 : bt s 0 = 224
      · exact ⟨19, 160, 191, hf.trans (by rw [d1]; rfl), by omega, by decide +kernel, rfl, rfl, by omega⟩
      by_cases d2 : bt s 0 = 237
      · exact ⟨35, 128, 159, hf.trans (by rw [d2]; rfl), by omega, by decide +kernel, rfl, rfl, by omega⟩
      refine ⟨3, 128, 191, hf.trans ?_, by omega, by decide +kernel, rfl, rfl, by omega⟩
      unfold clsF
      rw [if_neg (by omega), if_neg (by omega), if_neg (by omega), if_neg (by omega)]
      by_cases d3 : bt s 0 < 237
      · rw [if_pos d3]
      · rw [if_neg d3, if_neg (by omega), if_pos (by omega)]
    obtain ⟨g1, g2, g3⟩ := rows_of x hxr
    obtain ⟨a1, a2, a3⟩ := slow_at hs h0 h1 hx g1 g2 g3 hsz hlo hhi (by omega)
    by_cases k1 : (s.size : Int) < 3
    · rw [dec_none (hc.trans (multi_short (by omega)))]; exact a1 k1
    by_cases k2 : 128 ≤ bt s 1 ∧ bt s 1 ≤ 191
    · by_cases k3 : 128 ≤ bt s 2 ∧ bt s 2 ≤ 191
      · have hm := multi_some (s := s) (a := bt s 0 - 224) (m := 2048) (n := 2) (by omega) (conts_succ.trans ((if_pos k2).trans (conts_1.trans (if_pos k3))))
        by_cases k4 : lo ≤ bt s 1 ∧ bt s 1 ≤ hi
        · rw [dec_some (p := (((bt s 0 - 224) * 64 + bt s 1 - 128) * 64 + bt s 2 - 128, 3)) (hc.trans (hm.trans (if_neg (by show ¬ (((bt s 0 - 224) * 64 + bt s 1 - 128) * 64 + bt s 2 - 128 < 2048 ∨ ((bt s 0 - 224) * 64 + bt s 1 - 128) * 64 + bt s 2 - 128 > 1114111 ∨ (55296 ≤ ((bt s 0 - 224) * 64 + bt s 1 - 128) * 64 + bt s 2 - 128 ∧ ((bt s 0 - 224) * 64 + bt s 1 - 128) * 64 + bt s 2 - 128 ≤ 57343)); omega))))]
          exact a3 (by omega) k4.1 k4.2 _ ((j0_more (by omega) (by omega)).2 k3.1 k3.2 _ (slow_3 (by omega) (by omega) k2.1 k2.2 k3.1 k3.2))
        · rw [dec_none (hc.trans (hm.trans (if_pos (by show (((bt s 0 - 224) * 64 + bt s 1 - 128) * 64 + bt s 2 - 128 < 2048 ∨ ((bt s 0 - 224) * 64 + bt s 1 - 128) * 64 + bt s 2 - 128 > 1114111 ∨ (55296 ≤ ((bt s 0 - 224) * 64 + bt s 1 - 128) * 64 + bt s 2 - 128 ∧ ((bt s 0 - 224) * 64 + bt s 1 - 128) * 64 + bt s 2 - 128 ≤ 57343)); omega))))]
          exact a2 (by omega) k4
      · rw [dec_none (hc.trans (multi_none (conts_succ.trans ((if_pos k2).trans (conts_1.trans (if_neg k3))))))]
        by_cases k4 : lo ≤ bt s 1 ∧ bt s 1 ≤ hi
        · exact a3 (by omega) k4.1 k4.2 _ ((j0_more (by omega) (by omega)).1 k3)
        · exact a2 (by omega) k4
    · rw [dec_none (hc.trans (multi_none (conts_succ.trans (if_neg k2))))]
      exact a2 (by omega) (by omega)
  · have hc := chr_4 (s := s) (by omega) (by omega)
    obtain ⟨x, lo, hi, hx, hxr, hsz, hlo, hhi, hrel⟩ : ∃ x lo hi, rd tabG4 (bt s 0) = x ∧ (x = 2 ∨ x = 19 ∨ x = 3 ∨ x = 35 ∨ x = 52 ∨ x = 4 ∨ x = 68) ∧ wrap64 (Go.bits .and .u8 x 7) = 4 ∧
        (rd_T159 tabG5 (x / 16)).f0 = lo ∧ (rd_T159 tabG5 (x / 16)).f1 = hi ∧ (bt s 0 = 240 ∧ lo = 144 ∧ hi = 191 ∨ bt s 0 = 244 ∧ lo = 128 ∧ hi = 143 ∨ bt s 0 ≠ 240 ∧ bt s 0 ≠ 244 ∧ lo = 128 ∧ hi = 191) := by
      by_cases d1 : bt s 0 = 240
      · exact ⟨52, 144, 191, hf.trans (by rw [d1]; rfl), by omega, by decide +kernel, rfl, rfl, by omega⟩
      by_cases d2 : bt s 0 = 244
      · exact ⟨68, 128, 143, hf.trans (by rw [d2]; rfl), by omega, by decide +kernel, rfl, rfl, by omega⟩
      refine ⟨4, 128, 191, hf.trans ?_, by omega, by decide +kernel, rfl, rfl, by omega⟩
      unfold clsF
      rw [if_neg (by omega), if_neg (by omega), if_neg (by omega), if_neg (by omega), if_neg (by omega), if_neg (by omega), if_neg (by omega), if_neg (by omega), if_pos (by omega)]
    obtain ⟨g1, g2, g3⟩ := rows_of x hxr
    obtain ⟨a1, a2, a3⟩ := slow_at hs h0 h1 hx g1 g2 g3 hsz hlo hhi (by omega)
    by_cases k1 : (s.size : Int) < 4
    · rw [dec_none (hc.trans (multi_short (by omega)))]; exact a1 k1
    by_cases k2 : 128 ≤ bt s 1 ∧ bt s 1 ≤ 191
    · by_cases k3 : 128 ≤ bt s 2 ∧ bt s 2 ≤ 191
      · by_cases k5 : 128 ≤ bt s 3 ∧ bt s 3 ≤ 191
        · have hm := multi_some (s := s) (a := bt s 0 - 240) (m := 65536) (n := 3) (by omega) (conts_succ.trans ((if_pos k2).trans (conts_succ.trans ((if_pos k3).trans (conts_1.trans (if_pos k5))))))
          by_cases k4 : lo ≤ bt s 1 ∧ bt s 1 ≤ hi
          · rw [dec_some (p := ((((bt s 0 - 240) * 64 + bt s 1 - 128) * 64 + bt s 2 - 128) * 64 + bt s 3 - 128, 4)) (hc.trans (hm.trans (if_neg (by show ¬ ((((bt s 0 - 240) * 64 + bt s 1 - 128) * 64 + bt s 2 - 128) * 64 + bt s 3 - 128 < 65536 ∨ (((bt s 0 - 240) * 64 + bt s 1 - 128) * 64 + bt s 2 - 128) * 64 + bt s 3 - 128 > 1114111 ∨ (55296 ≤ (((bt s 0 - 240) * 64 + bt s 1 - 128) * 64 + bt s 2 - 128) * 64 + bt s 3 - 128 ∧ (((bt s 0 - 240) * 64 + bt s 1 - 128) * 64 + bt s 2 - 128) * 64 + bt s 3 - 128 ≤ 57343)); omega))))]
            exact a3 (by omega) k4.1 k4.2 _ ((j0_more (by omega) (by omega)).2 k3.1 k3.2 _ ((slow_4 (by omega) (by omega) (by omega) k2.1 k2.2 k3.1 k3.2).2 k5.1 k5.2))
          · rw [dec_none (hc.trans (hm.trans (if_pos (by show ((((bt s 0 - 240) * 64 + bt s 1 - 128) * 64 + bt s 2 - 128) * 64 + bt s 3 - 128 < 65536 ∨ (((bt s 0 - 240) * 64 + bt s 1 - 128) * 64 + bt s 2 - 128) * 64 + bt s 3 - 128 > 1114111 ∨ (55296 ≤ (((bt s 0 - 240) * 64 + bt s 1 - 128) * 64 + bt s 2 - 128) * 64 + bt s 3 - 128 ∧ (((bt s 0 - 240) * 64 + bt s 1 - 128) * 64 + bt s 2 - 128) * 64 + bt s 3 - 128 ≤ 57343)); omega))))]
            exact a2 (by omega) k4
        · rw [dec_none (hc.trans (multi_none (conts_succ.trans ((if_pos k2).trans (conts_succ.trans ((if_pos k3).trans (conts_1.trans (if_neg k5))))))))]
          by_cases k4 : lo ≤ bt s 1 ∧ bt s 1 ≤ hi
          · exact a3 (by omega) k4.1 k4.2 _ ((j0_more (by omega) (by omega)).2 k3.1 k3.2 _ ((slow_4 (by omega) (by omega) (by omega) k2.1 k2.2 k3.1 k3.2).1 k5))
          · exact a2 (by omega) k4
      · rw [dec_none (hc.trans (multi_none (conts_succ.trans ((if_pos k2).trans (conts_succ.trans (if_neg k3))))))]
        by_cases k4 : lo ≤ bt s 1 ∧ bt s 1 ≤ hi
        · exact a3 (by omega) k4.1 k4.2 _ ((j0_more (by omega) (by omega)).1 k3)
        · exact a2 (by omega) k4
    · rw [dec_none (hc.trans (multi_none (conts_succ.trans (if_neg k2))))]
      exact a2 (by omega) (by omega)
theorem toList_nil {s : ByteArray} : s.toList = ([] : List UInt8) ↔ s.size = 0 := by
  rw [Go.ByteArray.toList_eq]
  constructor
  · intro h
    have : s.data.toList.length = 0 := by rw [h]; rfl
    simpa using this
  · intro h
    exact List.eq_nil_of_length_eq_zero (by simpa using h)
theorem dec_ev {s : ByteArray} (hs : 0 < s.size) : Ev (fun k => utf8_DecodeRuneInString.f k s) (dec s) := by
  have c0 : ¬ (s.toList = ([] : List UInt8)) := fun h => by rw [toList_nil] at h; omega
  have c1 : 0 < (s.size : Int) := by omega
  have h0 := bt_lo s 0
  by_cases c2 : bt s 0 < 128
  · refine ev_const fun k => ?_
    have hd : dec s = (bt s 0, 1) := dec_some (by unfold chr; rw [if_pos c2])
    rw [hd]
    simp only [utf8_DecodeRuneInString.f, if_neg c0, if_pos c1, if_pos c2, wr32 (show -2147483648 ≤ bt s 0 by omega) (by omega)]
  · refine Ev.congr (f := fun k => (utf8_decodeRuneInStringSlow.f k s).bind fun b => some (b.1, b.2)) (fun k => ?_) (Ev.bind (f := fun _ b => some (b.1, b.2)) (slow_ev hs (by omega)) (ev_const fun _ => rfl))
    simp only [utf8_DecodeRuneInString.f, if_neg c0, if_pos c1, if_neg c2]
/-! the reading at another place of another text -/
theorem chr_congr {s t : ByteArray} {i j : Int} (h : ∀ d : Int, 0 ≤ d → d < 4 → bt s (i + d) = bt t (j + d)) (hz : (s.size : Int) - i = (t.size : Int) - j) : chr s i = chr t j := by
  have b0 := h 0 (by omega) (by omega)
  simp only [Int.add_zero] at b0
  have key : ∀ (m : Nat) (a lo : Int), m ≤ 3 → multi s i a m lo = multi t j a m lo := by
    intro m a lo hm
    have hc : ∀ (k : Nat) (p : Int) (a : Int), p + k ≤ 4 → 0 ≤ p → conts s k (i + p) a = conts t k (j + p) a := by
      intro k
      induction k with
      | zero => intro p a _ _; rfl
      | succ k ih =>
        intro p a hp hp0
        rw [conts_succ, conts_succ, h p hp0 (by omega), Int.add_assoc, Int.add_assoc, ih (p + 1) _ (by omega) (by omega)]
    unfold multi
    rw [hc m 1 a (by omega) (by omega), hz]
  unfold chr
  rw [b0, key 1 _ _ (by omega), key 2 _ _ (by omega), key 3 _ _ (by omega)]
/-- Where a character stands, its bytes alone tell. -/
theorem chr_local {s t : ByteArray} {i j r n : Int} (hi : i < s.size) (h : chr s i = some (r, n)) (hb : ∀ d : Int, 0 ≤ d → d < n → bt t (j + d) = bt s (i + d)) (hz : j + n ≤ t.size) : chr t j = some (r, n) := by
  have hl := chr_len hi h
  have b0 := hb 0 (by omega) (by omega)
  simp only [Int.add_zero] at b0
  have key : ∀ (m : Nat) (a lo : Int), multi s i a m lo = some (r, n) → multi t j a m lo = some (r, n) := by
    intro m a lo hm
    have hl2 := multi_len hm
    have hc : ∀ (k : Nat) (p : Int) (a : Int), p + k ≤ n → 0 ≤ p → conts t k (j + p) a = conts s k (i + p) a := by
      intro k
      induction k with
      | zero => intro p a _ _; rfl
      | succ k ih =>
        intro p a hp hp0
        rw [conts_succ, conts_succ, hb p hp0 (by omega), Int.add_assoc, Int.add_assoc, ih (p + 1) _ (by omega) (by omega)]
    unfold multi at hm ⊢
    rw [if_neg (by omega)] at hm
    rw [if_neg (by omega), hc m 1 a (by omega) (by omega)]
    exact hm
  unfold chr at h ⊢
  rw [b0]
  split at h
  · rename_i c; rw [if_pos c]; exact h
  · rename_i c; rw [if_neg c]
    split at h
    · rename_i c; rw [if_pos c]; exact key _ _ _ h
    · rename_i c; rw [if_neg c]
      split at h
      · rename_i c; rw [if_pos c]; exact key _ _ _ h
      · rename_i c; rw [if_neg c]
        split at h
        · rename_i c; rw [if_pos c]; exact key _ _ _ h
        · cases h
theorem bt_ext {s : ByteArray} {i j d : Int} (h0 : 0 ≤ i) (h1 : i + d < j) (hj : j ≤ s.size) (hd : 0 ≤ d) : bt (s.extract i.toNat j.toNat) d = bt s (i + d) := by
  unfold bt
  have hz : (s.extract i.toNat j.toNat).size = min j.toNat s.size - i.toNat := ByteArray.size_extract
  rw [dif_pos (by rw [hz]; omega), dif_pos (by omega)]
  have : (s.extract i.toNat j.toNat)[d.toNat]'(by rw [hz]; omega) = s[(i + d).toNat]'(by omega) := by
    rw [ByteArray.getElem_extract]
    congr 1
    omega
  rw [this]
theorem size_ext {s : ByteArray} {i j : Int} (h0 : 0 ≤ i) (h1 : i ≤ j) (hj : j ≤ s.size) : ((s.extract i.toNat j.toNat).size : Int) = j - i := by
  have hz : (s.extract i.toNat j.toNat).size = min j.toNat s.size - i.toNat := ByteArray.size_extract
  rw [hz]; omega
theorem chr_tail {s : ByteArray} {i r n : Int} (h0 : 0 ≤ i) (hi : i < s.size) (h : chr s i = some (r, n)) : chr (s.extract i.toNat s.size) 0 = some (r, n) := by
  have hl := chr_len hi h
  have hz := size_ext (s := s) (j := s.size) h0 (by omega) (by omega)
  rw [Int.toNat_natCast] at hz
  refine chr_local hi h (fun d d0 d1 => ?_) (by omega)
  have := bt_ext (s := s) (i := i) (j := s.size) (d := d) h0 (by omega) (by omega) d0
  rw [Int.toNat_natCast] at this
  rw [Int.zero_add]
  exact this
end Go.Proofs.YtfpbbnllaogclaaDoor.J
