/- The contract of unicode/utf8's EncodeRune, at every rune, where there is room for its bytes (after the shelf's texts). -/
import Derived.Test.YtfpbbnllaogclaaDoorChecked
import Derived.Test.YtfpbbnllaogclaaDoorWMine
import Derived.Shelf.Strings.BuilderK
import Derived.Lib.RuneBytes
import Derived.Laws.IdiomCopy
import Derived.WalkKit
import Derived.WalkLawsBesides
set_option linter.unusedVariables false
namespace Go.Proofs.YtfpbbnllaogclaaDoor.H
open Go.RowKit


set_option maxHeartbeats 4000000 in
set_option maxRecDepth 100000 in
theorem encMany_two (b off len cap : Nat) (r : Int) (h0 : 128 ≤ r) (h1 : r ≤ 2047) (w : World) (hl : 2 ≤ len)
    (hc : ∀ j, j < 2 → (w.cell? ⟨b, off + j, none⟩).isSome = true) (hf : ∀ j, j < 2 → w.frozen? ⟨b, off + j, none⟩ = false) :
    Calls Tryd.prog 112 #[.slice (some ⟨b, off, none⟩) len cap, .int .i32 r] w fun e w' => e = .returned (.int .i64 2) ∧ w' = w.setCells b off [.int .u8 (192 + r / 64), .int .u8 (128 + r % 64)] := by
  obtain ⟨c0, hc0⟩ := Option.isSome_iff_exists.1 (hc 0 (by omega)); have hf0 := hf 0 (by omega)
  obtain ⟨c1, hc1⟩ := Option.isSome_iff_exists.1 (hc 1 (by omega)); have hf1 := hf 1 (by omega)
  simp only [Nat.add_zero] at hc0 hf0
  clear hc hf
  go_enter Tryd.func112, Tryd.ntmps112
  go_wp2
  go_ret
  exact ⟨rfl, rfl⟩

set_option maxHeartbeats 4000000 in
set_option maxRecDepth 100000 in
theorem encMany_three_lo (b off len cap : Nat) (r : Int) (h0 : 2048 ≤ r) (h1 : r < 55296) (w : World) (hl : 3 ≤ len)
    (hc : ∀ j, j < 3 → (w.cell? ⟨b, off + j, none⟩).isSome = true) (hf : ∀ j, j < 3 → w.frozen? ⟨b, off + j, none⟩ = false) :
    Calls Tryd.prog 112 #[.slice (some ⟨b, off, none⟩) len cap, .int .i32 r] w fun e w' => e = .returned (.int .i64 3) ∧ w' = w.setCells b off [.int .u8 (224 + r / 4096), .int .u8 (128 + r / 64 % 64), .int .u8 (128 + r % 64)] := by
  obtain ⟨c0, hc0⟩ := Option.isSome_iff_exists.1 (hc 0 (by omega)); have hf0 := hf 0 (by omega)
  obtain ⟨c1, hc1⟩ := Option.isSome_iff_exists.1 (hc 1 (by omega)); have hf1 := hf 1 (by omega)
  obtain ⟨c2, hc2⟩ := Option.isSome_iff_exists.1 (hc 2 (by omega)); have hf2 := hf 2 (by omega)
  simp only [Nat.add_zero] at hc0 hf0
  clear hc hf
  go_enter Tryd.func112, Tryd.ntmps112
  go_wp2
  go_ret
  exact ⟨rfl, rfl⟩

set_option maxHeartbeats 4000000 in
set_option maxRecDepth 100000 in
theorem encMany_three_hi (b off len cap : Nat) (r : Int) (h0 : 57343 < r) (h1 : r ≤ 65535) (w : World) (hl : 3 ≤ len)
    (hc : ∀ j, j < 3 → (w.cell? ⟨b, off + j, none⟩).isSome = true) (hf : ∀ j, j < 3 → w.frozen? ⟨b, off + j, none⟩ = false) :
    Calls Tryd.prog 112 #[.slice (some ⟨b, off, none⟩) len cap, .int .i32 r] w fun e w' => e = .returned (.int .i64 3) ∧ w' = w.setCells b off [.int .u8 (224 + r / 4096), .int .u8 (128 + r / 64 % 64), .int .u8 (128 + r % 64)] := by
  obtain ⟨c0, hc0⟩ := Option.isSome_iff_exists.1 (hc 0 (by omega)); have hf0 := hf 0 (by omega)
  obtain ⟨c1, hc1⟩ := Option.isSome_iff_exists.1 (hc 1 (by omega)); have hf1 := hf 1 (by omega)
  obtain ⟨c2, hc2⟩ := Option.isSome_iff_exists.1 (hc 2 (by omega)); have hf2 := hf 2 (by omega)
  simp only [Nat.add_zero] at hc0 hf0
  clear hc hf
  go_enter Tryd.func112, Tryd.ntmps112
  go_wp2
  go_ret
  exact ⟨rfl, rfl⟩

set_option maxHeartbeats 4000000 in
set_option maxRecDepth 100000 in
theorem encMany_four (b off len cap : Nat) (r : Int) (h0 : 65536 ≤ r) (h1 : r ≤ 1114111) (w : World) (hl : 4 ≤ len)
    (hc : ∀ j, j < 4 → (w.cell? ⟨b, off + j, none⟩).isSome = true) (hf : ∀ j, j < 4 → w.frozen? ⟨b, off + j, none⟩ = false) :
    Calls Tryd.prog 112 #[.slice (some ⟨b, off, none⟩) len cap, .int .i32 r] w fun e w' => e = .returned (.int .i64 4) ∧ w' = w.setCells b off [.int .u8 (240 + r / 262144), .int .u8 (128 + r / 4096 % 64), .int .u8 (128 + r / 64 % 64), .int .u8 (128 + r % 64)] := by
  obtain ⟨c0, hc0⟩ := Option.isSome_iff_exists.1 (hc 0 (by omega)); have hf0 := hf 0 (by omega)
  obtain ⟨c1, hc1⟩ := Option.isSome_iff_exists.1 (hc 1 (by omega)); have hf1 := hf 1 (by omega)
  obtain ⟨c2, hc2⟩ := Option.isSome_iff_exists.1 (hc 2 (by omega)); have hf2 := hf 2 (by omega)
  obtain ⟨c3, hc3⟩ := Option.isSome_iff_exists.1 (hc 3 (by omega)); have hf3 := hf 3 (by omega)
  simp only [Nat.add_zero] at hc0 hf0
  clear hc hf
  go_enter Tryd.func112, Tryd.ntmps112
  go_wp2
  go_ret
  exact ⟨rfl, rfl⟩

set_option maxHeartbeats 4000000 in
set_option maxRecDepth 100000 in
theorem encMany_neg (b off len cap : Nat) (r : Int) (h0 : -2147483648 ≤ r) (h1 : r < 0) (w : World) (hl : 3 ≤ len)
    (hc : ∀ j, j < 3 → (w.cell? ⟨b, off + j, none⟩).isSome = true) (hf : ∀ j, j < 3 → w.frozen? ⟨b, off + j, none⟩ = false) :
    Calls Tryd.prog 112 #[.slice (some ⟨b, off, none⟩) len cap, .int .i32 r] w fun e w' => e = .returned (.int .i64 3) ∧ w' = w.setCells b off [.int .u8 (239), .int .u8 (191), .int .u8 (189)] := by
  obtain ⟨c0, hc0⟩ := Option.isSome_iff_exists.1 (hc 0 (by omega)); have hf0 := hf 0 (by omega)
  obtain ⟨c1, hc1⟩ := Option.isSome_iff_exists.1 (hc 1 (by omega)); have hf1 := hf 1 (by omega)
  obtain ⟨c2, hc2⟩ := Option.isSome_iff_exists.1 (hc 2 (by omega)); have hf2 := hf 2 (by omega)
  simp only [Nat.add_zero] at hc0 hf0
  clear hc hf
  go_enter Tryd.func112, Tryd.ntmps112
  go_wp2
  go_ret
  exact ⟨rfl, rfl⟩

set_option maxHeartbeats 4000000 in
set_option maxRecDepth 100000 in
theorem encMany_surrogate (b off len cap : Nat) (r : Int) (h0 : 55296 ≤ r) (h1 : r ≤ 57343) (w : World) (hl : 3 ≤ len)
    (hc : ∀ j, j < 3 → (w.cell? ⟨b, off + j, none⟩).isSome = true) (hf : ∀ j, j < 3 → w.frozen? ⟨b, off + j, none⟩ = false) :
    Calls Tryd.prog 112 #[.slice (some ⟨b, off, none⟩) len cap, .int .i32 r] w fun e w' => e = .returned (.int .i64 3) ∧ w' = w.setCells b off [.int .u8 (239), .int .u8 (191), .int .u8 (189)] := by
  obtain ⟨c0, hc0⟩ := Option.isSome_iff_exists.1 (hc 0 (by omega)); have hf0 := hf 0 (by omega)
  obtain ⟨c1, hc1⟩ := Option.isSome_iff_exists.1 (hc 1 (by omega)); have hf1 := hf 1 (by omega)
  obtain ⟨c2, hc2⟩ := Option.isSome_iff_exists.1 (hc 2 (by omega)); have hf2 := hf 2 (by omega)
  simp only [Nat.add_zero] at hc0 hf0
  clear hc hf
  go_enter Tryd.func112, Tryd.ntmps112
  go_wp2
  go_ret
  exact ⟨rfl, rfl⟩

set_option maxHeartbeats 4000000 in
set_option maxRecDepth 100000 in
theorem encMany_big (b off len cap : Nat) (r : Int) (h0 : 1114111 < r) (h1 : r ≤ 2147483647) (w : World) (hl : 3 ≤ len)
    (hc : ∀ j, j < 3 → (w.cell? ⟨b, off + j, none⟩).isSome = true) (hf : ∀ j, j < 3 → w.frozen? ⟨b, off + j, none⟩ = false) :
    Calls Tryd.prog 112 #[.slice (some ⟨b, off, none⟩) len cap, .int .i32 r] w fun e w' => e = .returned (.int .i64 3) ∧ w' = w.setCells b off [.int .u8 (239), .int .u8 (191), .int .u8 (189)] := by
  obtain ⟨c0, hc0⟩ := Option.isSome_iff_exists.1 (hc 0 (by omega)); have hf0 := hf 0 (by omega)
  obtain ⟨c1, hc1⟩ := Option.isSome_iff_exists.1 (hc 1 (by omega)); have hf1 := hf 1 (by omega)
  obtain ⟨c2, hc2⟩ := Option.isSome_iff_exists.1 (hc 2 (by omega)); have hf2 := hf 2 (by omega)
  simp only [Nat.add_zero] at hc0 hf0
  clear hc hf
  go_enter Tryd.func112, Tryd.ntmps112
  go_wp2
  go_ret
  exact ⟨rfl, rfl⟩



theorem runeCells_of {r : Int} {l : List Int} (h : Lib.encodeRuneZ r = l) : Lib.runeCells r = l.map fun x => Value.int .u8 x := by rw [Lib.runeCells, h]

/-- utf8.encodeRuneNonASCII, whole: every int32 that is no ASCII. -/
theorem encMany (b off len cap : Nat) (r : Int) (hlo : -2147483648 ≤ r) (hhi : r ≤ 2147483647) (hna : r < 0 ∨ 128 ≤ r) (w : World) (hl : (Lib.runeCells r).length ≤ len)
    (hc : ∀ j, j < (Lib.runeCells r).length → (w.cell? ⟨b, off + j, none⟩).isSome = true) (hf : ∀ j, j < (Lib.runeCells r).length → w.frozen? ⟨b, off + j, none⟩ = false) :
    Calls Tryd.prog 112 #[.slice (some ⟨b, off, none⟩) len cap, .int .i32 r] w fun e w' => e = .returned (.int .i64 (Lib.runeCells r).length) ∧ w' = w.setCells b off (Lib.runeCells r) := by
  by_cases n0 : r < 0
  · have e : Lib.runeCells r = [.int .u8 239, .int .u8 191, .int .u8 189] := runeCells_of (Lib.encodeRuneZ_bad (Or.inl n0))
    rw [e] at hl hc hf ⊢
    exact encMany_neg b off len cap r hlo n0 w hl hc hf
  by_cases n1 : r ≤ 2047
  · have e : Lib.runeCells r = [.int .u8 (192 + r / 64), .int .u8 (128 + r % 64)] := runeCells_of (Lib.encodeRuneZ_two (by omega) n1)
    rw [e] at hl hc hf ⊢
    exact encMany_two b off len cap r (by omega) n1 w hl hc hf
  by_cases n2 : r < 55296
  · have e : Lib.runeCells r = [.int .u8 (224 + r / 4096), .int .u8 (128 + r / 64 % 64), .int .u8 (128 + r % 64)] := runeCells_of (Lib.encodeRuneZ_three (Or.inl ⟨by omega, n2⟩))
    rw [e] at hl hc hf ⊢
    exact encMany_three_lo b off len cap r (by omega) n2 w hl hc hf
  by_cases n3 : r ≤ 57343
  · have e : Lib.runeCells r = [.int .u8 239, .int .u8 191, .int .u8 189] := runeCells_of (Lib.encodeRuneZ_bad (Or.inr (Or.inl ⟨by omega, n3⟩)))
    rw [e] at hl hc hf ⊢
    exact encMany_surrogate b off len cap r (by omega) n3 w hl hc hf
  by_cases n4 : r ≤ 65535
  · have e : Lib.runeCells r = [.int .u8 (224 + r / 4096), .int .u8 (128 + r / 64 % 64), .int .u8 (128 + r % 64)] := runeCells_of (Lib.encodeRuneZ_three (Or.inr ⟨by omega, n4⟩))
    rw [e] at hl hc hf ⊢
    exact encMany_three_hi b off len cap r (by omega) n4 w hl hc hf
  by_cases n5 : r ≤ 1114111
  · have e : Lib.runeCells r = [.int .u8 (240 + r / 262144), .int .u8 (128 + r / 4096 % 64), .int .u8 (128 + r / 64 % 64), .int .u8 (128 + r % 64)] := runeCells_of (Lib.encodeRuneZ_four (by omega) n5)
    rw [e] at hl hc hf ⊢
    exact encMany_four b off len cap r (by omega) n5 w hl hc hf
  · have e : Lib.runeCells r = [.int .u8 239, .int .u8 191, .int .u8 189] := runeCells_of (Lib.encodeRuneZ_bad (Or.inr (Or.inr (by omega))))
    rw [e] at hl hc hf ⊢
    exact encMany_big b off len cap r (by omega) hhi w hl hc hf

set_option maxHeartbeats 400000 in
theorem encRune_ascii (b off len cap : Nat) (r : Int) (ha0 : 0 ≤ r) (ha1 : r ≤ 127) (w : World) (hl : 1 ≤ len) (c0 : Value)
    (hc0 : w.cell? ⟨b, off, none⟩ = some c0) (hf0 : w.frozen? ⟨b, off, none⟩ = false) :
    Calls Tryd.prog 97 #[.slice (some ⟨b, off, none⟩) len cap, .int .i32 r] w fun e w' => e = .returned (.int .i64 1) ∧ w' = w.setCells b off [.int .u8 r] := by
  go_enter Tryd.func97, Tryd.ntmps97
  go_wp2
  go_ret
  exact ⟨rfl, rfl⟩

set_option maxHeartbeats 400000 in
/-- Beyond ASCII: what encodeRuneNonASCII does, handed on. -/
theorem encRune_on (p : Value) (r : Int) (hlo : -2147483648 ≤ r) (hhi : r ≤ 2147483647) (hna : r < 0 ∨ 128 ≤ r) (w : World) (k : Int) (W' : World)
    (cN : Calls Tryd.prog 112 #[p, .int .i32 r] w fun e w' => e = .returned (.int .i64 k) ∧ w' = W') :
    Calls Tryd.prog 97 #[p, .int .i32 r] w fun e w' => e = .returned (.int .i64 k) ∧ w' = W' := by
  go_enter Tryd.func97, Tryd.ntmps97
  rcases hna with hn | hn
  · go_wp2_with (go_at_call 112; refine cN.mono ?_; rintro e w' ⟨rfl, rfl⟩)
    go_ret
    exact ⟨rfl, rfl⟩
  · go_wp2_with (go_at_call 112; refine cN.mono ?_; rintro e w' ⟨rfl, rfl⟩)
    go_ret
    exact ⟨rfl, rfl⟩

/-- **unicode/utf8.EncodeRune, EVERY int32 r, p long enough.** -/
theorem encRune (b off len cap : Nat) (r : Int) (hlo : -2147483648 ≤ r) (hhi : r ≤ 2147483647) (w : World) (hl : (Lib.runeCells r).length ≤ len)
    (hc : ∀ j, j < (Lib.runeCells r).length → (w.cell? ⟨b, off + j, none⟩).isSome = true) (hf : ∀ j, j < (Lib.runeCells r).length → w.frozen? ⟨b, off + j, none⟩ = false) :
    Calls Tryd.prog 97 #[.slice (some ⟨b, off, none⟩) len cap, .int .i32 r] w fun e w' => e = .returned (.int .i64 (Lib.runeCells r).length) ∧ w' = w.setCells b off (Lib.runeCells r) := by
  by_cases ha : 0 ≤ r ∧ r ≤ 127
  · have e : Lib.runeCells r = [.int .u8 r] := runeCells_of (Lib.encodeRuneZ_one ha.1 ha.2)
    rw [e] at hl hc hf ⊢
    obtain ⟨c0, hc0⟩ := Option.isSome_iff_exists.1 (hc 0 (Nat.zero_lt_one))
    exact encRune_ascii b off len cap r ha.1 ha.2 w hl c0 hc0 (hf 0 (Nat.zero_lt_one))
  · exact encRune_on _ r hlo hhi (by omega) w _ _ (encMany b off len cap r hlo hhi (by omega) w hl hc hf)

#print axioms encRune
end Go.Proofs.YtfpbbnllaogclaaDoor.H
