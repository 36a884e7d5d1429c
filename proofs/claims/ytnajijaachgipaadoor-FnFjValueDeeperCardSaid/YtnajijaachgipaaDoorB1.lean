/- Texts of this claim put together: PTx30, HUint, HMark, JByt, FjIx, HFjD, PTx15, PTx16, PTx20, PTx17, PTx19. -/
import Derived.Test.YtnajijaachgipaaDoorB0
import Derived.WalkLawsBesides
import Derived.Lib.FrozenHead
import Derived.Lib.ConvBytes
section
namespace Go.Proofs.YtnajijaachgipaaDoor.PT
open Go.RowKit Go.Proofs.YtnajijaachgipaaDoorW.PrintWords Go.Proofs.YtnajijaachgipaaDoorW.PrintLast Go.Proofs.YtnajijaachgipaaDoorW.PrintMore
attribute [local go_sem] max2_int min2_int max_two min_two max_three min_three max_four min_four   -- for this text's walks alone
set_option linter.unusedVariables false
set_option linter.unusedSimpArgs false
/-! ### utf16_DecodeRune: function 90 -/
def utf16_DecodeRune.f (a0 : Int) (a1 : Int) : Option (Int) := if 55296 ≤ a0 then (if a0 < 56320 then (if 56320 ≤ a1 then (if a1 < 57344 then (some (wrap32 ((Go.bits .or .i32 (wrap32 ((wrap32 (a0 - 55296)) * 1024)) (wrap32 (a1 - 56320))) + 65536))) else (some 65533)) else (some 65533)) else (some 65533)) else (some 65533)
set_option maxHeartbeats 8000000 in
set_option maxRecDepth 100000 in
theorem utf16_DecodeRune.calls (a0 : Int) (a1 : Int) (r : Int) (w : World) (h : utf16_DecodeRune.f a0 a1 = some r) :
  Calls Tryd.prog 90 #[.int .i32 a0, .int .i32 a1] w fun e w' => e = .returned (.int .i32 r) ∧ Drawn0 w w' := by
 have H : (if 55296 ≤ a0 then (if a0 < 56320 then (if 56320 ≤ a1 then (if a1 < 57344 then (some (wrap32 ((Go.bits .or .i32 (wrap32 ((wrap32 (a0 - 55296)) * 1024)) (wrap32 (a1 - 56320))) + 65536))) else (some 65533)) else (some 65533)) else (some 65533)) else (some 65533)) = some r := h
 clear h
 by_cases c3 : 55296 ≤ a0
 ·rw [if_pos c3] at H
  have c3b0 : decide (55296 ≤ a0) = true := decide_eq_true c3
  clear c3
  by_cases c4 : a0 < 56320
  ·rw [if_pos c4] at H
   have c4b0 : decide (a0 < 56320) = true := decide_eq_true c4
   clear c4
   by_cases c5 : 56320 ≤ a1
   ·rw [if_pos c5] at H
    have c5b0 : decide (56320 ≤ a1) = true := decide_eq_true c5
    clear c5
    by_cases c6 : a1 < 57344
    ·rw [if_pos c6] at H
     have c6b0 : decide (a1 < 57344) = true := decide_eq_true c6
     clear c6
     obtain rfl := Option.some.inj H
     go_enter Tryd.func90, Tryd.ntmps90
     go_wp2
     go_ret
     exact ⟨by first | rfl | (simp; done) | (simp [*]; done), by repeat (first | exact Drawn0.refl _ | apply Drawn0.step)⟩
    rw [if_neg c6] at H
    have c6b0 : decide (a1 < 57344) = false := decide_eq_false c6
    clear c6
    obtain rfl := Option.some.inj H
    go_enter Tryd.func90, Tryd.ntmps90
    go_wp2
    go_ret
    exact ⟨by first | rfl | (simp; done) | (simp [*]; done), by repeat (first | exact Drawn0.refl _ | apply Drawn0.step)⟩
   rw [if_neg c5] at H
   have c5b0 : decide (56320 ≤ a1) = false := decide_eq_false c5
   clear c5
   obtain rfl := Option.some.inj H
   go_enter Tryd.func90, Tryd.ntmps90
   go_wp2
   go_ret
   exact ⟨by first | rfl | (simp; done) | (simp [*]; done), by repeat (first | exact Drawn0.refl _ | apply Drawn0.step)⟩
  rw [if_neg c4] at H
  have c4b0 : decide (a0 < 56320) = false := decide_eq_false c4
  clear c4
  obtain rfl := Option.some.inj H
  go_enter Tryd.func90, Tryd.ntmps90
  go_wp2
  go_ret
  exact ⟨by first | rfl | (simp; done) | (simp [*]; done), by repeat (first | exact Drawn0.refl _ | apply Drawn0.step)⟩
 rw [if_neg c3] at H
 have c3b0 : decide (55296 ≤ a0) = false := decide_eq_false c3
 clear c3
 obtain rfl := Option.some.inj H
 go_enter Tryd.func90, Tryd.ntmps90
 go_wp2
 go_ret
 exact ⟨by first | rfl | (simp; done) | (simp [*]; done), by repeat (first | exact Drawn0.refl _ | apply Drawn0.step)⟩
end Go.Proofs.YtnajijaachgipaaDoor.PT
end
section
namespace Go.Proofs.YtnajijaachgipaaDoor.H
open Go.RowKit Go.Proofs.YtnajijaachgipaaDoorW.PrintWords Go.Proofs.YtnajijaachgipaaDoorW.PrintLast Go.Proofs.YtnajijaachgipaaDoorW.PrintMore
def lowI (b : Int) : Int := Go.bits .or .u8 b 32
/-- A byte's value as a digit, as ParseUint takes it. -/
def dig (b : Int) : Option Int := if 48 ≤ b ∧ b ≤ 57 then some (b - 48) else if 97 ≤ lowI b ∧ lowI b ≤ 122 then some (lowI b - 97 + 10) else none
/-- What ParseUint(s, 16, 16) gives, from a place of the text on. -/
def hx : List UInt8 → Int → Int × Option Int
  | [], n => (n, none)
  | c :: l, n => match dig c.toNat with
    | none => (0, some 2)
    | some d => if 16 ≤ d then (0, some 2) else if n * 16 + d > 65535 then (65535, some 1) else hx l (n * 16 + d)
theorem d_none {b : Int} (h1 : ¬ (48 ≤ b ∧ b ≤ 57)) (h2 : ¬ (97 ≤ lowI b ∧ lowI b ≤ 122)) : dig b = none := by unfold dig; rw [if_neg h1, if_neg h2]
theorem d_dec {b : Int} (h1 : 48 ≤ b ∧ b ≤ 57) : dig b = some (b - 48) := by unfold dig; rw [if_pos h1]
theorem d_hex {b : Int} (h1 : ¬ (48 ≤ b ∧ b ≤ 57)) (h2 : 97 ≤ lowI b ∧ lowI b ≤ 122) : dig b = some (lowI b - 97 + 10) := by unfold dig; rw [if_neg h1, if_pos h2]
def step (o : Option Int) (n : Int) (r : Int → Int × Option Int) : Int × Option Int := match o with
  | none => (0, some 2)
  | some d => if 16 ≤ d then (0, some 2) else if n * 16 + d > 65535 then (65535, some 1) else r (n * 16 + d)
theorem step_none {n : Int} {r : Int → Int × Option Int} : step none n r = (0, some 2) := rfl
theorem step_big {d n : Int} {r : Int → Int × Option Int} (h : 16 ≤ d) : step (some d) n r = (0, some 2) := if_pos h
theorem step_out {d n : Int} {r : Int → Int × Option Int} (h : ¬ 16 ≤ d) (k : n * 16 + d > 65535) : step (some d) n r = (65535, some 1) := (if_neg h).trans (if_pos k)
theorem step_on {d n : Int} {r : Int → Int × Option Int} (h : ¬ 16 ≤ d) (k : ¬ n * 16 + d > 65535) : step (some d) n r = r (n * 16 + d) := (if_neg h).trans (if_neg k)
theorem low95 : ¬ (97 ≤ lowI 95 ∧ lowI 95 ≤ 122) := by decide
def errI : Option Int → Value
  | none => .nilIface
  | some c => .iface 154 (.int .i64 c)
set_option maxHeartbeats 4000000 in
set_option maxRecDepth 100000 in
theorem parseUint (s : ByteArray) (w : World) (hne : s.toList ≠ []) (hsz : s.size ≤ 140737488351232) :
    Calls Tryd.prog 110 #[.string s, .int .i64 16, .int .i64 16] w fun e w' => e = .returned (.tuple #[.int .u64 (hx s.data.toList 0).1, errI (hx s.data.toList 0).2]) ∧ Below w.heap.size w w' := by
  obtain ⟨cap, hcap⟩ : ∃ c, c = grownCap w s.size 0 5 := ⟨_, rfl⟩
  have hconv := run_bytes_of_string (P := Tryd.prog) w 9 47 5 s Tryd.underlying9 Tryd.underlying47 Tryd.underlying5
  rw [← hcap] at hconv
  obtain ⟨C, hC⟩ : ∃ C, C = bytesRow s cap := ⟨_, rfl⟩
  have hCa : ∀ j (hj : j < s.data.size), C[j]? = some (.int .u8 (s.data[j].toNat : Int)) := fun j hj => by rw [hC]; exact bytesRow_at s cap j hj
  rw [← hC] at hconv
  clear hC hcap
  obtain ⟨W0, hW0⟩ : ∃ W, W = w.drew.alloc (.cells C 5 (C.size, C.size + 1)) := ⟨_, rfl⟩
  rw [← hW0] at hconv
  have hB0 : Below w.heap.size w W0 := by rw [hW0]; exact ((Below.refl _ w).drew).alloc (Nat.le_refl _) _
  have hc0 : ∀ j (hj : j < s.data.size), W0.cell? ⟨w.heap.size, j, none⟩ = some (.int .u8 (s.data[j].toNat : Int)) := fun j hj => by
    rw [hW0]; exact (World.cell?_alloc_mark w.drew C 5 _ j).trans (hCa j hj)
  clear hW0 hCa
  have HB0 := Aside0.mk hB0
  have HC0 := Aside0.mk hc0
  clear hB0 hc0
  have hem : s.toList.isEmpty = false := by
    cases h : s.toList with
    | nil => exact absurd h hne
    | cons _ _ => rfl
  clear hne
  go_enter Tryd.func110, Tryd.ntmps110
  go_wp2
  go_loopg [12, 13, 101] s.size (fun kq v12 v13 v101 wr => ∃ (i : Nat) (n : Int), v12 = .bool false ∧ kq = s.size - i ∧ i ≤ s.size ∧ 0 ≤ n ∧ n ≤ 65535 ∧ v101 = .int .i64 (i : Int) ∧ v13 = .int .u64 n ∧ Aside0 (Below w.heap.size w wr) ∧ Aside0 (∀ j (hj : j < s.data.size), wr.cell? ⟨w.heap.size, j, none⟩ = some (.int .u8 (s.data[j].toNat : Int))) ∧ Aside0 (hx s.data.toList 0 = hx (s.data.toList.drop i) n))
  case atStart => exact ⟨0, 0, rfl, by omega, by omega, by omega, by omega, rfl, rfl, HB0, HC0, ⟨rfl⟩⟩
  case round =>
    clear HB0 HC0
    obtain ⟨i, n, rfl, hk, hle, hn0, hn1, rfl, rfl, HB, HC, HX⟩ := hrel
    by_cases hi : i < s.size
    · have hi' : i < s.data.size := hi
      have hc : wr.cell? ⟨w.heap.size, i, none⟩ = some (.int .u8 (s.data[i].toNat : Int)) := HC.out i hi'
      have hlt : (i : Int) < (s.size : Int) := by omega
      obtain ⟨b, hb⟩ : ∃ b, b = s.data[i] := ⟨_, rfl⟩
      rw [← hb] at hc
      have HI := Aside0.mk hi
      have HI' := Aside0.mk hb
      have HL := Aside0.mk hle
      have HK := Aside0.mk hk
      clear hi hle hk hb
      have hd : s.data.toList.drop i = b :: s.data.toList.drop (i + 1) := by
        rw [List.drop_eq_getElem_cons (by rw [Array.length_toList]; exact hi'), HI'.out]; rfl
      have hst : hx s.data.toList 0 = step (dig b.toNat) n (hx (s.data.toList.drop (i + 1))) := by
        rw [HX.out, hd, hx]; rfl
      have S := Aside0.mk hst
      clear hst hd HX
      go_wp2
      all_goals first
        | (have e : hx s.data.toList 0 = (0, some 2) := S.out.trans (by
             first
               | (rw [d_none (by omega) (by unfold lowI; omega)]; rfl)
               | (rw [show (b.toNat : Int) = 95 from by assumption, d_none (by omega) low95]; rfl)
               | (rw [d_hex (by omega) (by unfold lowI; omega), step_big (by unfold lowI; omega)]))
           go_ret2
           exact ⟨by rw [e]; rfl, HB.out⟩)
        | (have e : hx s.data.toList 0 = (65535, some 1) := S.out.trans (by
             first
               | (rw [d_dec (by omega), step_out (by omega) (by omega)])
               | (rw [d_hex (by omega) (by unfold lowI; omega), step_out (by unfold lowI; omega) (by unfold lowI; omega)]))
           go_ret2
           exact ⟨by rw [e]; rfl, HB.out⟩)
        | (have e : hx s.data.toList 0 = hx (s.data.toList.drop (i + 1)) (n * 16 + ((b.toNat : Int) - 48)) := S.out.trans (by rw [d_dec (by omega), step_on (by omega) (by omega)])
           have E := Aside0.mk e
           clear e
           go_roundg (s.size - (i + 1))
           case measure => have := HI.out; have := HK.out; omega
           case rel => exact ⟨i + 1, _, rfl, rfl, HI.out, by omega, by omega, congrArg (Value.int .i64) (by omega), rfl, HB, HC, E⟩)
        | (have e : hx s.data.toList 0 = hx (s.data.toList.drop (i + 1)) (n * 16 + (lowI b.toNat - 97 + 10)) := S.out.trans (by rw [d_hex (by omega) (by unfold lowI; omega), step_on (by unfold lowI; omega) (by unfold lowI; omega)])
           have E := Aside0.mk e
           clear e
           go_roundg (s.size - (i + 1))
           case measure => have := HI.out; have := HK.out; omega
           case rel => exact ⟨i + 1, _, rfl, rfl, HI.out, by omega, by omega, congrArg (Value.int .i64) (by omega), rfl, HB, HC, E⟩)
        | skip
    have hx0 : hx s.data.toList 0 = (n, none) := by
      rw [HX.out, List.drop_of_length_le (by rw [Array.length_toList]; have : s.size = s.data.size := rfl; omega), hx]
    have hn : ¬ (i : Int) < (s.size : Int) := by omega
    have E := Aside0.mk hx0
    clear hk hle hi hx0 HX
    go_wp2
    go_ret2
    exact ⟨by rw [E.out]; rfl, HB.out⟩
/-- The errors are two. -/
theorem hx_err : ∀ (l : List UInt8) (n c : Int), (hx l n).2 = some c → c = 2 ∨ c = 1
  | [], n, c, h => by simp [hx] at h
  | b :: l, n, c, h => by
    rw [hx] at h
    split at h
    · left; simpa using h.symm
    split at h
    · left; simpa using h.symm
    split at h
    · right; simpa using h.symm
    exact hx_err l _ c h
set_option maxHeartbeats 4000000 in
set_option maxRecDepth 100000 in
theorem pu_none (s : ByteArray) (m : Int) (w : World)
    (hI : Calls Tryd.prog 110 #[.string s, .int .i64 16, .int .i64 16] w fun e w' => e = .returned (.tuple #[.int .u64 m, .nilIface]) ∧ Below w.heap.size w w') :
    Calls Tryd.prog 88 #[.string s, .int .i64 16, .int .i64 16] w fun e w' => e = .returned (.tuple #[.int .u64 m, .nilIface]) ∧ Below w.heap.size w w' := by
  have HI := Aside0.mk hI
  clear hI
  go_enter Tryd.func88, Tryd.ntmps88
  go_wp2_with (go_at_call 110; refine HI.out.mono ?_; rintro e W1 ⟨rfl, hb1⟩)
  go_wp2
  go_ret2
  exact ⟨rfl, hb1⟩
set_option maxHeartbeats 4000000 in
set_option maxRecDepth 100000 in
theorem pu_syntax (s : ByteArray) (m : Int) (te : TypeId) (pe : Value) (w : World) (hlim : s.size ≤ 281474976710656) (hv : w.cell? ⟨0, 0, none⟩ = some (.iface te pe))
    (hI : Calls Tryd.prog 110 #[.string s, .int .i64 16, .int .i64 16] w fun e w' => e = .returned (.tuple #[.int .u64 m, .iface 154 (.int .i64 2)]) ∧ Below w.heap.size w w') :
    Calls Tryd.prog 88 #[.string s, .int .i64 16, .int .i64 16] w fun e w' => ∃ p : Value, e = .returned (.tuple #[.int .u64 m, .iface 155 p]) ∧ Below w.heap.size w w' := by
  have hG : 0 < w.heap.size := Lib.lt_of_cell hv
  have HI := Aside0.mk hI
  clear hI
  go_enter Tryd.func88, Tryd.ntmps88
  go_wp2_with (go_at_call 110; refine HI.out.mono ?_)
  rintro e W1 ⟨rfl, hb1⟩
  have hv1 : W1.cell? ⟨0, 0, none⟩ = some (.iface te pe) := (hb1.cell (show (⟨0, 0, none⟩ : Addr).block < w.heap.size from hG)).trans hv
  go_wp2_with (go_at_call 92; refine (toError_syntax _ s 16 16 te pe _ hlim ?_).mono ?_)
  · exact hv1
  rintro e W2 ⟨p, rfl, h3⟩
  go_wp2
  go_ret2
  exact ⟨p, rfl, hb1.trans (h3.mono hb1.size)⟩
set_option maxHeartbeats 4000000 in
set_option maxRecDepth 100000 in
theorem pu_range (s : ByteArray) (m : Int) (te : TypeId) (pe : Value) (w : World) (hlim : s.size ≤ 281474976710656) (hv : w.cell? ⟨1, 0, none⟩ = some (.iface te pe))
    (hI : Calls Tryd.prog 110 #[.string s, .int .i64 16, .int .i64 16] w fun e w' => e = .returned (.tuple #[.int .u64 m, .iface 154 (.int .i64 1)]) ∧ Below w.heap.size w w') :
    Calls Tryd.prog 88 #[.string s, .int .i64 16, .int .i64 16] w fun e w' => ∃ p : Value, e = .returned (.tuple #[.int .u64 m, .iface 155 p]) ∧ Below w.heap.size w w' := by
  have hG : 1 < w.heap.size := Lib.lt_of_cell hv
  have HI := Aside0.mk hI
  clear hI
  go_enter Tryd.func88, Tryd.ntmps88
  go_wp2_with (go_at_call 110; refine HI.out.mono ?_)
  rintro e W1 ⟨rfl, hb1⟩
  have hv1 : W1.cell? ⟨1, 0, none⟩ = some (.iface te pe) := (hb1.cell (show (⟨1, 0, none⟩ : Addr).block < w.heap.size from hG)).trans hv
  go_wp2_with (go_at_call 92; refine (toError_range _ s 16 16 te pe _ hlim ?_).mono ?_)
  · exact hv1
  rintro e W2 ⟨p, rfl, h3⟩
  go_wp2
  go_ret2
  exact ⟨p, rfl, hb1.trans (h3.mono hb1.size)⟩
end Go.Proofs.YtnajijaachgipaaDoor.H
end
section
namespace Go.Proofs.YtnajijaachgipaaDoor.H
open Go.RowKit Go.Lib Go.Proofs.YtnajijaachgipaaDoorW.PrintWords Go.Proofs.YtnajijaachgipaaDoorW.PrintLast Go.Proofs.YtnajijaachgipaaDoorW.PrintMore
set_option linter.unusedVariables false
theorem run_storeCells_atM (P : Program) (g o : Nat) (t : TypeId) (fz : Nat × Nat) : ∀ (vs : List Value) (i : Nat) (cur : Array Value) (w : World), w.heap[g]? = some (.cells cur t fz) → cur.size ≤ fz.1 → o + i + vs.length ≤ cur.size → (∀ v ∈ vs, v.oneCell' = true) →
  (storeCells ⟨g, o, none⟩ vs i).run P w = .ok () (w.setRow g (cur.toList.take (o + i) ++ vs ++ cur.toList.drop (o + i + vs.length)).toArray)
 | [], i, cur, w, hg, _, _, _ => by
  simp only [storeCells, List.append_nil, List.length_nil, Nat.add_zero, List.take_append_drop, Array.toArray_toList]
  rw [setRow_self w g cur t fz hg]
  rfl
 | v :: rest, i, cur, w, hg, hfz, hl, h1 => by
  have hi : o + i < cur.size := by simp at hl; omega
  have hadd : (⟨g, o, none⟩ : Addr).add i = ⟨g, o + i, none⟩ := by unfold Addr.add; split <;> simp_all
  have hcell : w.cell? ⟨g, o + i, none⟩ = some cur[o + i] := by simp [World.cell?, hg, hi]
  have hfro : w.frozen? ⟨g, o + i, none⟩ = false := by
   obtain ⟨lo, hi'⟩ := fz
   simp only [World.frozen?, hg, Bool.and_eq_false_iff, decide_eq_false_iff_not]
   left
   simp only at hfz
   omega
  have hst : (store ((⟨g, o, none⟩ : Addr).add i) v).run P w = .ok () (w.setRow g (cur.setIfInBounds (o + i) v)) := by
   rw [hadd, run_store P w _ v _ (h1 v (by simp)), hcell]
   simp [hfro, setCell_eq_setRow w g (o + i) cur t fz v hg]
  have ih := run_storeCells_atM P g o t fz rest (i + 1) (cur.setIfInBounds (o + i) v) (w.setRow g (cur.setIfInBounds (o + i) v)) (setRow_heap w g cur _ t _ hg) (by simpa using hfz) (by simp at hl ⊢; omega) (fun x hx => h1 x (by simp [hx]))
  simp only [storeCells, Sem.run_bind, hst, Result.andThen_ok, ih, setRow_setRow]
  congr 3
  have e := list_seg_step cur.toList (o + i) v rest (by simp at hl ⊢; omega)
  simpa [Array.toList_setIfInBounds, Nat.add_assoc] using e
/-- The row at block g, of cap cells, begins with xs. -/
structure MB (w : World) (e g cap : Nat) (xs : List Int) : Prop where
 heap : ∃ cur fz, w.heap[g]? = some (.cells cur e fz) ∧ cur.size = cap ∧ cap ≤ fz.1 ∧ cur.toList.take xs.length = nums .u8 xs
 le : xs.length ≤ cap
 cm : cap ≤ maxLen
section
variable {P : Program} {w W : World} {e g cap : Nat} {xs : List Int}
theorem MB.lt (h : MB w e g cap xs) : g < w.heap.size := by
 obtain ⟨cur, fz, hg, _⟩ := h.heap
 exact (Array.getElem?_eq_some_iff.1 hg).1
theorem MB.of (h : MB w e g cap xs) (hb : W.heap[g]? = w.heap[g]?) : MB W e g cap xs := by
 obtain ⟨cur, fz, hg, r⟩ := h.heap
 exact ⟨⟨cur, fz, hb.trans hg, r⟩, h.le, h.cm⟩
theorem MB.take (h : MB w e g cap xs) (n : Nat) : MB w e g cap (xs.take n) := by
 obtain ⟨cur, fz, hg, h1, h2, h3⟩ := h.heap
 have hle : (xs.take n).length ≤ xs.length := by rw [List.length_take]; omega
 refine ⟨⟨cur, fz, hg, h1, h2, ?_⟩, by have := h.le; omega, h.cm⟩
 have : cur.toList.take (xs.take n).length = (cur.toList.take xs.length).take (xs.take n).length := by rw [List.take_take, Nat.min_eq_left hle]
 rw [this, h3]
 simp only [nums, List.length_take, ← List.map_take]
 congr 1
 rw [List.take_eq_take_iff]
 omega
theorem MB.made (w : World) (e : TypeId) (s : ByteArray) (hs : s.size ≤ 1000000) (hc : grownCap w s.size 0 e ≤ maxLen) : MB (bytesWorld w e s) e w.heap.size (grownCap w s.size 0 e) (bytesOf s) := by
 have hge := grownCap_ge w s.size 0 e
 have hsz : (bytesCells w e s).size = grownCap w s.size 0 e := by
  simp only [bytesCells, Array.size_append, Array.size_map, Array.size_replicate]
  have : s.data.size = s.size := rfl
  omega
 refine ⟨⟨_, _, bytesWorld_at_new w e s, hsz, by simp only; omega, ?_⟩, by rw [bytesOf_length]; exact hge, hc⟩
 simp only [bytesCells, Array.toList_append, Array.toList_map]
 rw [List.take_left' (by rw [List.length_map, bytesOf_length]; rfl)]
 simp [nums, bytesOf]
/-- More bytes, in place. -/
theorem MB.put (h : MB w e g cap xs) (ys : List Int) (hr : xs.length + ys.length ≤ cap) : ∃ W', (storeCells ⟨g, xs.length, none⟩ (nums .u8 ys) 0).run P w = .ok () W' ∧ MB W' e g cap (xs ++ ys) ∧ w.grownBy W' (some g) := by
 obtain ⟨cur, fz, hg, h1, h2, h3⟩ := h.heap
 have hst := run_storeCells_atM P g xs.length e fz (nums .u8 ys) 0 cur w hg (by omega) (by rw [nums_length]; omega) (by
  intro v hv
  simp only [nums, List.mem_map] at hv
  obtain ⟨x, _, rfl⟩ := hv
  rfl)
 simp only [Nat.add_zero] at hst
 refine ⟨_, hst, ⟨⟨_, fz, setRow_heap w g cur _ e _ hg, ?_, h2, ?_⟩, by rw [List.length_append]; exact hr, h.cm⟩, ⟨rfl, rfl, rfl, by simp, fun k _ hk => setRow_other w g k _ (fun e => hk (by rw [e]))⟩⟩
 ·simp only [List.size_toArray, List.length_append, List.length_take, List.length_drop, Array.length_toList, nums_length]
  omega
 rw [h3, nums_append]
 exact List.take_left' (by rw [List.length_append, List.length_append, nums_length, nums_length])
theorem MB.app_str (h : MB w e g cap xs) (t u ty : TypeId) (i : TypeInfo) (ht : P.underlying t = some (.slice e)) (hu : P.underlying u = some .string) (hi : P.info? e = some i) (hs1 : i.size = 1) (s : ByteArray) (hr : xs.length + s.size ≤ cap) :
  ∃ W', (Builtin.append_ #[t, u] ty #[.slice (some ⟨g, 0, none⟩) xs.length cap, .string s]).run P w = .ok (.slice (some ⟨g, 0, none⟩) (xs.length + s.size) cap) W' ∧ MB W' e g cap (xs ++ bytesOf s) ∧ w.grownBy W' (some g) := by
 obtain ⟨W', h1, h2, h3⟩ := h.put (P := P) (bytesOf s) (by rw [bytesOf_length]; exact hr)
 have hf := run_firstCells_string (P := P) w 1 s
 have hc : strCells s = nums .u8 (bytesOf s) := by simp [nums, bytesOf, strCells]
 rw [hc] at hf
 refine ⟨W', ?_, h2, h3⟩
 simp [Builtin.append_, run_underlying ht, run_underlying hu, sizeOf, typeInfo, hi, hs1, Builtin.lenOf, hr, hf, Addr.add_lit, h1]
theorem MB.app_num (h : MB w e g cap xs) (t ty : TypeId) (i : TypeInfo) (ht : P.underlying t = some (.slice e)) (hi : P.info? e = some i) (hs1 : i.size = 1) (a : Addr) (m c : Nat) (ys : List Int) (hl : ys.length = m) (hn : ∀ j u, (nums .u8 ys)[j]? = some u → w.cell? (a.add j) = some u) (hr : xs.length + m ≤ cap) :
  ∃ W', (Builtin.append_ #[t, t] ty #[.slice (some ⟨g, 0, none⟩) xs.length cap, .slice (some a) m c]).run P w = .ok (.slice (some ⟨g, 0, none⟩) (xs.length + m) cap) W' ∧ MB W' e g cap (xs ++ ys) ∧ w.grownBy W' (some g) := by
 obtain ⟨W', h1, h2, h3⟩ := h.put (P := P) ys (by omega)
 have hf := run_firstCells_some (P := P) w i.size m a m c (nums .u8 ys) (by rw [nums_length, hs1]; omega) hn
 refine ⟨W', ?_, h2, h3⟩
 rw [hs1] at hf
 simp [Builtin.append_, run_underlying ht, sizeOf, typeInfo, hi, hs1, Builtin.lenOf, hr, hf, Addr.add_lit, h1]
theorem MB.cells (h : MB w e g cap xs) : ∀ i (hi : i < xs.length), w.cell? ⟨g, i, none⟩ = some (.int .u8 (xs.getD i 0)) := by
 obtain ⟨cur, fz, hg, h1, h2, h3⟩ := h.heap
 intro i hi
 have hx := congrArg (fun l => l[i]?) h3
 simp only [List.getElem?_take_of_lt hi, Array.getElem?_toList] at hx
 unfold World.cell?
 simp only [hg]
 rw [hx]
 simp [nums, List.getElem?_eq_getElem hi, List.getD_eq_getElem?_getD]
/-- The text of the bytes. -/
theorem MB.string (h : MB w e g cap xs) (src dst : TypeId) (hs : P.underlying src = some (.slice e)) (he : P.underlying e = some (.int .u8)) (hd : P.underlying dst = some .string) :
  (convert src dst (.slice (some ⟨g, 0, none⟩) xs.length cap)).run P w = .ok (.string (strOfNums xs)) w :=
 run_convert_bytes_arg w src e hs he g 0 xs.length cap xs rfl (fun i hi => by rw [Nat.zero_add]; exact h.cells i hi) dst hd
end
section
variable {P : Program} {ops : Array Oper} {rest : List Oper} {o : Oper} {a : Act} {Q : Exit → Act → World → Prop}
theorem MB_str {W : World} (hgd : o.guard = none) (s x : Operand) (t u e : TypeId) (ho : o.op = .call { callee := .builtin .append, args := #[s, x], argTypes := #[t, u] })
  (ht : P.underlying t = some (.slice e)) (hu : P.underlying u = some .string) (hinfo : (P.info? e).map (fun i => (i.zero, i.size, i.bytes)) = some (some (.int .u8 0), 1, 1))
  (g cap : Nat) (xs : List Int) (y : ByteArray) (hs : a.eval s = .slice (some ⟨g, 0, none⟩) xs.length cap) (hx : a.eval x = .string y) (h : MB W e g cap xs) (hr : xs.length + y.size ≤ cap)
  (hk : ∀ W', MB W' e g cap (xs ++ bytesOf y) → W.grownBy W' (some g) → wpList P ops Q rest (a.put o.dst (.slice (some ⟨g, 0, none⟩) (xs ++ bytesOf y).length cap)) W') :
  wpList P ops Q (o :: rest) a W := by
 obtain ⟨i0, hi, hzz⟩ := Option.map_eq_some_iff.1 hinfo
 simp only [Prod.mk.injEq] at hzz
 obtain ⟨hz0, hz1, hz2⟩ := hzz
 refine wpList_plain hgd fun K hK => ?_
 obtain ⟨W', h1, h2, h3⟩ := h.app_str (P := P) t u o.type i0 ht hu hi hz1 y hr
 unfold Oper.wp execOp
 simp only [ho, resolve, invoke, builtin, Sem.run_bind, Sem.run_pure, Result.andThen_ok, List.map_toArray, List.map_cons, List.map_nil, hs, hx, h1]
 have := hk W' h2 h3
 rw [List.length_append, bytesOf_length] at this
 exact hK _ _ this
theorem MB_num {W : World} (hgd : o.guard = none) (s x : Operand) (t e : TypeId) (ho : o.op = .call { callee := .builtin .append, args := #[s, x], argTypes := #[t, t] })
  (ht : P.underlying t = some (.slice e)) (hinfo : (P.info? e).map (fun i => (i.zero, i.size, i.bytes)) = some (some (.int .u8 0), 1, 1))
  (g cap : Nat) (xs ys : List Int) (m : Nat) (hm : ys.length = m) (hs : a.eval s = .slice (some ⟨g, 0, none⟩) xs.length cap) (hx : a.eval x = .slice (some ⟨W.heap.size, 0, none⟩) m m) (h : MB W e g cap xs) (hr : xs.length + m ≤ cap)
  (hk : ∀ W', MB W' e g cap (xs ++ ys) → (W.alloc (.cells (nums .u8 ys).toArray e)).grownBy W' (some g) → wpList P ops Q rest (a.put o.dst (.slice (some ⟨g, 0, none⟩) (xs ++ ys).length cap)) W') :
  wpList P ops Q (o :: rest) a (W.alloc (.cells (nums .u8 ys).toArray e)) := by
 obtain ⟨i0, hi, hzz⟩ := Option.map_eq_some_iff.1 hinfo
 simp only [Prod.mk.injEq] at hzz
 obtain ⟨hz0, hz1, hz2⟩ := hzz
 refine wpList_plain hgd fun K hK => ?_
 have hM : MB (W.alloc (.cells (nums .u8 ys).toArray e)) e g cap xs := h.of (heap_alloc_old W _ h.lt)
 obtain ⟨W', h1, h2, h3⟩ := hM.app_num (P := P) t o.type i0 ht hi hz1 ⟨W.heap.size, 0, none⟩ m m ys hm (by
  have := World.news_of_block (cs := (nums .u8 ys).toArray) (t := e) (fr := (0, 0)) (heap_alloc_new W (.cells (nums .u8 ys).toArray e))
  simpa using this) hr
 unfold Oper.wp execOp
 simp only [ho, resolve, invoke, builtin, Sem.run_bind, Sem.run_pure, Result.andThen_ok, List.map_toArray, List.map_cons, List.map_nil, hs, hx, h1]
 have := hk W' h2 h3
 rw [List.length_append, hm] at this
 exact hK _ _ this
end
end Go.Proofs.YtnajijaachgipaaDoor.H
end
section
namespace Go.Proofs.YtnajijaachgipaaDoor.J
open Go.RowKit Go.Proofs.YtnajijaachgipaaDoorW.PrintWords Go.Proofs.YtnajijaachgipaaDoorW.PrintLast
def IsB (l : List Int) : Prop := ∀ x ∈ l, 0 ≤ x ∧ x ≤ 255
theorem IsB.append {a b : List Int} (h : IsB a) (k : IsB b) : IsB (a ++ b) := fun x hx => by
 rcases List.mem_append.1 hx with g | g
 ·exact h x g
 exact k x g
theorem IsB.left {a b : List Int} (h : IsB (a ++ b)) : IsB a := fun x hx => h x (List.mem_append_left _ hx)
theorem IsB.right {a b : List Int} (h : IsB (a ++ b)) : IsB b := fun x hx => h x (List.mem_append_right _ hx)
theorem u8_back (b : UInt8) : UInt8.ofNat ((b.toNat : Int)).toNat = b := by simp
theorem str_bytesOf (s : ByteArray) : strOfNums (bytesOf s) = s := by
 apply ByteArray.ext
 apply Array.ext'
 rw [strOfNums_data]
 simp only [bytesOf, List.map_map]
 conv => rhs; rw [← List.map_id s.data.toList]
 apply List.map_congr_left
 intro b _
 exact u8_back b
theorem bytesOf_inj {a b : ByteArray} (h : bytesOf a = bytesOf b) : a = b := by
 rw [← str_bytesOf a, h, str_bytesOf]
theorem bytesOf_extract (s : ByteArray) (a b : Nat) : bytesOf (s.extract a b) = ((bytesOf s).take b).drop a := by
 simp [bytesOf, List.map_drop, List.map_take, List.extract, List.drop_take]
theorem bt_get (s : ByteArray) (i : Int) : bt s i = (bytesOf s).getD i.toNat 0 := (rd_bytesOf s i).symm
theorem bt_nat (s : ByteArray) (i : Nat) : bt s i = (bytesOf s).getD i 0 := by rw [bt_get, Int.toNat_natCast]
theorem toList_iff (a b : ByteArray) : a.toList = b.toList ↔ bytesOf a = bytesOf b := by
 constructor
 ·intro h
  rw [Go.ByteArray.toList_eq, Go.ByteArray.toList_eq] at h
  simp only [bytesOf, h]
 intro h
 rw [bytesOf_inj h]
theorem wr {x : Int} (h0 : -9223372036854775808 ≤ x) (h1 : x ≤ 9223372036854775807) : wrap64 x = x := by
 unfold wrap64; omega
theorem bt_lo (s : ByteArray) (i : Int) : 0 ≤ bt s i := (bt_range s i).1
theorem bt_hi (s : ByteArray) (i : Int) : bt s i ≤ 255 := (bt_range s i).2
theorem ev_const {α : Type} {g : Nat → Option α} {r : α} (h : ∀ k, g k = some r) : Ev g r := ⟨0, fun k _ => h k⟩
theorem ev_one {α : Type} {g : Nat → Option α} {r : α} (h : ∀ k, g (k + 1) = some r) : Ev g r := Ev.step h (Ev.now r)
end Go.Proofs.YtnajijaachgipaaDoor.J
end
section
namespace Go.Proofs.YtnajijaachgipaaDoor.J
open Go.RowKit Go.Proofs.YtnajijaachgipaaDoor.PT Go.Proofs.YtnajijaachgipaaDoorW.PrintWords Go.Proofs.YtnajijaachgipaaDoorW.PrintLast
set_option linter.unusedSimpArgs false
set_option linter.unusedVariables false
def ix (c : Int) : List Int → Option Nat
 | [] => none
 | b :: l => if b = c then some 0 else (ix c l).map (· + 1)
def toI : Option Nat → Int
 | none => -1
 | some n => n
theorem index_list (c : Int) (h0 : 0 ≤ c) (h1 : c ≤ 255) : ∀ l : List UInt8, Lib.indexByte l c.toNat.toUInt8 = toI (ix c (l.map fun b => (b.toNat : Int)))
 | [] => rfl
 | b :: l => by
  have ih := index_list c h0 h1 l
  have hb : (b == c.toNat.toUInt8) = decide ((b.toNat : Int) = c) := by
   rw [Bool.eq_iff_iff, beq_iff_eq, decide_eq_true_iff]
   constructor
   ·rintro rfl
    show (((UInt8.ofNat c.toNat).toNat : Nat) : Int) = c
    rw [UInt8.toNat_ofNat']
    omega
   intro h
   rw [← h, Int.toNat_natCast]
   exact (UInt8.ofNat_toNat (x := b)).symm
  rw [Lib.indexByte, hb, List.map_cons, ix, ih]
  by_cases h : (b.toNat : Int) = c
  ·rw [decide_eq_true h, if_pos rfl, if_pos h]; rfl
  rw [decide_eq_false h, if_neg (by decide), if_neg h]
  cases ix c (l.map fun b => (b.toNat : Int)) with
  | none => rfl
  | some n =>
   have : ((n : Int) == -1) = false := by rw [beq_eq_false_iff_ne]; omega
   simp only [toI, Option.map_some, this, Bool.false_eq_true, if_false]
   omega
theorem index_ix (s : ByteArray) (c : Int) (h0 : 0 ≤ c) (h1 : c ≤ 255) : strings_IndexByte.f s c = some (toI (ix c (bytesOf s))) := by
 unfold strings_IndexByte.f
 rw [index_list c h0 h1]
 rfl
theorem ix_some {c : Int} : ∀ {l : List Int} {n : Nat}, ix c l = some n → n < l.length ∧ l.getD n 0 = c ∧ ∀ j, j < n → l.getD j 0 ≠ c
 | [], n, h => by cases h
 | b :: l, n, h => by
  rw [ix] at h
  by_cases hb : b = c
  ·rw [if_pos hb] at h
   obtain rfl := Option.some.inj h
   exact ⟨by simp, by simpa using hb, fun j hj => by omega⟩
  rw [if_neg hb] at h
  obtain ⟨m, hm, rfl⟩ := Option.map_eq_some_iff.1 h
  obtain ⟨a, b', d⟩ := ix_some hm
  refine ⟨by simp; omega, by simpa using b', fun j hj => ?_⟩
  cases j with
  | zero => simpa using hb
  | succ j => simpa using d j (by omega)
theorem suf_bytes (s : ByteArray) (p : Nat) : bytesOf (s.extract p s.size) = (bytesOf s).drop p := by
 rw [bytesOf_extract, List.take_of_length_le (by rw [bytesOf_length]; exact Nat.le_refl _)]
theorem suf_suf (s : ByteArray) (p q : Nat) : (s.extract p s.size).extract q (s.extract p s.size).size = s.extract (p + q) s.size := by
 apply bytesOf_inj
 rw [suf_bytes, suf_bytes, suf_bytes, List.drop_drop]
theorem suf_size (s : ByteArray) (p : Nat) : (s.extract p s.size).size = s.size - p := by
 rw [← bytesOf_length, suf_bytes, List.length_drop, bytesOf_length]
theorem suf_bt (s : ByteArray) (p j : Nat) : bt (s.extract p s.size) (j : Int) = bt s ((p + j : Nat) : Int) := by
 rw [bt_nat, bt_nat, suf_bytes, List.getD_eq_getElem?_getD, List.getD_eq_getElem?_getD, List.getElem?_drop]
end Go.Proofs.YtnajijaachgipaaDoor.J
end
section
namespace Go.Proofs.YtnajijaachgipaaDoor.PT
open Go.RowKit Go.Proofs.YtnajijaachgipaaDoor.J Go.Proofs.YtnajijaachgipaaDoorW.PrintWords Go.Proofs.YtnajijaachgipaaDoorW.PrintLast Go.Proofs.YtnajijaachgipaaDoorW.PrintMore Go.Proofs.YtnajijaachgipaaDoor.H
set_option linter.unusedVariables false
set_option linter.unusedSimpArgs false
namespace FJ
/-- ParseUint of four bytes at base 16. -/
def u4 (s : ByteArray) : Option Int := match hx s.data.toList 0 with
 | (x, none) => some x
 | (_, some _) => none
theorem step_range {d : Option Int} {n : Int} {r : Int → Int × Option Int} (hd : ∀ x, d = some x → 0 ≤ x) (hn : 0 ≤ n) (hr : ∀ m, 0 ≤ m → m ≤ 65535 → (r m).2 = none → 0 ≤ (r m).1 ∧ (r m).1 ≤ 65535) (h : (H.step d n r).2 = none) : 0 ≤ (H.step d n r).1 ∧ (H.step d n r).1 ≤ 65535 := by
 cases d with
 | none => rw [step_none] at h; cases h
 | some x =>
  have hx := hd x rfl
  by_cases h1 : 16 ≤ x
  ·rw [step_big h1] at h; cases h
  by_cases h2 : n * 16 + x > 65535
  ·rw [step_out h1 h2] at h; cases h
  rw [step_on h1 h2] at h ⊢
  exact hr _ (by omega) (by omega) h
theorem dig_pos : ∀ b : Fin 256, (match dig (b.val : Int) with | some d => decide (0 ≤ d) | none => true) = true := by decide +kernel
theorem low_range (b : Fin 256) (x : Int) (h : dig (b.val : Int) = some x) : 0 ≤ x := by
 have := dig_pos b
 rw [h] at this
 exact of_decide_eq_true this
theorem hx_range : ∀ (l : List UInt8) (n : Int), 0 ≤ n → n ≤ 65535 → (hx l n).2 = none → 0 ≤ (hx l n).1 ∧ (hx l n).1 ≤ 65535
 | [], n, h0, h1, _ => ⟨h0, h1⟩
 | c :: l, n, h0, h1, h => by
  have e : hx (c :: l) n = H.step (dig c.toNat) n (hx l) := by
   rw [hx]
   unfold H.step
   cases dig (c.toNat : Int) <;> rfl
  rw [e] at h ⊢
  exact step_range (fun x hx => low_range ⟨c.toNat, c.toNat_lt⟩ x hx) h0 (fun m a b q => hx_range l m a b q) h
theorem u4_range {s : ByteArray} {x : Int} (h : u4 s = some x) : 0 ≤ x ∧ x ≤ 65535 := by
 unfold u4 at h
 split at h
 ·rename_i y e
  obtain rfl := Option.some.inj h
  have := hx_range s.data.toList 0 (by omega) (by omega) (by rw [e])
  rw [e] at this
  exact this
 cases h
theorem u4_ne {s : ByteArray} (h : s.size = 4) : s.toList ≠ [] := fun e => by
 have := congrArg List.length e
 rw [Go.ByteArray.toList_eq] at this
 simp only [List.length_nil, Array.length_toList] at this
 have hz : s.size = s.data.size := rfl
 omega
theorem u4_ok {s : ByteArray} {x : Int} (h : u4 s = some x) (h4 : s.size = 4) (w : World) : Calls Tryd.prog 88 #[.string s, .int .i64 16, .int .i64 16] w fun e w' => e = .returned (.tuple #[.int .u64 x, .nilIface]) ∧ Below w.heap.size w w' := by
 have hin := H.parseUint s w (u4_ne h4) (by omega)
 unfold u4 at h
 split at h
 ·rename_i y e
  obtain rfl := Option.some.inj h
  rw [e] at hin
  exact H.pu_none s y w hin
 cases h
theorem u4_bad {s : ByteArray} (h : u4 s = none) (h4 : s.size = 4) (w : World) (te6 te7 : TypeId) (pe6 pe7 : Value) (hv6 : w.cell? ⟨0, 0, none⟩ = some (.iface te6 pe6)) (hv7 : w.cell? ⟨1, 0, none⟩ = some (.iface te7 pe7)) :
  Calls Tryd.prog 88 #[.string s, .int .i64 16, .int .i64 16] w fun e w' => ∃ (m : Int) (et : Nat) (ep : Value), e = .returned (.tuple #[.int .u64 m, .iface et ep]) ∧ Below w.heap.size w w' := by
 have hin := H.parseUint s w (u4_ne h4) (by omega)
 have hrc := H.hx_err s.data.toList 0
 unfold u4 at h
 split at h
 ·cases h
 rename_i y c e
 rw [e] at hin hrc
 rcases hrc c rfl with rfl | rfl
 ·exact (H.pu_syntax s y te6 pe6 w (by omega) hv6 hin).mono fun e w' ⟨p, he, hb⟩ => ⟨_, _, _, he, hb⟩
 exact (H.pu_range s y te7 pe7 w (by omega) hv7 hin).mono fun e w' ⟨p, he, hb⟩ => ⟨_, _, _, he, hb⟩
/-! ### what it computes -/
def dr (x y : Int) : Int := (utf16_DecodeRune.f x y).getD 65533
theorem dr_some (x y : Int) : utf16_DecodeRune.f x y = some (dr x y) := by
 unfold dr utf16_DecodeRune.f
 repeat' split
 all_goals rfl
def sur (x : Int) : Bool := (utf16_IsSurrogate.f x).getD false
theorem sur_some (x : Int) : utf16_IsSurrogate.f x = some (sur x) := by
 unfold sur utf16_IsSurrogate.f
 split <;> rfl
/-- The bytes for an escape whose letter is ch, s behind it; and what is left. -/
def oneU (ch : Int) (s : ByteArray) : List Int × ByteArray :=
 if ch = 34 then ([34], s) else if ch = 92 then ([92], s) else if ch = 47 then ([47], s) else if ch = 98 then ([8], s) else if ch = 102 then ([12], s) else if ch = 110 then ([10], s) else if ch = 114 then ([13], s) else if ch = 116 then ([9], s) else
 if ch = 117 then
  if s.size < 4 then ([92, 117], s) else match u4 (s.extract 0 4) with
  | none => ([92, 117], s)
  | some x => if sur x = false then (bytesOf (Utf8.encode x), s.extract 4 s.size) else
   if (s.extract 4 s.size).size < 6 ∨ bt (s.extract 4 s.size) 0 ≠ 92 ∨ bt (s.extract 4 s.size) 1 ≠ 117 then ([92, 117] ++ bytesOf (s.extract 0 4), s.extract 4 s.size) else match u4 ((s.extract 4 s.size).extract 2 6) with
   | none => ([92, 117] ++ bytesOf (s.extract 0 4), s.extract 4 s.size)
   | some y => (bytesOf (Utf8.encode (dr x y)), (s.extract 4 s.size).extract 6 (s.extract 4 s.size).size)
 else ([92, ch], s)
def loopU : Nat → List Int → ByteArray → Option (List Int)
 | 0, _, _ => none
 | k + 1, out, s => if s.size = 0 then some out else
  match ix 92 (bytesOf (oneU (bt s 0) (s.extract 1 s.size)).2) with
  | none => some (out ++ (oneU (bt s 0) (s.extract 1 s.size)).1 ++ bytesOf (oneU (bt s 0) (s.extract 1 s.size)).2)
  | some n => loopU k (out ++ (oneU (bt s 0) (s.extract 1 s.size)).1 ++ bytesOf ((oneU (bt s 0) (s.extract 1 s.size)).2.extract 0 n)) ((oneU (bt s 0) (s.extract 1 s.size)).2.extract (n + 1) (oneU (bt s 0) (s.extract 1 s.size)).2.size)
def unU (k : Nat) (s : ByteArray) : Option ByteArray := match ix 92 (bytesOf s) with
 | none => some s
 | some n => (loopU k ((bytesOf s).take n) (s.extract (n + 1) s.size)).bind fun l => some (strOfNums l)
theorem encode_size (r : Int) : (Utf8.encode r).size ≤ 4 := by
 by_cases hv : Utf8.valid r = true
 ·by_cases h : 128 ≤ r
  ·exact (encode_facts r hv h).2.1
  unfold Utf8.encode
  simp only [hv, if_true]
  have hc : r.toNat < 128 := by omega
  simp only [hc, if_true]
  show 1 ≤ 4
  omega
 unfold Utf8.encode
 simp only [hv]
 show 3 ≤ 4
 omega
set_option maxHeartbeats 2000000 in
set_option maxRecDepth 100000 in
theorem un_none (s : ByteArray) (hi : ix 92 (bytesOf s) = none) (w : World) : Calls Tryd.prog 64 #[.string s] w fun e w' => e = .returned (.string s) ∧ Below w.heap.size w w' := by
 have hI := index_ix s 92 (by omega) (by omega)
 rw [hi] at hI
 have HI := Aside0.mk hI
 clear hi hI
 go_enter Tryd.func64, Tryd.ntmps64
 go_wp2_with (go_at_call 87; refine (strings_IndexByte.calls s 92 _ _ HI.out).mono ?_; rintro e w1 ⟨rfl, hd⟩; have HB := Aside0.mk (hd.below); clear hd)
 go_ret
 exact ⟨rfl, HB.out⟩
set_option maxHeartbeats 2000000 in
set_option maxRecDepth 100000 in
theorem s2b_calls (s : ByteArray) (hs : s.size ≤ 100000) (w : World) : Calls Tryd.prog 86 #[.string s] w fun e w' => ∃ g cap : Nat, e = .returned (.slice (some ⟨g, 0, none⟩) s.size cap) ∧ MB w' 5 g cap (bytesOf s) ∧ Below w.heap.size w w' ∧ w.heap.size ≤ g := by
 have kb := fun W => print_bytes (P := Tryd.prog) 9 47 5 Tryd.underlying9 Tryd.underlying47 Tryd.underlying5 s W
 have HS : Aside0 (s.size ≤ 100000) := ⟨hs⟩
 clear hs
 go_enter Tryd.func86, Tryd.ntmps86
 go_wp2
 go_ret
 have hs := HS.out
 exact ⟨_, _, rfl, MB.made w _ s (by omega) (grownCap_le_maxLen w s.size 0 _ (by simp only [maxLen]; omega)), bytes_below (Below.refl _ w) (Nat.le_refl _) _ s, Nat.le_refl _⟩
theorem cutR (s : ByteArray) (i : Int) (n : Nat) (hi : i = n) (hn : n ≤ s.size) (W : World) : (Instr.slice 9 (.string s) (some (.int .i64 i)) none none).run Tryd.prog W = .ok (.string (s.extract n s.size)) W := by
 have := run_slice_string_l (P := Tryd.prog) W 9 s Tryd.underlying9 .i64 i (by omega) (by omega)
 rw [this, hi, Int.toNat_natCast]
theorem cutH (s : ByteArray) (i : Int) (n : Nat) (hi : i = n) (hn : n ≤ s.size) (W : World) : (Instr.slice 9 (.string s) none (some (.int .i64 i)) none).run Tryd.prog W = .ok (.string (s.extract 0 n)) W := by
 have := run_slice_string_h (P := Tryd.prog) W 9 s Tryd.underlying9 .i64 i (by omega) (by omega)
 rw [this, hi, Int.toNat_natCast]
theorem cutM (s : ByteArray) (i j : Int) (n m : Nat) (hi : i = n) (hj : j = m) (hn : n ≤ m) (hm : m ≤ s.size) (W : World) : (Instr.slice 9 (.string s) (some (.int .i64 i)) (some (.int .i64 j)) none).run Tryd.prog W = .ok (.string (s.extract n m)) W := by
 have := run_slice_string (P := Tryd.prog) W 9 s .i64 .i64 i j Tryd.underlying9 (by omega) (by omega) (by omega)
 rw [this, hi, hj, Int.toNat_natCast, Int.toNat_natCast]
set_option maxHeartbeats 2000000 in
set_option maxRecDepth 100000 in
theorem b2s_mb {w : World} {g cap : Nat} {xs : List Int} (h : MB w 5 g cap xs) : Calls Tryd.prog 50 #[.slice (some ⟨g, 0, none⟩) xs.length cap] w fun e w' => e = .returned (.string (strOfNums xs)) ∧ w' = w := by
 have hcv := h.string (P := Tryd.prog) 47 9 Tryd.underlying47 Tryd.underlying5 Tryd.underlying9
 clear h
 go_enter Tryd.func50, Tryd.ntmps50
 go_wp2
 go_ret
 exact ⟨rfl, rfl⟩
theorem inf_u8 : (Tryd.prog.info? 5).map (fun i => (i.zero, i.size, i.bytes)) = some (some (.int .u8 0), 1, 1) := by kernel_rfl
structure UL (w wr : World) (g cap kq : Nat) (out : List Int) (s : ByteArray) (l : List Int) : Prop where
 mb : MB wr 5 g cap out
 blw : Below w.heap.size w wr
 room : out.length + 1 + s.size ≤ cap
 sz : s.size ≤ 100000
 go : loopU kq out s = some l
theorem glob {w W : World} {q : Nat} {v : Value} (h : Below w.heap.size w W) (hv : w.cell? ⟨q, 0, none⟩ = some v) : W.cell? ⟨q, 0, none⟩ = some v := (h.cell (World.block_lt_of_cell? w _ hv)).trans hv
theorem i32_id {x : Int} (h0 : 0 ≤ x) (h1 : x ≤ 65535) : IntKind.i32.wrap x = x := by rw [i32_w]; unfold wrap32; omega
theorem pre_sz {s : ByteArray} {n : Nat} (h : n ≤ s.size) : (s.extract 0 n).size = n := by
 rw [← bytesOf_length, bytesOf_extract, List.drop_zero, List.length_take, bytesOf_length]; omega
theorem nat_neg (m : Nat) : decide ((m : Int) < 0) = false := decide_eq_false (by omega)
theorem wrap_m {m n : Nat} (h : m < n) (hn : n ≤ 100000) : wrap64 ((m : Int) + 1) = ((m + 1 : Nat) : Int) := by unfold wrap64; omega
theorem dec_lt {n k : Nat} (h : n < k) : decide ((n : Int) < (k : Int)) = true := decide_eq_true (Int.ofNat_lt.2 h)
theorem dec_ge {n k : Nat} (h : ¬ n < k) : decide ((n : Int) < (k : Int)) = false := decide_eq_false (fun q => h (Int.ofNat_lt.1 q))
theorem room_1 {o n cap : Nat} (h : o + 2 + n ≤ cap) : o + 1 + n ≤ cap := by omega
theorem room_b {o c n k cap : Nat} (h : o + c + n ≤ cap) (hk : k ≤ c) : o + k ≤ cap := by omega
theorem room_t {l o c n cap : Nat} (hn : l ≤ o + c) (h : o + c + n ≤ cap) : l + n ≤ cap := by omega
theorem room_p {l o c cap m : Nat} {t : ByteArray} (hn : l ≤ o + c) (h : o + c + t.size ≤ cap) (hm : m < t.size) : l + (t.extract 0 m).size ≤ cap := by rw [pre_sz (Nat.le_of_lt hm)]; omega
theorem room_u {y l : List Int} {o c cap m : Nat} {t : ByteArray} (hy : y = l ++ bytesOf (t.extract 0 m)) (hn : l.length ≤ o + c) (h : o + c + t.size ≤ cap) (hm : m < t.size) : y.length + 1 + (t.extract (m + 1) t.size).size ≤ cap := by
 rw [hy, List.length_append, bytesOf_length, pre_sz (Nat.le_of_lt hm), suf_size]; omega
theorem sz_suf {t : ByteArray} {m k : Nat} (h : t.size ≤ k) : (t.extract m t.size).size ≤ k := by rw [suf_size]; omega
theorem len_1 {z l ys : List Int} {c : Nat} (hz : z = l ++ ys) (hc : ys.length ≤ c) : z.length ≤ l.length + c := by rw [hz, List.length_append]; omega
theorem len_s {z l : List Int} {y : ByteArray} {c : Nat} (hz : z = l ++ bytesOf y) (hc : y.size ≤ c) : z.length ≤ l.length + c := by rw [hz, List.length_append, bytesOf_length]; omega
theorem sz_r4 {r t k : Nat} (h : r + 4 ≤ t) (hk : t ≤ k) : r ≤ k := by omega
theorem room_4 {o t r cap : Nat} (h : o + 2 + t ≤ cap) (hr : r + 4 ≤ t) : o + 4 + r ≤ cap := by omega
theorem room_6 {o t r cap : Nat} (h : o + 2 + t ≤ cap) (hr : r + 4 ≤ t) : o + 6 + r ≤ cap := by omega
theorem room_8 {o t r cap : Nat} (h : o + 6 + t ≤ cap) (hr : r ≤ t) : o + 4 + r ≤ cap := by omega
theorem room_x {z l : List Int} {y x : ByteArray} {n cap : Nat} (hz : z = l ++ bytesOf y) (hx : x.size = 4) (h : l.length + 6 + n ≤ cap) (hy : y.size ≤ 2 := by decide) : z.length + x.size ≤ cap := by rw [hz, List.length_append, bytesOf_length]; omega
theorem len_x {z q l : List Int} {y x : ByteArray} (hz : z = l ++ bytesOf y) (hq : q = z ++ bytesOf x) (hx : x.size = 4) (hy : y.size ≤ 2 := by decide) : q.length ≤ l.length + 6 := by rw [hq, hz, List.length_append, List.length_append, bytesOf_length, bytesOf_length]; omega
theorem mid_sz {s : ByteArray} (h : 6 ≤ s.size) : (s.extract 2 6).size = 4 := by
 rw [← bytesOf_length, bytesOf_extract, List.length_drop, List.length_take, bytesOf_length]; omega
set_option maxHeartbeats 20000000 in
set_option maxRecDepth 100000 in
theorem un_some (k n : Nat) (s : ByteArray) (l : List Int) (hi : ix 92 (bytesOf s) = some n) (hs : s.size ≤ 100000) (hl : loopU k ((bytesOf s).take n) (s.extract (n + 1) s.size) = some l) (w : World) (te6 te7 : TypeId) (pe6 pe7 : Value) (hv6 : w.cell? ⟨0, 0, none⟩ = some (.iface te6 pe6)) (hv7 : w.cell? ⟨1, 0, none⟩ = some (.iface te7 pe7)) : Calls Tryd.prog 64 #[.string s] w fun e w' => e = .returned (.string (strOfNums l)) ∧ Below w.heap.size w w' := by
 have hI := index_ix s 92 (by omega) (by omega)
 rw [hi, show toI (some n) = (n : Int) from rfl] at hI
 have HI := Aside0.mk hI
 have hlt := (ix_some hi).1
 rw [bytesOf_length] at hlt
 have hd0 : decide ((n : Int) < 0) = false := decide_eq_false (by omega)
 have hw1 : wrap64 ((n : Int) + 1) = ((n + 1 : Nat) : Int) := by unfold wrap64; omega
 have hcs := cutR s ((n + 1 : Nat) : Int) (n + 1) rfl (by omega)
 have hn0 : (0 : Int) ≤ (n : Int) := by omega
 have HS : Aside0 (s.size ≤ 100000 ∧ n < s.size) := ⟨hs, hlt⟩
 have HL := Aside0.mk hl
 have HV6 := Aside0.mk hv6
 have HV7 := Aside0.mk hv7
 clear hi hI hs hl hv6 hv7
 go_enter Tryd.func64, Tryd.ntmps64
 go_wp2_with (first
  | (go_at_call 87; refine (strings_IndexByte.calls s 92 _ _ HI.out).mono ?_; rintro e w1 ⟨rfl, hd⟩; have HB := Aside0.mk (hd.below); clear hd)
  | (go_at_call 86; refine (s2b_calls s HS.out.1 _).mono ?_; rintro e w2 ⟨g, cap, rfl, hm, hb2, hg⟩; have hnc : (n : Int) ≤ (cap : Int) := (by have := hm.le; rw [bytesOf_length] at this; have := HS.out.2; omega); have HM := Aside0.mk hm; have HB2 := Aside0.mk (HB.out.trans (hb2.mono HB.out.size)); have HG := Aside0.mk hg; clear hm hb2 hg))
 have HU : Aside0 (UL w w2 g cap k ((bytesOf s).take n) (s.extract (n + 1) s.size) l) := by
  have h := HS.out
  have hle := HM.out.le
  rw [bytesOf_length] at hle
  refine ⟨HM.out.take n, HB2.out, ?_, ?_, HL.out⟩
  ·rw [List.length_take, bytesOf_length, suf_size]; omega
  rw [suf_size]; omega
 have hlen : ((bytesOf s).take n).length = n := by rw [List.length_take, bytesOf_length]; omega
 have HG2 : Aside0 (w.heap.size ≤ g) := ⟨by have := HG.out; have := HB.out.size; omega⟩
 clear HM HB HB2 HG HL HS HI hw1 hcs hd0 hn0 hnc
 go_loopg [0, 4] k (fun kq v0 v4 wr => ∃ (s : ByteArray) (out : List Int), v0 = .string s ∧ v4 = .slice (some ⟨g, 0, none⟩) out.length cap ∧ Aside0 (UL w wr g cap kq out s l))
 case atStart => exact ⟨_, _, rfl, by rw [hlen], HU⟩
 case round =>
  clear HU hlen
  obtain ⟨s, out, rfl, rfl, HU⟩ := hrel
  have HM := Aside0.mk HU.out.mb
  have HB := Aside0.mk HU.out.blw
  have hroom := HU.out.room
  have hsz := HU.out.sz
  have hgo := HU.out.go
  have HG := HG2
  clear HU HG2
  cases gk with
  | zero => cases hgo
  | succ j =>
  rw [loopU] at hgo
  by_cases h0 : s.size = 0
  ·rw [if_pos h0] at hgo
   obtain rfl := Option.some.inj hgo
   have hd : decide ((0 : Int) < (s.size : Int)) = false := decide_eq_false (by omega)
   clear hgo
   go_wp2_with (first | (go_at_call 50; refine (b2s_mb HM.out).mono ?_; rintro e w9 ⟨rfl, rfl⟩))
   go_ret
   exact ⟨rfl, HB.out⟩
  rw [if_neg h0] at hgo
  have hd : decide ((0 : Int) < (s.size : Int)) = true := decide_eq_true (by omega)
  have e1 : (1 : Int) ≤ (s.size : Int) := by omega
  have e2 : (0 < s.size) = True := eq_true (by omega)
  have e3 : (0 < (s.size : Int)) = True := eq_true (by omega)
  have e4 : ∀ h : 0 < s.size, ((s[0]'h).toNat : Int) = bt s 0 := bt_at s 0
  have hcs := cutR s 1 1 rfl (by omega)
  obtain ⟨t, ht⟩ : ∃ t, t = s.extract 1 s.size := ⟨_, rfl⟩
  rw [← ht] at hgo hcs
  have hts : t.size + 1 ≤ s.size := by rw [ht, suf_size]; omega
  have HT : Aside0 (out.length + 2 + t.size ≤ cap) := ⟨by omega⟩
  have HS1 : Aside0 (t.size ≤ 100000) := ⟨by omega⟩
  clear ht h0 hts hroom hsz
  -- BEGIN ways
  by_cases c0 : bt s 0 = 34
  ·have k0 : (bt s 0 == 34) = true := beq_iff_eq.2 c0
   have hone : oneU (bt s 0) t = ([34], t) := by unfold oneU; rw [if_pos c0]
   rw [hone] at hgo
   simp only at hgo
   have HR := Aside0.mk (room_1 HT.out)
   clear hone c0
   as_aux_lemma =>
    cases hix : ix 92 (bytesOf t) with
    | none =>
     rw [hix] at hgo
     obtain rfl := Option.some.inj hgo
     have HI := Aside0.mk (index_ix t 92 (by decide) (by decide))
     rw [hix, show toI (none : Option Nat) = -1 from rfl] at HI
     clear hgo hix
     go_wp2_with (first | ((with_reducible refine gate_builtin (b := .append) (xs := #[_, _]) rfl ?_); at_builtin; refine MB_num ?hgd_p0a ?os_p0a ?ox_p0a 47 5 ?ho_p0a Tryd.underlying47 inf_u8 g cap out [34] _ rfl ?hs_p0a ?hx_p0a HM.out (room_b HR.out (by decide)) ?_; (case hgd_p0a => rfl); (case ho_p0a => rfl); (case hs_p0a => rfl); (case hx_p0a => rfl); intro W_p0a hm hgr; obtain ⟨p0a, hz⟩ : ∃ z, z = out ++ [34] := ⟨_, rfl⟩; rw [← hz] at hm ⊢; have HZp0a := Aside0.mk hz; have HB1 := Aside0.mk ((HB.out.alloc HB.out.size _).grown hgr (by simp; have := HB.out.size; omega) (fun r e => by obtain rfl := Option.some.inj e; exact HG.out)); clear hz HM HB; have HM := Aside0.mk hm; have HB := HB1; clear hm hgr HB1) | (go_at_call 87; refine (strings_IndexByte.calls t 92 _ _ HI.out).mono ?_; rintro e w7 ⟨rfl, hd⟩; have HM1 := Aside0.mk (HM.out.of (hd.below.block g HM.out.lt)); have HB1 := Aside0.mk (HB.out.trans (hd.below.mono HB.out.size)); clear HM HB; have HM := HM1; have HB := HB1; clear HM1 HB1 hd; (try clear hwx); (try clear hwy); (try clear b0); (try clear b1)) | ((with_reducible refine gate_builtin (b := .append) (xs := #[_, _]) rfl ?_); at_builtin; refine MB_str ?hgd_l0z ?os_l0z ?ox_l0z 47 9 5 ?ho_l0z Tryd.underlying47 Tryd.underlying9 inf_u8 g cap p0a t ?hs_l0z ?hx_l0z HM.out (room_t (len_1 HZp0a.out (by decide)) HR.out) ?_; (case hgd_l0z => rfl); (case ho_l0z => rfl); (case hs_l0z => rfl); (case hx_l0z => rfl); intro W_l0z hm hgr; obtain ⟨l0z, hz⟩ : ∃ z, z = p0a ++ bytesOf t := ⟨_, rfl⟩; rw [← hz] at hm ⊢; have HZl0z := Aside0.mk hz; have HB1 := Aside0.mk (HB.out.grown hgr HB.out.size (fun r e => by obtain rfl := Option.some.inj e; exact HG.out)); clear hz HM HB; have HM := Aside0.mk hm; have HB := HB1; clear hm hgr HB1) | (go_at_call 50; refine (b2s_mb HM.out).mono ?_; rintro e w9l0 ⟨rfl, rfl⟩))
     go_ret
     refine ⟨?_, HB.out⟩
     rw [HZl0z.out, HZp0a.out]
     rfl
    | some m =>
     rw [hix] at hgo
     have hI := index_ix t 92 (by decide) (by decide)
     rw [hix, show toI (some m) = (m : Int) from rfl] at hI
     have hm := (ix_some hix).1
     rw [bytesOf_length] at hm
     have HI := Aside0.mk hI
     have HGO := Aside0.mk hgo
     have hmd := nat_neg m
     have hmw := wrap_m hm HS1.out
     have hmh := cutH t (m : Int) m rfl (Nat.le_of_lt hm)
     have hmr := cutR t ((m + 1 : Nat) : Int) (m + 1) rfl hm
     have HM0 := Aside0.mk hm
     clear hgo hix hI
     go_wp2_with (first | ((with_reducible refine gate_builtin (b := .append) (xs := #[_, _]) rfl ?_); at_builtin; refine MB_num ?hgd_p0b ?os_p0b ?ox_p0b 47 5 ?ho_p0b Tryd.underlying47 inf_u8 g cap out [34] _ rfl ?hs_p0b ?hx_p0b HM.out (room_b HR.out (by decide)) ?_; (case hgd_p0b => rfl); (case ho_p0b => rfl); (case hs_p0b => rfl); (case hx_p0b => rfl); intro W_p0b hm hgr; obtain ⟨p0b, hz⟩ : ∃ z, z = out ++ [34] := ⟨_, rfl⟩; rw [← hz] at hm ⊢; have HZp0b := Aside0.mk hz; have HB1 := Aside0.mk ((HB.out.alloc HB.out.size _).grown hgr (by simp; have := HB.out.size; omega) (fun r e => by obtain rfl := Option.some.inj e; exact HG.out)); clear hz HM HB; have HM := Aside0.mk hm; have HB := HB1; clear hm hgr HB1) | (go_at_call 87; refine (strings_IndexByte.calls t 92 _ _ HI.out).mono ?_; rintro e w7 ⟨rfl, hd⟩; have HM1 := Aside0.mk (HM.out.of (hd.below.block g HM.out.lt)); have HB1 := Aside0.mk (HB.out.trans (hd.below.mono HB.out.size)); clear HM HB; have HM := HM1; have HB := HB1; clear HM1 HB1 hd; (try clear hwx); (try clear hwy); (try clear b0); (try clear b1)) | ((with_reducible refine gate_builtin (b := .append) (xs := #[_, _]) rfl ?_); at_builtin; refine MB_str ?hgd_l0y ?os_l0y ?ox_l0y 47 9 5 ?ho_l0y Tryd.underlying47 Tryd.underlying9 inf_u8 g cap p0b (t.extract 0 m) ?hs_l0y ?hx_l0y HM.out (room_p (len_1 HZp0b.out (by decide)) HR.out HM0.out) ?_; (case hgd_l0y => rfl); (case ho_l0y => rfl); (case hs_l0y => rfl); (case hx_l0y => rfl); intro W_l0y hm hgr; obtain ⟨l0y, hz⟩ : ∃ z, z = p0b ++ bytesOf (t.extract 0 m) := ⟨_, rfl⟩; rw [← hz] at hm ⊢; have HZl0y := Aside0.mk hz; have HB1 := Aside0.mk (HB.out.grown hgr HB.out.size (fun r e => by obtain rfl := Option.some.inj e; exact HG.out)); clear hz HM HB; have HM := Aside0.mk hm; have HB := HB1; clear hm hgr HB1))
     go_roundg j
     case measure => exact Nat.lt_succ_self _
     case rel =>
      refine ⟨t.extract (m + 1) t.size, l0y, rfl, rfl, ⟨⟨HM.out, HB.out, room_u HZl0y.out (len_1 HZp0b.out (by decide)) HR.out HM0.out, sz_suf HS1.out, ?_⟩⟩⟩
      rw [HZl0y.out, HZp0b.out]; exact HGO.out
  have k0 : (bt s 0 == 34) = false := beq_eq_false_iff_ne.2 c0
  have C0 := Aside0.mk c0
  clear c0
  by_cases c1 : bt s 0 = 92
  ·have k1 : (bt s 0 == 92) = true := beq_iff_eq.2 c1
   have hone : oneU (bt s 0) t = ([92], t) := by unfold oneU; rw [if_neg C0.out, if_pos c1]
   rw [hone] at hgo
   simp only at hgo
   have HR := Aside0.mk (room_1 HT.out)
   clear hone c1
   as_aux_lemma =>
    cases hix : ix 92 (bytesOf t) with
    | none =>
     rw [hix] at hgo
     obtain rfl := Option.some.inj hgo
     have HI := Aside0.mk (index_ix t 92 (by decide) (by decide))
     rw [hix, show toI (none : Option Nat) = -1 from rfl] at HI
     clear hgo hix
     go_wp2_with (first | ((with_reducible refine gate_builtin (b := .append) (xs := #[_, _]) rfl ?_); at_builtin; refine MB_num ?hgd_p1a ?os_p1a ?ox_p1a 47 5 ?ho_p1a Tryd.underlying47 inf_u8 g cap out [92] _ rfl ?hs_p1a ?hx_p1a HM.out (room_b HR.out (by decide)) ?_; (case hgd_p1a => rfl); (case ho_p1a => rfl); (case hs_p1a => rfl); (case hx_p1a => rfl); intro W_p1a hm hgr; obtain ⟨p1a, hz⟩ : ∃ z, z = out ++ [92] := ⟨_, rfl⟩; rw [← hz] at hm ⊢; have HZp1a := Aside0.mk hz; have HB1 := Aside0.mk ((HB.out.alloc HB.out.size _).grown hgr (by simp; have := HB.out.size; omega) (fun r e => by obtain rfl := Option.some.inj e; exact HG.out)); clear hz HM HB; have HM := Aside0.mk hm; have HB := HB1; clear hm hgr HB1) | (go_at_call 87; refine (strings_IndexByte.calls t 92 _ _ HI.out).mono ?_; rintro e w7 ⟨rfl, hd⟩; have HM1 := Aside0.mk (HM.out.of (hd.below.block g HM.out.lt)); have HB1 := Aside0.mk (HB.out.trans (hd.below.mono HB.out.size)); clear HM HB; have HM := HM1; have HB := HB1; clear HM1 HB1 hd; (try clear hwx); (try clear hwy); (try clear b0); (try clear b1)) | ((with_reducible refine gate_builtin (b := .append) (xs := #[_, _]) rfl ?_); at_builtin; refine MB_str ?hgd_l1z ?os_l1z ?ox_l1z 47 9 5 ?ho_l1z Tryd.underlying47 Tryd.underlying9 inf_u8 g cap p1a t ?hs_l1z ?hx_l1z HM.out (room_t (len_1 HZp1a.out (by decide)) HR.out) ?_; (case hgd_l1z => rfl); (case ho_l1z => rfl); (case hs_l1z => rfl); (case hx_l1z => rfl); intro W_l1z hm hgr; obtain ⟨l1z, hz⟩ : ∃ z, z = p1a ++ bytesOf t := ⟨_, rfl⟩; rw [← hz] at hm ⊢; have HZl1z := Aside0.mk hz; have HB1 := Aside0.mk (HB.out.grown hgr HB.out.size (fun r e => by obtain rfl := Option.some.inj e; exact HG.out)); clear hz HM HB; have HM := Aside0.mk hm; have HB := HB1; clear hm hgr HB1) | (go_at_call 50; refine (b2s_mb HM.out).mono ?_; rintro e w9l1 ⟨rfl, rfl⟩))
     go_ret
     refine ⟨?_, HB.out⟩
     rw [HZl1z.out, HZp1a.out]
     rfl
    | some m =>
     rw [hix] at hgo
     have hI := index_ix t 92 (by decide) (by decide)
     rw [hix, show toI (some m) = (m : Int) from rfl] at hI
     have hm := (ix_some hix).1
     rw [bytesOf_length] at hm
     have HI := Aside0.mk hI
     have HGO := Aside0.mk hgo
     have hmd := nat_neg m
     have hmw := wrap_m hm HS1.out
     have hmh := cutH t (m : Int) m rfl (Nat.le_of_lt hm)
     have hmr := cutR t ((m + 1 : Nat) : Int) (m + 1) rfl hm
     have HM0 := Aside0.mk hm
     clear hgo hix hI
     go_wp2_with (first | ((with_reducible refine gate_builtin (b := .append) (xs := #[_, _]) rfl ?_); at_builtin; refine MB_num ?hgd_p1b ?os_p1b ?ox_p1b 47 5 ?ho_p1b Tryd.underlying47 inf_u8 g cap out [92] _ rfl ?hs_p1b ?hx_p1b HM.out (room_b HR.out (by decide)) ?_; (case hgd_p1b => rfl); (case ho_p1b => rfl); (case hs_p1b => rfl); (case hx_p1b => rfl); intro W_p1b hm hgr; obtain ⟨p1b, hz⟩ : ∃ z, z = out ++ [92] := ⟨_, rfl⟩; rw [← hz] at hm ⊢; have HZp1b := Aside0.mk hz; have HB1 := Aside0.mk ((HB.out.alloc HB.out.size _).grown hgr (by simp; have := HB.out.size; omega) (fun r e => by obtain rfl := Option.some.inj e; exact HG.out)); clear hz HM HB; have HM := Aside0.mk hm; have HB := HB1; clear hm hgr HB1) | (go_at_call 87; refine (strings_IndexByte.calls t 92 _ _ HI.out).mono ?_; rintro e w7 ⟨rfl, hd⟩; have HM1 := Aside0.mk (HM.out.of (hd.below.block g HM.out.lt)); have HB1 := Aside0.mk (HB.out.trans (hd.below.mono HB.out.size)); clear HM HB; have HM := HM1; have HB := HB1; clear HM1 HB1 hd; (try clear hwx); (try clear hwy); (try clear b0); (try clear b1)) | ((with_reducible refine gate_builtin (b := .append) (xs := #[_, _]) rfl ?_); at_builtin; refine MB_str ?hgd_l1y ?os_l1y ?ox_l1y 47 9 5 ?ho_l1y Tryd.underlying47 Tryd.underlying9 inf_u8 g cap p1b (t.extract 0 m) ?hs_l1y ?hx_l1y HM.out (room_p (len_1 HZp1b.out (by decide)) HR.out HM0.out) ?_; (case hgd_l1y => rfl); (case ho_l1y => rfl); (case hs_l1y => rfl); (case hx_l1y => rfl); intro W_l1y hm hgr; obtain ⟨l1y, hz⟩ : ∃ z, z = p1b ++ bytesOf (t.extract 0 m) := ⟨_, rfl⟩; rw [← hz] at hm ⊢; have HZl1y := Aside0.mk hz; have HB1 := Aside0.mk (HB.out.grown hgr HB.out.size (fun r e => by obtain rfl := Option.some.inj e; exact HG.out)); clear hz HM HB; have HM := Aside0.mk hm; have HB := HB1; clear hm hgr HB1))
     go_roundg j
     case measure => exact Nat.lt_succ_self _
     case rel =>
      refine ⟨t.extract (m + 1) t.size, l1y, rfl, rfl, ⟨⟨HM.out, HB.out, room_u HZl1y.out (len_1 HZp1b.out (by decide)) HR.out HM0.out, sz_suf HS1.out, ?_⟩⟩⟩
      rw [HZl1y.out, HZp1b.out]; exact HGO.out
  have k1 : (bt s 0 == 92) = false := beq_eq_false_iff_ne.2 c1
  have C1 := Aside0.mk c1
  clear c1
  by_cases c2 : bt s 0 = 47
  ·have k2 : (bt s 0 == 47) = true := beq_iff_eq.2 c2
   have hone : oneU (bt s 0) t = ([47], t) := by unfold oneU; rw [if_neg C0.out, if_neg C1.out, if_pos c2]
   rw [hone] at hgo
   simp only at hgo
   have HR := Aside0.mk (room_1 HT.out)
   clear hone c2
   as_aux_lemma =>
    cases hix : ix 92 (bytesOf t) with
    | none =>
     rw [hix] at hgo
     obtain rfl := Option.some.inj hgo
     have HI := Aside0.mk (index_ix t 92 (by decide) (by decide))
     rw [hix, show toI (none : Option Nat) = -1 from rfl] at HI
     clear hgo hix
     go_wp2_with (first | ((with_reducible refine gate_builtin (b := .append) (xs := #[_, _]) rfl ?_); at_builtin; refine MB_num ?hgd_p2a ?os_p2a ?ox_p2a 47 5 ?ho_p2a Tryd.underlying47 inf_u8 g cap out [47] _ rfl ?hs_p2a ?hx_p2a HM.out (room_b HR.out (by decide)) ?_; (case hgd_p2a => rfl); (case ho_p2a => rfl); (case hs_p2a => rfl); (case hx_p2a => rfl); intro W_p2a hm hgr; obtain ⟨p2a, hz⟩ : ∃ z, z = out ++ [47] := ⟨_, rfl⟩; rw [← hz] at hm ⊢; have HZp2a := Aside0.mk hz; have HB1 := Aside0.mk ((HB.out.alloc HB.out.size _).grown hgr (by simp; have := HB.out.size; omega) (fun r e => by obtain rfl := Option.some.inj e; exact HG.out)); clear hz HM HB; have HM := Aside0.mk hm; have HB := HB1; clear hm hgr HB1) | (go_at_call 87; refine (strings_IndexByte.calls t 92 _ _ HI.out).mono ?_; rintro e w7 ⟨rfl, hd⟩; have HM1 := Aside0.mk (HM.out.of (hd.below.block g HM.out.lt)); have HB1 := Aside0.mk (HB.out.trans (hd.below.mono HB.out.size)); clear HM HB; have HM := HM1; have HB := HB1; clear HM1 HB1 hd; (try clear hwx); (try clear hwy); (try clear b0); (try clear b1)) | ((with_reducible refine gate_builtin (b := .append) (xs := #[_, _]) rfl ?_); at_builtin; refine MB_str ?hgd_l2z ?os_l2z ?ox_l2z 47 9 5 ?ho_l2z Tryd.underlying47 Tryd.underlying9 inf_u8 g cap p2a t ?hs_l2z ?hx_l2z HM.out (room_t (len_1 HZp2a.out (by decide)) HR.out) ?_; (case hgd_l2z => rfl); (case ho_l2z => rfl); (case hs_l2z => rfl); (case hx_l2z => rfl); intro W_l2z hm hgr; obtain ⟨l2z, hz⟩ : ∃ z, z = p2a ++ bytesOf t := ⟨_, rfl⟩; rw [← hz] at hm ⊢; have HZl2z := Aside0.mk hz; have HB1 := Aside0.mk (HB.out.grown hgr HB.out.size (fun r e => by obtain rfl := Option.some.inj e; exact HG.out)); clear hz HM HB; have HM := Aside0.mk hm; have HB := HB1; clear hm hgr HB1) | (go_at_call 50; refine (b2s_mb HM.out).mono ?_; rintro e w9l2 ⟨rfl, rfl⟩))
     go_ret
     refine ⟨?_, HB.out⟩
     rw [HZl2z.out, HZp2a.out]
     rfl
    | some m =>
     rw [hix] at hgo
     have hI := index_ix t 92 (by decide) (by decide)
     rw [hix, show toI (some m) = (m : Int) from rfl] at hI
     have hm := (ix_some hix).1
     rw [bytesOf_length] at hm
     have HI := Aside0.mk hI
     have HGO := Aside0.mk hgo
     have hmd := nat_neg m
     have hmw := wrap_m hm HS1.out
     have hmh := cutH t (m : Int) m rfl (Nat.le_of_lt hm)
     have hmr := cutR t ((m + 1 : Nat) : Int) (m + 1) rfl hm
     have HM0 := Aside0.mk hm
     clear hgo hix hI
     go_wp2_with (first | ((with_reducible refine gate_builtin (b := .append) (xs := #[_, _]) rfl ?_); at_builtin; refine MB_num ?hgd_p2b ?os_p2b ?ox_p2b 47 5 ?ho_p2b Tryd.underlying47 inf_u8 g cap out [47] _ rfl ?hs_p2b ?hx_p2b HM.out (room_b HR.out (by decide)) ?_; (case hgd_p2b => rfl); (case ho_p2b => rfl); (case hs_p2b => rfl); (case hx_p2b => rfl); intro W_p2b hm hgr; obtain ⟨p2b, hz⟩ : ∃ z, z = out ++ [47] := ⟨_, rfl⟩; rw [← hz] at hm ⊢; have HZp2b := Aside0.mk hz; have HB1 := Aside0.mk ((HB.out.alloc HB.out.size _).grown hgr (by simp; have := HB.out.size; omega) (fun r e => by obtain rfl := Option.some.inj e; exact HG.out)); clear hz HM HB; have HM := Aside0.mk hm; have HB := HB1; clear hm hgr HB1) | (go_at_call 87; refine (strings_IndexByte.calls t 92 _ _ HI.out).mono ?_; rintro e w7 ⟨rfl, hd⟩; have HM1 := Aside0.mk (HM.out.of (hd.below.block g HM.out.lt)); have HB1 := Aside0.mk (HB.out.trans (hd.below.mono HB.out.size)); clear HM HB; have HM := HM1; have HB := HB1; clear HM1 HB1 hd; (try clear hwx); (try clear hwy); (try clear b0); (try clear b1)) | ((with_reducible refine gate_builtin (b := .append) (xs := #[_, _]) rfl ?_); at_builtin; refine MB_str ?hgd_l2y ?os_l2y ?ox_l2y 47 9 5 ?ho_l2y Tryd.underlying47 Tryd.underlying9 inf_u8 g cap p2b (t.extract 0 m) ?hs_l2y ?hx_l2y HM.out (room_p (len_1 HZp2b.out (by decide)) HR.out HM0.out) ?_; (case hgd_l2y => rfl); (case ho_l2y => rfl); (case hs_l2y => rfl); (case hx_l2y => rfl); intro W_l2y hm hgr; obtain ⟨l2y, hz⟩ : ∃ z, z = p2b ++ bytesOf (t.extract 0 m) := ⟨_, rfl⟩; rw [← hz] at hm ⊢; have HZl2y := Aside0.mk hz; have HB1 := Aside0.mk (HB.out.grown hgr HB.out.size (fun r e => by obtain rfl := Option.some.inj e; exact HG.out)); clear hz HM HB; have HM := Aside0.mk hm; have HB := HB1; clear hm hgr HB1))
     go_roundg j
     case measure => exact Nat.lt_succ_self _
     case rel =>
      refine ⟨t.extract (m + 1) t.size, l2y, rfl, rfl, ⟨⟨HM.out, HB.out, room_u HZl2y.out (len_1 HZp2b.out (by decide)) HR.out HM0.out, sz_suf HS1.out, ?_⟩⟩⟩
      rw [HZl2y.out, HZp2b.out]; exact HGO.out
  have k2 : (bt s 0 == 47) = false := beq_eq_false_iff_ne.2 c2
  have C2 := Aside0.mk c2
  clear c2
  by_cases c3 : bt s 0 = 98
  ·have k3 : (bt s 0 == 98) = true := beq_iff_eq.2 c3
   have hone : oneU (bt s 0) t = ([8], t) := by unfold oneU; rw [if_neg C0.out, if_neg C1.out, if_neg C2.out, if_pos c3]
   rw [hone] at hgo
   simp only at hgo
   have HR := Aside0.mk (room_1 HT.out)
   clear hone c3
   as_aux_lemma =>
    cases hix : ix 92 (bytesOf t) with
    | none =>
     rw [hix] at hgo
     obtain rfl := Option.some.inj hgo
     have HI := Aside0.mk (index_ix t 92 (by decide) (by decide))
     rw [hix, show toI (none : Option Nat) = -1 from rfl] at HI
     clear hgo hix
     go_wp2_with (first | ((with_reducible refine gate_builtin (b := .append) (xs := #[_, _]) rfl ?_); at_builtin; refine MB_num ?hgd_p3a ?os_p3a ?ox_p3a 47 5 ?ho_p3a Tryd.underlying47 inf_u8 g cap out [8] _ rfl ?hs_p3a ?hx_p3a HM.out (room_b HR.out (by decide)) ?_; (case hgd_p3a => rfl); (case ho_p3a => rfl); (case hs_p3a => rfl); (case hx_p3a => rfl); intro W_p3a hm hgr; obtain ⟨p3a, hz⟩ : ∃ z, z = out ++ [8] := ⟨_, rfl⟩; rw [← hz] at hm ⊢; have HZp3a := Aside0.mk hz; have HB1 := Aside0.mk ((HB.out.alloc HB.out.size _).grown hgr (by simp; have := HB.out.size; omega) (fun r e => by obtain rfl := Option.some.inj e; exact HG.out)); clear hz HM HB; have HM := Aside0.mk hm; have HB := HB1; clear hm hgr HB1) | (go_at_call 87; refine (strings_IndexByte.calls t 92 _ _ HI.out).mono ?_; rintro e w7 ⟨rfl, hd⟩; have HM1 := Aside0.mk (HM.out.of (hd.below.block g HM.out.lt)); have HB1 := Aside0.mk (HB.out.trans (hd.below.mono HB.out.size)); clear HM HB; have HM := HM1; have HB := HB1; clear HM1 HB1 hd; (try clear hwx); (try clear hwy); (try clear b0); (try clear b1)) | ((with_reducible refine gate_builtin (b := .append) (xs := #[_, _]) rfl ?_); at_builtin; refine MB_str ?hgd_l3z ?os_l3z ?ox_l3z 47 9 5 ?ho_l3z Tryd.underlying47 Tryd.underlying9 inf_u8 g cap p3a t ?hs_l3z ?hx_l3z HM.out (room_t (len_1 HZp3a.out (by decide)) HR.out) ?_; (case hgd_l3z => rfl); (case ho_l3z => rfl); (case hs_l3z => rfl); (case hx_l3z => rfl); intro W_l3z hm hgr; obtain ⟨l3z, hz⟩ : ∃ z, z = p3a ++ bytesOf t := ⟨_, rfl⟩; rw [← hz] at hm ⊢; have HZl3z := Aside0.mk hz; have HB1 := Aside0.mk (HB.out.grown hgr HB.out.size (fun r e => by obtain rfl := Option.some.inj e; exact HG.out)); clear hz HM HB; have HM := Aside0.mk hm; have HB := HB1; clear hm hgr HB1) | (go_at_call 50; refine (b2s_mb HM.out).mono ?_; rintro e w9l3 ⟨rfl, rfl⟩))
     go_ret
     refine ⟨?_, HB.out⟩
     rw [HZl3z.out, HZp3a.out]
     rfl
    | some m =>
     rw [hix] at hgo
     have hI := index_ix t 92 (by decide) (by decide)
     rw [hix, show toI (some m) = (m : Int) from rfl] at hI
     have hm := (ix_some hix).1
     rw [bytesOf_length] at hm
     have HI := Aside0.mk hI
     have HGO := Aside0.mk hgo
     have hmd := nat_neg m
     have hmw := wrap_m hm HS1.out
     have hmh := cutH t (m : Int) m rfl (Nat.le_of_lt hm)
     have hmr := cutR t ((m + 1 : Nat) : Int) (m + 1) rfl hm
     have HM0 := Aside0.mk hm
     clear hgo hix hI
     go_wp2_with (first | ((with_reducible refine gate_builtin (b := .append) (xs := #[_, _]) rfl ?_); at_builtin; refine MB_num ?hgd_p3b ?os_p3b ?ox_p3b 47 5 ?ho_p3b Tryd.underlying47 inf_u8 g cap out [8] _ rfl ?hs_p3b ?hx_p3b HM.out (room_b HR.out (by decide)) ?_; (case hgd_p3b => rfl); (case ho_p3b => rfl); (case hs_p3b => rfl); (case hx_p3b => rfl); intro W_p3b hm hgr; obtain ⟨p3b, hz⟩ : ∃ z, z = out ++ [8] := ⟨_, rfl⟩; rw [← hz] at hm ⊢; have HZp3b := Aside0.mk hz; have HB1 := Aside0.mk ((HB.out.alloc HB.out.size _).grown hgr (by simp; have := HB.out.size; omega) (fun r e => by obtain rfl := Option.some.inj e; exact HG.out)); clear hz HM HB; have HM := Aside0.mk hm; have HB := HB1; clear hm hgr HB1) | (go_at_call 87; refine (strings_IndexByte.calls t 92 _ _ HI.out).mono ?_; rintro e w7 ⟨rfl, hd⟩; have HM1 := Aside0.mk (HM.out.of (hd.below.block g HM.out.lt)); have HB1 := Aside0.mk (HB.out.trans (hd.below.mono HB.out.size)); clear HM HB; have HM := HM1; have HB := HB1; clear HM1 HB1 hd; (try clear hwx); (try clear hwy); (try clear b0); (try clear b1)) | ((with_reducible refine gate_builtin (b := .append) (xs := #[_, _]) rfl ?_); at_builtin; refine MB_str ?hgd_l3y ?os_l3y ?ox_l3y 47 9 5 ?ho_l3y Tryd.underlying47 Tryd.underlying9 inf_u8 g cap p3b (t.extract 0 m) ?hs_l3y ?hx_l3y HM.out (room_p (len_1 HZp3b.out (by decide)) HR.out HM0.out) ?_; (case hgd_l3y => rfl); (case ho_l3y => rfl); (case hs_l3y => rfl); (case hx_l3y => rfl); intro W_l3y hm hgr; obtain ⟨l3y, hz⟩ : ∃ z, z = p3b ++ bytesOf (t.extract 0 m) := ⟨_, rfl⟩; rw [← hz] at hm ⊢; have HZl3y := Aside0.mk hz; have HB1 := Aside0.mk (HB.out.grown hgr HB.out.size (fun r e => by obtain rfl := Option.some.inj e; exact HG.out)); clear hz HM HB; have HM := Aside0.mk hm; have HB := HB1; clear hm hgr HB1))
     go_roundg j
     case measure => exact Nat.lt_succ_self _
     case rel =>
      refine ⟨t.extract (m + 1) t.size, l3y, rfl, rfl, ⟨⟨HM.out, HB.out, room_u HZl3y.out (len_1 HZp3b.out (by decide)) HR.out HM0.out, sz_suf HS1.out, ?_⟩⟩⟩
      rw [HZl3y.out, HZp3b.out]; exact HGO.out
  have k3 : (bt s 0 == 98) = false := beq_eq_false_iff_ne.2 c3
  have C3 := Aside0.mk c3
  clear c3
  by_cases c4 : bt s 0 = 102
  ·have k4 : (bt s 0 == 102) = true := beq_iff_eq.2 c4
   have hone : oneU (bt s 0) t = ([12], t) := by unfold oneU; rw [if_neg C0.out, if_neg C1.out, if_neg C2.out, if_neg C3.out, if_pos c4]
   rw [hone] at hgo
   simp only at hgo
   have HR := Aside0.mk (room_1 HT.out)
   clear hone c4
   as_aux_lemma =>
    cases hix : ix 92 (bytesOf t) with
    | none =>
     rw [hix] at hgo
     obtain rfl := Option.some.inj hgo
     have HI := Aside0.mk (index_ix t 92 (by decide) (by decide))
     rw [hix, show toI (none : Option Nat) = -1 from rfl] at HI
     clear hgo hix
     go_wp2_with (first | ((with_reducible refine gate_builtin (b := .append) (xs := #[_, _]) rfl ?_); at_builtin; refine MB_num ?hgd_p4a ?os_p4a ?ox_p4a 47 5 ?ho_p4a Tryd.underlying47 inf_u8 g cap out [12] _ rfl ?hs_p4a ?hx_p4a HM.out (room_b HR.out (by decide)) ?_; (case hgd_p4a => rfl); (case ho_p4a => rfl); (case hs_p4a => rfl); (case hx_p4a => rfl); intro W_p4a hm hgr; obtain ⟨p4a, hz⟩ : ∃ z, z = out ++ [12] := ⟨_, rfl⟩; rw [← hz] at hm ⊢; have HZp4a := Aside0.mk hz; have HB1 := Aside0.mk ((HB.out.alloc HB.out.size _).grown hgr (by simp; have := HB.out.size; omega) (fun r e => by obtain rfl := Option.some.inj e; exact HG.out)); clear hz HM HB; have HM := Aside0.mk hm; have HB := HB1; clear hm hgr HB1) | (go_at_call 87; refine (strings_IndexByte.calls t 92 _ _ HI.out).mono ?_; rintro e w7 ⟨rfl, hd⟩; have HM1 := Aside0.mk (HM.out.of (hd.below.block g HM.out.lt)); have HB1 := Aside0.mk (HB.out.trans (hd.below.mono HB.out.size)); clear HM HB; have HM := HM1; have HB := HB1; clear HM1 HB1 hd; (try clear hwx); (try clear hwy); (try clear b0); (try clear b1)) | ((with_reducible refine gate_builtin (b := .append) (xs := #[_, _]) rfl ?_); at_builtin; refine MB_str ?hgd_l4z ?os_l4z ?ox_l4z 47 9 5 ?ho_l4z Tryd.underlying47 Tryd.underlying9 inf_u8 g cap p4a t ?hs_l4z ?hx_l4z HM.out (room_t (len_1 HZp4a.out (by decide)) HR.out) ?_; (case hgd_l4z => rfl); (case ho_l4z => rfl); (case hs_l4z => rfl); (case hx_l4z => rfl); intro W_l4z hm hgr; obtain ⟨l4z, hz⟩ : ∃ z, z = p4a ++ bytesOf t := ⟨_, rfl⟩; rw [← hz] at hm ⊢; have HZl4z := Aside0.mk hz; have HB1 := Aside0.mk (HB.out.grown hgr HB.out.size (fun r e => by obtain rfl := Option.some.inj e; exact HG.out)); clear hz HM HB; have HM := Aside0.mk hm; have HB := HB1; clear hm hgr HB1) | (go_at_call 50; refine (b2s_mb HM.out).mono ?_; rintro e w9l4 ⟨rfl, rfl⟩))
     go_ret
     refine ⟨?_, HB.out⟩
     rw [HZl4z.out, HZp4a.out]
     rfl
    | some m =>
     rw [hix] at hgo
     have hI := index_ix t 92 (by decide) (by decide)
     rw [hix, show toI (some m) = (m : Int) from rfl] at hI
     have hm := (ix_some hix).1
     rw [bytesOf_length] at hm
     have HI := Aside0.mk hI
     have HGO := Aside0.mk hgo
     have hmd := nat_neg m
     have hmw := wrap_m hm HS1.out
     have hmh := cutH t (m : Int) m rfl (Nat.le_of_lt hm)
     have hmr := cutR t ((m + 1 : Nat) : Int) (m + 1) rfl hm
     have HM0 := Aside0.mk hm
     clear hgo hix hI
     go_wp2_with (first | ((with_reducible refine gate_builtin (b := .append) (xs := #[_, _]) rfl ?_); at_builtin; refine MB_num ?hgd_p4b ?os_p4b ?ox_p4b 47 5 ?ho_p4b Tryd.underlying47 inf_u8 g cap out [12] _ rfl ?hs_p4b ?hx_p4b HM.out (room_b HR.out (by decide)) ?_; (case hgd_p4b => rfl); (case ho_p4b => rfl); (case hs_p4b => rfl); (case hx_p4b => rfl); intro W_p4b hm hgr; obtain ⟨p4b, hz⟩ : ∃ z, z = out ++ [12] := ⟨_, rfl⟩; rw [← hz] at hm ⊢; have HZp4b := Aside0.mk hz; have HB1 := Aside0.mk ((HB.out.alloc HB.out.size _).grown hgr (by simp; have := HB.out.size; omega) (fun r e => by obtain rfl := Option.some.inj e; exact HG.out)); clear hz HM HB; have HM := Aside0.mk hm; have HB := HB1; clear hm hgr HB1) | (go_at_call 87; refine (strings_IndexByte.calls t 92 _ _ HI.out).mono ?_; rintro e w7 ⟨rfl, hd⟩; have HM1 := Aside0.mk (HM.out.of (hd.below.block g HM.out.lt)); have HB1 := Aside0.mk (HB.out.trans (hd.below.mono HB.out.size)); clear HM HB; have HM := HM1; have HB := HB1; clear HM1 HB1 hd; (try clear hwx); (try clear hwy); (try clear b0); (try clear b1)) | ((with_reducible refine gate_builtin (b := .append) (xs := #[_, _]) rfl ?_); at_builtin; refine MB_str ?hgd_l4y ?os_l4y ?ox_l4y 47 9 5 ?ho_l4y Tryd.underlying47 Tryd.underlying9 inf_u8 g cap p4b (t.extract 0 m) ?hs_l4y ?hx_l4y HM.out (room_p (len_1 HZp4b.out (by decide)) HR.out HM0.out) ?_; (case hgd_l4y => rfl); (case ho_l4y => rfl); (case hs_l4y => rfl); (case hx_l4y => rfl); intro W_l4y hm hgr; obtain ⟨l4y, hz⟩ : ∃ z, z = p4b ++ bytesOf (t.extract 0 m) := ⟨_, rfl⟩; rw [← hz] at hm ⊢; have HZl4y := Aside0.mk hz; have HB1 := Aside0.mk (HB.out.grown hgr HB.out.size (fun r e => by obtain rfl := Option.some.inj e; exact HG.out)); clear hz HM HB; have HM := Aside0.mk hm; have HB := HB1; clear hm hgr HB1))
     go_roundg j
     case measure => exact Nat.lt_succ_self _
     case rel =>
      refine ⟨t.extract (m + 1) t.size, l4y, rfl, rfl, ⟨⟨HM.out, HB.out, room_u HZl4y.out (len_1 HZp4b.out (by decide)) HR.out HM0.out, sz_suf HS1.out, ?_⟩⟩⟩
      rw [HZl4y.out, HZp4b.out]; exact HGO.out
  have k4 : (bt s 0 == 102) = false := beq_eq_false_iff_ne.2 c4
  have C4 := Aside0.mk c4
  clear c4
  by_cases c5 : bt s 0 = 110
  ·have k5 : (bt s 0 == 110) = true := beq_iff_eq.2 c5
   have hone : oneU (bt s 0) t = ([10], t) := by unfold oneU; rw [if_neg C0.out, if_neg C1.out, if_neg C2.out, if_neg C3.out, if_neg C4.out, if_pos c5]
   rw [hone] at hgo
   simp only at hgo
   have HR := Aside0.mk (room_1 HT.out)
   clear hone c5
   as_aux_lemma =>
    cases hix : ix 92 (bytesOf t) with
    | none =>
     rw [hix] at hgo
     obtain rfl := Option.some.inj hgo
     have HI := Aside0.mk (index_ix t 92 (by decide) (by decide))
     rw [hix, show toI (none : Option Nat) = -1 from rfl] at HI
     clear hgo hix
     go_wp2_with (first | ((with_reducible refine gate_builtin (b := .append) (xs := #[_, _]) rfl ?_); at_builtin; refine MB_num ?hgd_p5a ?os_p5a ?ox_p5a 47 5 ?ho_p5a Tryd.underlying47 inf_u8 g cap out [10] _ rfl ?hs_p5a ?hx_p5a HM.out (room_b HR.out (by decide)) ?_; (case hgd_p5a => rfl); (case ho_p5a => rfl); (case hs_p5a => rfl); (case hx_p5a => rfl); intro W_p5a hm hgr; obtain ⟨p5a, hz⟩ : ∃ z, z = out ++ [10] := ⟨_, rfl⟩; rw [← hz] at hm ⊢; have HZp5a := Aside0.mk hz; have HB1 := Aside0.mk ((HB.out.alloc HB.out.size _).grown hgr (by simp; have := HB.out.size; omega) (fun r e => by obtain rfl := Option.some.inj e; exact HG.out)); clear hz HM HB; have HM := Aside0.mk hm; have HB := HB1; clear hm hgr HB1) | (go_at_call 87; refine (strings_IndexByte.calls t 92 _ _ HI.out).mono ?_; rintro e w7 ⟨rfl, hd⟩; have HM1 := Aside0.mk (HM.out.of (hd.below.block g HM.out.lt)); have HB1 := Aside0.mk (HB.out.trans (hd.below.mono HB.out.size)); clear HM HB; have HM := HM1; have HB := HB1; clear HM1 HB1 hd; (try clear hwx); (try clear hwy); (try clear b0); (try clear b1)) | ((with_reducible refine gate_builtin (b := .append) (xs := #[_, _]) rfl ?_); at_builtin; refine MB_str ?hgd_l5z ?os_l5z ?ox_l5z 47 9 5 ?ho_l5z Tryd.underlying47 Tryd.underlying9 inf_u8 g cap p5a t ?hs_l5z ?hx_l5z HM.out (room_t (len_1 HZp5a.out (by decide)) HR.out) ?_; (case hgd_l5z => rfl); (case ho_l5z => rfl); (case hs_l5z => rfl); (case hx_l5z => rfl); intro W_l5z hm hgr; obtain ⟨l5z, hz⟩ : ∃ z, z = p5a ++ bytesOf t := ⟨_, rfl⟩; rw [← hz] at hm ⊢; have HZl5z := Aside0.mk hz; have HB1 := Aside0.mk (HB.out.grown hgr HB.out.size (fun r e => by obtain rfl := Option.some.inj e; exact HG.out)); clear hz HM HB; have HM := Aside0.mk hm; have HB := HB1; clear hm hgr HB1) | (go_at_call 50; refine (b2s_mb HM.out).mono ?_; rintro e w9l5 ⟨rfl, rfl⟩))
     go_ret
     refine ⟨?_, HB.out⟩
     rw [HZl5z.out, HZp5a.out]
     rfl
    | some m =>
     rw [hix] at hgo
     have hI := index_ix t 92 (by decide) (by decide)
     rw [hix, show toI (some m) = (m : Int) from rfl] at hI
     have hm := (ix_some hix).1
     rw [bytesOf_length] at hm
     have HI := Aside0.mk hI
     have HGO := Aside0.mk hgo
     have hmd := nat_neg m
     have hmw := wrap_m hm HS1.out
     have hmh := cutH t (m : Int) m rfl (Nat.le_of_lt hm)
     have hmr := cutR t ((m + 1 : Nat) : Int) (m + 1) rfl hm
     have HM0 := Aside0.mk hm
     clear hgo hix hI
     go_wp2_with (first | ((with_reducible refine gate_builtin (b := .append) (xs := #[_, _]) rfl ?_); at_builtin; refine MB_num ?hgd_p5b ?os_p5b ?ox_p5b 47 5 ?ho_p5b Tryd.underlying47 inf_u8 g cap out [10] _ rfl ?hs_p5b ?hx_p5b HM.out (room_b HR.out (by decide)) ?_; (case hgd_p5b => rfl); (case ho_p5b => rfl); (case hs_p5b => rfl); (case hx_p5b => rfl); intro W_p5b hm hgr; obtain ⟨p5b, hz⟩ : ∃ z, z = out ++ [10] := ⟨_, rfl⟩; rw [← hz] at hm ⊢; have HZp5b := Aside0.mk hz; have HB1 := Aside0.mk ((HB.out.alloc HB.out.size _).grown hgr (by simp; have := HB.out.size; omega) (fun r e => by obtain rfl := Option.some.inj e; exact HG.out)); clear hz HM HB; have HM := Aside0.mk hm; have HB := HB1; clear hm hgr HB1) | (go_at_call 87; refine (strings_IndexByte.calls t 92 _ _ HI.out).mono ?_; rintro e w7 ⟨rfl, hd⟩; have HM1 := Aside0.mk (HM.out.of (hd.below.block g HM.out.lt)); have HB1 := Aside0.mk (HB.out.trans (hd.below.mono HB.out.size)); clear HM HB; have HM := HM1; have HB := HB1; clear HM1 HB1 hd; (try clear hwx); (try clear hwy); (try clear b0); (try clear b1)) | ((with_reducible refine gate_builtin (b := .append) (xs := #[_, _]) rfl ?_); at_builtin; refine MB_str ?hgd_l5y ?os_l5y ?ox_l5y 47 9 5 ?ho_l5y Tryd.underlying47 Tryd.underlying9 inf_u8 g cap p5b (t.extract 0 m) ?hs_l5y ?hx_l5y HM.out (room_p (len_1 HZp5b.out (by decide)) HR.out HM0.out) ?_; (case hgd_l5y => rfl); (case ho_l5y => rfl); (case hs_l5y => rfl); (case hx_l5y => rfl); intro W_l5y hm hgr; obtain ⟨l5y, hz⟩ : ∃ z, z = p5b ++ bytesOf (t.extract 0 m) := ⟨_, rfl⟩; rw [← hz] at hm ⊢; have HZl5y := Aside0.mk hz; have HB1 := Aside0.mk (HB.out.grown hgr HB.out.size (fun r e => by obtain rfl := Option.some.inj e; exact HG.out)); clear hz HM HB; have HM := Aside0.mk hm; have HB := HB1; clear hm hgr HB1))
     go_roundg j
     case measure => exact Nat.lt_succ_self _
     case rel =>
      refine ⟨t.extract (m + 1) t.size, l5y, rfl, rfl, ⟨⟨HM.out, HB.out, room_u HZl5y.out (len_1 HZp5b.out (by decide)) HR.out HM0.out, sz_suf HS1.out, ?_⟩⟩⟩
      rw [HZl5y.out, HZp5b.out]; exact HGO.out
  have k5 : (bt s 0 == 110) = false := beq_eq_false_iff_ne.2 c5
  have C5 := Aside0.mk c5
  clear c5
  by_cases c6 : bt s 0 = 114
  ·have k6 : (bt s 0 == 114) = true := beq_iff_eq.2 c6
   have hone : oneU (bt s 0) t = ([13], t) := by unfold oneU; rw [if_neg C0.out, if_neg C1.out, if_neg C2.out, if_neg C3.out, if_neg C4.out, if_neg C5.out, if_pos c6]
   rw [hone] at hgo
   simp only at hgo
   have HR := Aside0.mk (room_1 HT.out)
   clear hone c6
   as_aux_lemma =>
    cases hix : ix 92 (bytesOf t) with
    | none =>
     rw [hix] at hgo
     obtain rfl := Option.some.inj hgo
     have HI := Aside0.mk (index_ix t 92 (by decide) (by decide))
     rw [hix, show toI (none : Option Nat) = -1 from rfl] at HI
     clear hgo hix
     go_wp2_with (first | ((with_reducible refine gate_builtin (b := .append) (xs := #[_, _]) rfl ?_); at_builtin; refine MB_num ?hgd_p6a ?os_p6a ?ox_p6a 47 5 ?ho_p6a Tryd.underlying47 inf_u8 g cap out [13] _ rfl ?hs_p6a ?hx_p6a HM.out (room_b HR.out (by decide)) ?_; (case hgd_p6a => rfl); (case ho_p6a => rfl); (case hs_p6a => rfl); (case hx_p6a => rfl); intro W_p6a hm hgr; obtain ⟨p6a, hz⟩ : ∃ z, z = out ++ [13] := ⟨_, rfl⟩; rw [← hz] at hm ⊢; have HZp6a := Aside0.mk hz; have HB1 := Aside0.mk ((HB.out.alloc HB.out.size _).grown hgr (by simp; have := HB.out.size; omega) (fun r e => by obtain rfl := Option.some.inj e; exact HG.out)); clear hz HM HB; have HM := Aside0.mk hm; have HB := HB1; clear hm hgr HB1) | (go_at_call 87; refine (strings_IndexByte.calls t 92 _ _ HI.out).mono ?_; rintro e w7 ⟨rfl, hd⟩; have HM1 := Aside0.mk (HM.out.of (hd.below.block g HM.out.lt)); have HB1 := Aside0.mk (HB.out.trans (hd.below.mono HB.out.size)); clear HM HB; have HM := HM1; have HB := HB1; clear HM1 HB1 hd; (try clear hwx); (try clear hwy); (try clear b0); (try clear b1)) | ((with_reducible refine gate_builtin (b := .append) (xs := #[_, _]) rfl ?_); at_builtin; refine MB_str ?hgd_l6z ?os_l6z ?ox_l6z 47 9 5 ?ho_l6z Tryd.underlying47 Tryd.underlying9 inf_u8 g cap p6a t ?hs_l6z ?hx_l6z HM.out (room_t (len_1 HZp6a.out (by decide)) HR.out) ?_; (case hgd_l6z => rfl); (case ho_l6z => rfl); (case hs_l6z => rfl); (case hx_l6z => rfl); intro W_l6z hm hgr; obtain ⟨l6z, hz⟩ : ∃ z, z = p6a ++ bytesOf t := ⟨_, rfl⟩; rw [← hz] at hm ⊢; have HZl6z := Aside0.mk hz; have HB1 := Aside0.mk (HB.out.grown hgr HB.out.size (fun r e => by obtain rfl := Option.some.inj e; exact HG.out)); clear hz HM HB; have HM := Aside0.mk hm; have HB := HB1; clear hm hgr HB1) | (go_at_call 50; refine (b2s_mb HM.out).mono ?_; rintro e w9l6 ⟨rfl, rfl⟩))
     go_ret
     refine ⟨?_, HB.out⟩
     rw [HZl6z.out, HZp6a.out]
     rfl
    | some m =>
     rw [hix] at hgo
     have hI := index_ix t 92 (by decide) (by decide)
     rw [hix, show toI (some m) = (m : Int) from rfl] at hI
     have hm := (ix_some hix).1
     rw [bytesOf_length] at hm
     have HI := Aside0.mk hI
     have HGO := Aside0.mk hgo
     have hmd := nat_neg m
     have hmw := wrap_m hm HS1.out
     have hmh := cutH t (m : Int) m rfl (Nat.le_of_lt hm)
     have hmr := cutR t ((m + 1 : Nat) : Int) (m + 1) rfl hm
     have HM0 := Aside0.mk hm
     clear hgo hix hI
     go_wp2_with (first | ((with_reducible refine gate_builtin (b := .append) (xs := #[_, _]) rfl ?_); at_builtin; refine MB_num ?hgd_p6b ?os_p6b ?ox_p6b 47 5 ?ho_p6b Tryd.underlying47 inf_u8 g cap out [13] _ rfl ?hs_p6b ?hx_p6b HM.out (room_b HR.out (by decide)) ?_; (case hgd_p6b => rfl); (case ho_p6b => rfl); (case hs_p6b => rfl); (case hx_p6b => rfl); intro W_p6b hm hgr; obtain ⟨p6b, hz⟩ : ∃ z, z = out ++ [13] := ⟨_, rfl⟩; rw [← hz] at hm ⊢; have HZp6b := Aside0.mk hz; have HB1 := Aside0.mk ((HB.out.alloc HB.out.size _).grown hgr (by simp; have := HB.out.size; omega) (fun r e => by obtain rfl := Option.some.inj e; exact HG.out)); clear hz HM HB; have HM := Aside0.mk hm; have HB := HB1; clear hm hgr HB1) | (go_at_call 87; refine (strings_IndexByte.calls t 92 _ _ HI.out).mono ?_; rintro e w7 ⟨rfl, hd⟩; have HM1 := Aside0.mk (HM.out.of (hd.below.block g HM.out.lt)); have HB1 := Aside0.mk (HB.out.trans (hd.below.mono HB.out.size)); clear HM HB; have HM := HM1; have HB := HB1; clear HM1 HB1 hd; (try clear hwx); (try clear hwy); (try clear b0); (try clear b1)) | ((with_reducible refine gate_builtin (b := .append) (xs := #[_, _]) rfl ?_); at_builtin; refine MB_str ?hgd_l6y ?os_l6y ?ox_l6y 47 9 5 ?ho_l6y Tryd.underlying47 Tryd.underlying9 inf_u8 g cap p6b (t.extract 0 m) ?hs_l6y ?hx_l6y HM.out (room_p (len_1 HZp6b.out (by decide)) HR.out HM0.out) ?_; (case hgd_l6y => rfl); (case ho_l6y => rfl); (case hs_l6y => rfl); (case hx_l6y => rfl); intro W_l6y hm hgr; obtain ⟨l6y, hz⟩ : ∃ z, z = p6b ++ bytesOf (t.extract 0 m) := ⟨_, rfl⟩; rw [← hz] at hm ⊢; have HZl6y := Aside0.mk hz; have HB1 := Aside0.mk (HB.out.grown hgr HB.out.size (fun r e => by obtain rfl := Option.some.inj e; exact HG.out)); clear hz HM HB; have HM := Aside0.mk hm; have HB := HB1; clear hm hgr HB1))
     go_roundg j
     case measure => exact Nat.lt_succ_self _
     case rel =>
      refine ⟨t.extract (m + 1) t.size, l6y, rfl, rfl, ⟨⟨HM.out, HB.out, room_u HZl6y.out (len_1 HZp6b.out (by decide)) HR.out HM0.out, sz_suf HS1.out, ?_⟩⟩⟩
      rw [HZl6y.out, HZp6b.out]; exact HGO.out
  have k6 : (bt s 0 == 114) = false := beq_eq_false_iff_ne.2 c6
  have C6 := Aside0.mk c6
  clear c6
  by_cases c7 : bt s 0 = 116
  ·have k7 : (bt s 0 == 116) = true := beq_iff_eq.2 c7
   have hone : oneU (bt s 0) t = ([9], t) := by unfold oneU; rw [if_neg C0.out, if_neg C1.out, if_neg C2.out, if_neg C3.out, if_neg C4.out, if_neg C5.out, if_neg C6.out, if_pos c7]
   rw [hone] at hgo
   simp only at hgo
   have HR := Aside0.mk (room_1 HT.out)
   clear hone c7
   as_aux_lemma =>
    cases hix : ix 92 (bytesOf t) with
    | none =>
     rw [hix] at hgo
     obtain rfl := Option.some.inj hgo
     have HI := Aside0.mk (index_ix t 92 (by decide) (by decide))
     rw [hix, show toI (none : Option Nat) = -1 from rfl] at HI
     clear hgo hix
     go_wp2_with (first | ((with_reducible refine gate_builtin (b := .append) (xs := #[_, _]) rfl ?_); at_builtin; refine MB_num ?hgd_p7a ?os_p7a ?ox_p7a 47 5 ?ho_p7a Tryd.underlying47 inf_u8 g cap out [9] _ rfl ?hs_p7a ?hx_p7a HM.out (room_b HR.out (by decide)) ?_; (case hgd_p7a => rfl); (case ho_p7a => rfl); (case hs_p7a => rfl); (case hx_p7a => rfl); intro W_p7a hm hgr; obtain ⟨p7a, hz⟩ : ∃ z, z = out ++ [9] := ⟨_, rfl⟩; rw [← hz] at hm ⊢; have HZp7a := Aside0.mk hz; have HB1 := Aside0.mk ((HB.out.alloc HB.out.size _).grown hgr (by simp; have := HB.out.size; omega) (fun r e => by obtain rfl := Option.some.inj e; exact HG.out)); clear hz HM HB; have HM := Aside0.mk hm; have HB := HB1; clear hm hgr HB1) | (go_at_call 87; refine (strings_IndexByte.calls t 92 _ _ HI.out).mono ?_; rintro e w7 ⟨rfl, hd⟩; have HM1 := Aside0.mk (HM.out.of (hd.below.block g HM.out.lt)); have HB1 := Aside0.mk (HB.out.trans (hd.below.mono HB.out.size)); clear HM HB; have HM := HM1; have HB := HB1; clear HM1 HB1 hd; (try clear hwx); (try clear hwy); (try clear b0); (try clear b1)) | ((with_reducible refine gate_builtin (b := .append) (xs := #[_, _]) rfl ?_); at_builtin; refine MB_str ?hgd_l7z ?os_l7z ?ox_l7z 47 9 5 ?ho_l7z Tryd.underlying47 Tryd.underlying9 inf_u8 g cap p7a t ?hs_l7z ?hx_l7z HM.out (room_t (len_1 HZp7a.out (by decide)) HR.out) ?_; (case hgd_l7z => rfl); (case ho_l7z => rfl); (case hs_l7z => rfl); (case hx_l7z => rfl); intro W_l7z hm hgr; obtain ⟨l7z, hz⟩ : ∃ z, z = p7a ++ bytesOf t := ⟨_, rfl⟩; rw [← hz] at hm ⊢; have HZl7z := Aside0.mk hz; have HB1 := Aside0.mk (HB.out.grown hgr HB.out.size (fun r e => by obtain rfl := Option.some.inj e; exact HG.out)); clear hz HM HB; have HM := Aside0.mk hm; have HB := HB1; clear hm hgr HB1) | (go_at_call 50; refine (b2s_mb HM.out).mono ?_; rintro e w9l7 ⟨rfl, rfl⟩))
     go_ret
     refine ⟨?_, HB.out⟩
     rw [HZl7z.out, HZp7a.out]
     rfl
    | some m =>
     rw [hix] at hgo
     have hI := index_ix t 92 (by decide) (by decide)
     rw [hix, show toI (some m) = (m : Int) from rfl] at hI
     have hm := (ix_some hix).1
     rw [bytesOf_length] at hm
     have HI := Aside0.mk hI
     have HGO := Aside0.mk hgo
     have hmd := nat_neg m
     have hmw := wrap_m hm HS1.out
     have hmh := cutH t (m : Int) m rfl (Nat.le_of_lt hm)
     have hmr := cutR t ((m + 1 : Nat) : Int) (m + 1) rfl hm
     have HM0 := Aside0.mk hm
     clear hgo hix hI
     go_wp2_with (first | ((with_reducible refine gate_builtin (b := .append) (xs := #[_, _]) rfl ?_); at_builtin; refine MB_num ?hgd_p7b ?os_p7b ?ox_p7b 47 5 ?ho_p7b Tryd.underlying47 inf_u8 g cap out [9] _ rfl ?hs_p7b ?hx_p7b HM.out (room_b HR.out (by decide)) ?_; (case hgd_p7b => rfl); (case ho_p7b => rfl); (case hs_p7b => rfl); (case hx_p7b => rfl); intro W_p7b hm hgr; obtain ⟨p7b, hz⟩ : ∃ z, z = out ++ [9] := ⟨_, rfl⟩; rw [← hz] at hm ⊢; have HZp7b := Aside0.mk hz; have HB1 := Aside0.mk ((HB.out.alloc HB.out.size _).grown hgr (by simp; have := HB.out.size; omega) (fun r e => by obtain rfl := Option.some.inj e; exact HG.out)); clear hz HM HB; have HM := Aside0.mk hm; have HB := HB1; clear hm hgr HB1) | (go_at_call 87; refine (strings_IndexByte.calls t 92 _ _ HI.out).mono ?_; rintro e w7 ⟨rfl, hd⟩; have HM1 := Aside0.mk (HM.out.of (hd.below.block g HM.out.lt)); have HB1 := Aside0.mk (HB.out.trans (hd.below.mono HB.out.size)); clear HM HB; have HM := HM1; have HB := HB1; clear HM1 HB1 hd; (try clear hwx); (try clear hwy); (try clear b0); (try clear b1)) | ((with_reducible refine gate_builtin (b := .append) (xs := #[_, _]) rfl ?_); at_builtin; refine MB_str ?hgd_l7y ?os_l7y ?ox_l7y 47 9 5 ?ho_l7y Tryd.underlying47 Tryd.underlying9 inf_u8 g cap p7b (t.extract 0 m) ?hs_l7y ?hx_l7y HM.out (room_p (len_1 HZp7b.out (by decide)) HR.out HM0.out) ?_; (case hgd_l7y => rfl); (case ho_l7y => rfl); (case hs_l7y => rfl); (case hx_l7y => rfl); intro W_l7y hm hgr; obtain ⟨l7y, hz⟩ : ∃ z, z = p7b ++ bytesOf (t.extract 0 m) := ⟨_, rfl⟩; rw [← hz] at hm ⊢; have HZl7y := Aside0.mk hz; have HB1 := Aside0.mk (HB.out.grown hgr HB.out.size (fun r e => by obtain rfl := Option.some.inj e; exact HG.out)); clear hz HM HB; have HM := Aside0.mk hm; have HB := HB1; clear hm hgr HB1))
     go_roundg j
     case measure => exact Nat.lt_succ_self _
     case rel =>
      refine ⟨t.extract (m + 1) t.size, l7y, rfl, rfl, ⟨⟨HM.out, HB.out, room_u HZl7y.out (len_1 HZp7b.out (by decide)) HR.out HM0.out, sz_suf HS1.out, ?_⟩⟩⟩
      rw [HZl7y.out, HZp7b.out]; exact HGO.out
  have k7 : (bt s 0 == 116) = false := beq_eq_false_iff_ne.2 c7
  have C7 := Aside0.mk c7
  clear c7
  by_cases c8 : bt s 0 = 117
  rotate_left
  ·have k8 : (bt s 0 == 117) = false := beq_eq_false_iff_ne.2 c8
   have hone : oneU (bt s 0) t = ([92, bt s 0], t) := by unfold oneU; rw [if_neg C0.out, if_neg C1.out, if_neg C2.out, if_neg C3.out, if_neg C4.out, if_neg C5.out, if_neg C6.out, if_neg C7.out, if_neg c8]
   rw [hone] at hgo
   simp only at hgo
   have HR := HT
   clear hone c8
   as_aux_lemma =>
    cases hix : ix 92 (bytesOf t) with
    | none =>
     rw [hix] at hgo
     obtain rfl := Option.some.inj hgo
     have HI := Aside0.mk (index_ix t 92 (by decide) (by decide))
     rw [hix, show toI (none : Option Nat) = -1 from rfl] at HI
     clear hgo hix
     go_wp2_with (first | ((with_reducible refine gate_builtin (b := .append) (xs := #[_, _]) rfl ?_); at_builtin; refine MB_num ?hgd_pda ?os_pda ?ox_pda 47 5 ?ho_pda Tryd.underlying47 inf_u8 g cap out [92, bt s 0] _ rfl ?hs_pda ?hx_pda HM.out (room_b HR.out (by simp)) ?_; (case hgd_pda => rfl); (case ho_pda => rfl); (case hs_pda => rfl); (case hx_pda => rfl); intro W_pda hm hgr; obtain ⟨pda, hz⟩ : ∃ z, z = out ++ [92, bt s 0] := ⟨_, rfl⟩; rw [← hz] at hm ⊢; have HZpda := Aside0.mk hz; have HB1 := Aside0.mk ((HB.out.alloc HB.out.size _).grown hgr (by simp; have := HB.out.size; omega) (fun r e => by obtain rfl := Option.some.inj e; exact HG.out)); clear hz HM HB; have HM := Aside0.mk hm; have HB := HB1; clear hm hgr HB1) | (go_at_call 87; refine (strings_IndexByte.calls t 92 _ _ HI.out).mono ?_; rintro e w7 ⟨rfl, hd⟩; have HM1 := Aside0.mk (HM.out.of (hd.below.block g HM.out.lt)); have HB1 := Aside0.mk (HB.out.trans (hd.below.mono HB.out.size)); clear HM HB; have HM := HM1; have HB := HB1; clear HM1 HB1 hd; (try clear hwx); (try clear hwy); (try clear b0); (try clear b1)) | ((with_reducible refine gate_builtin (b := .append) (xs := #[_, _]) rfl ?_); at_builtin; refine MB_str ?hgd_ldz ?os_ldz ?ox_ldz 47 9 5 ?ho_ldz Tryd.underlying47 Tryd.underlying9 inf_u8 g cap pda t ?hs_ldz ?hx_ldz HM.out (room_t (len_1 HZpda.out (by simp)) HR.out) ?_; (case hgd_ldz => rfl); (case ho_ldz => rfl); (case hs_ldz => rfl); (case hx_ldz => rfl); intro W_ldz hm hgr; obtain ⟨ldz, hz⟩ : ∃ z, z = pda ++ bytesOf t := ⟨_, rfl⟩; rw [← hz] at hm ⊢; have HZldz := Aside0.mk hz; have HB1 := Aside0.mk (HB.out.grown hgr HB.out.size (fun r e => by obtain rfl := Option.some.inj e; exact HG.out)); clear hz HM HB; have HM := Aside0.mk hm; have HB := HB1; clear hm hgr HB1) | (go_at_call 50; refine (b2s_mb HM.out).mono ?_; rintro e w9ld ⟨rfl, rfl⟩))
     go_ret
     refine ⟨?_, HB.out⟩
     rw [HZldz.out, HZpda.out]
     rfl
    | some m =>
     rw [hix] at hgo
     have hI := index_ix t 92 (by decide) (by decide)
     rw [hix, show toI (some m) = (m : Int) from rfl] at hI
     have hm := (ix_some hix).1
     rw [bytesOf_length] at hm
     have HI := Aside0.mk hI
     have HGO := Aside0.mk hgo
     have hmd := nat_neg m
     have hmw := wrap_m hm HS1.out
     have hmh := cutH t (m : Int) m rfl (Nat.le_of_lt hm)
     have hmr := cutR t ((m + 1 : Nat) : Int) (m + 1) rfl hm
     have HM0 := Aside0.mk hm
     clear hgo hix hI
     go_wp2_with (first | ((with_reducible refine gate_builtin (b := .append) (xs := #[_, _]) rfl ?_); at_builtin; refine MB_num ?hgd_pdb ?os_pdb ?ox_pdb 47 5 ?ho_pdb Tryd.underlying47 inf_u8 g cap out [92, bt s 0] _ rfl ?hs_pdb ?hx_pdb HM.out (room_b HR.out (by simp)) ?_; (case hgd_pdb => rfl); (case ho_pdb => rfl); (case hs_pdb => rfl); (case hx_pdb => rfl); intro W_pdb hm hgr; obtain ⟨pdb, hz⟩ : ∃ z, z = out ++ [92, bt s 0] := ⟨_, rfl⟩; rw [← hz] at hm ⊢; have HZpdb := Aside0.mk hz; have HB1 := Aside0.mk ((HB.out.alloc HB.out.size _).grown hgr (by simp; have := HB.out.size; omega) (fun r e => by obtain rfl := Option.some.inj e; exact HG.out)); clear hz HM HB; have HM := Aside0.mk hm; have HB := HB1; clear hm hgr HB1) | (go_at_call 87; refine (strings_IndexByte.calls t 92 _ _ HI.out).mono ?_; rintro e w7 ⟨rfl, hd⟩; have HM1 := Aside0.mk (HM.out.of (hd.below.block g HM.out.lt)); have HB1 := Aside0.mk (HB.out.trans (hd.below.mono HB.out.size)); clear HM HB; have HM := HM1; have HB := HB1; clear HM1 HB1 hd; (try clear hwx); (try clear hwy); (try clear b0); (try clear b1)) | ((with_reducible refine gate_builtin (b := .append) (xs := #[_, _]) rfl ?_); at_builtin; refine MB_str ?hgd_ldy ?os_ldy ?ox_ldy 47 9 5 ?ho_ldy Tryd.underlying47 Tryd.underlying9 inf_u8 g cap pdb (t.extract 0 m) ?hs_ldy ?hx_ldy HM.out (room_p (len_1 HZpdb.out (by simp)) HR.out HM0.out) ?_; (case hgd_ldy => rfl); (case ho_ldy => rfl); (case hs_ldy => rfl); (case hx_ldy => rfl); intro W_ldy hm hgr; obtain ⟨ldy, hz⟩ : ∃ z, z = pdb ++ bytesOf (t.extract 0 m) := ⟨_, rfl⟩; rw [← hz] at hm ⊢; have HZldy := Aside0.mk hz; have HB1 := Aside0.mk (HB.out.grown hgr HB.out.size (fun r e => by obtain rfl := Option.some.inj e; exact HG.out)); clear hz HM HB; have HM := Aside0.mk hm; have HB := HB1; clear hm hgr HB1))
     go_roundg j
     case measure => exact Nat.lt_succ_self _
     case rel =>
      refine ⟨t.extract (m + 1) t.size, ldy, rfl, rfl, ⟨⟨HM.out, HB.out, room_u HZldy.out (len_1 HZpdb.out (by simp)) HR.out HM0.out, sz_suf HS1.out, ?_⟩⟩⟩
      rw [HZldy.out, HZpdb.out]; exact HGO.out
  have k8 : (bt s 0 == 117) = true := beq_iff_eq.2 c8
  have hone : oneU (bt s 0) t = (if t.size < 4 then ([92, 117], t) else match u4 (t.extract 0 4) with | none => ([92, 117], t) | some x => if sur x = false then (bytesOf (Utf8.encode x), t.extract 4 t.size) else if (t.extract 4 t.size).size < 6 ∨ bt (t.extract 4 t.size) 0 ≠ 92 ∨ bt (t.extract 4 t.size) 1 ≠ 117 then ([92, 117] ++ bytesOf (t.extract 0 4), t.extract 4 t.size) else match u4 ((t.extract 4 t.size).extract 2 6) with | none => ([92, 117] ++ bytesOf (t.extract 0 4), t.extract 4 t.size) | some y => (bytesOf (Utf8.encode (dr x y)), (t.extract 4 t.size).extract 6 (t.extract 4 t.size).size)) := by unfold oneU; rw [if_neg C0.out, if_neg C1.out, if_neg C2.out, if_neg C3.out, if_neg C4.out, if_neg C5.out, if_neg C6.out, if_neg C7.out, if_pos c8]
  rw [hone] at hgo
  clear hone c8
  have HCB : Aside0 (bytesOf (⟨#[92, 117]⟩ : ByteArray) = [92, 117]) := ⟨rfl⟩
  by_cases t4 : t.size < 4
  ·have d4 : decide ((t.size : Int) < 4) = true := dec_lt t4
   rw [if_pos t4, ← HCB.out] at hgo
   simp only at hgo
   have HR := HT
   clear t4
   as_aux_lemma =>
    cases hix : ix 92 (bytesOf t) with
    | none =>
     rw [hix] at hgo
     obtain rfl := Option.some.inj hgo
     have HI := Aside0.mk (index_ix t 92 (by decide) (by decide))
     rw [hix, show toI (none : Option Nat) = -1 from rfl] at HI
     clear hgo hix
     go_wp2_with (first | ((with_reducible refine gate_builtin (b := .append) (xs := #[_, _]) rfl ?_); at_builtin; refine MB_str ?hgd_q1a ?os_q1a ?ox_q1a 47 9 5 ?ho_q1a Tryd.underlying47 Tryd.underlying9 inf_u8 g cap out (⟨#[92, 117]⟩ : ByteArray) ?hs_q1a ?hx_q1a HM.out (room_b HR.out (by decide)) ?_; (case hgd_q1a => rfl); (case ho_q1a => rfl); (case hs_q1a => rfl); (case hx_q1a => rfl); intro W_q1a hm hgr; obtain ⟨q1a, hz⟩ : ∃ z, z = out ++ bytesOf (⟨#[92, 117]⟩ : ByteArray) := ⟨_, rfl⟩; rw [← hz] at hm ⊢; have HZq1a := Aside0.mk hz; have HB1 := Aside0.mk (HB.out.grown hgr HB.out.size (fun r e => by obtain rfl := Option.some.inj e; exact HG.out)); clear hz HM HB; have HM := Aside0.mk hm; have HB := HB1; clear hm hgr HB1) | (go_at_call 87; refine (strings_IndexByte.calls t 92 _ _ HI.out).mono ?_; rintro e w7 ⟨rfl, hd⟩; have HM1 := Aside0.mk (HM.out.of (hd.below.block g HM.out.lt)); have HB1 := Aside0.mk (HB.out.trans (hd.below.mono HB.out.size)); clear HM HB; have HM := HM1; have HB := HB1; clear HM1 HB1 hd; (try clear hwx); (try clear hwy); (try clear b0); (try clear b1)) | ((with_reducible refine gate_builtin (b := .append) (xs := #[_, _]) rfl ?_); at_builtin; refine MB_str ?hgd_m1z ?os_m1z ?ox_m1z 47 9 5 ?ho_m1z Tryd.underlying47 Tryd.underlying9 inf_u8 g cap q1a t ?hs_m1z ?hx_m1z HM.out (room_t (len_s HZq1a.out (by decide)) HR.out) ?_; (case hgd_m1z => rfl); (case ho_m1z => rfl); (case hs_m1z => rfl); (case hx_m1z => rfl); intro W_m1z hm hgr; obtain ⟨m1z, hz⟩ : ∃ z, z = q1a ++ bytesOf t := ⟨_, rfl⟩; rw [← hz] at hm ⊢; have HZm1z := Aside0.mk hz; have HB1 := Aside0.mk (HB.out.grown hgr HB.out.size (fun r e => by obtain rfl := Option.some.inj e; exact HG.out)); clear hz HM HB; have HM := Aside0.mk hm; have HB := HB1; clear hm hgr HB1) | (go_at_call 50; refine (b2s_mb HM.out).mono ?_; rintro e w9m1 ⟨rfl, rfl⟩))
     go_ret
     refine ⟨?_, HB.out⟩
     rw [HZm1z.out, HZq1a.out]
     rfl
    | some m =>
     rw [hix] at hgo
     have hI := index_ix t 92 (by decide) (by decide)
     rw [hix, show toI (some m) = (m : Int) from rfl] at hI
     have hm := (ix_some hix).1
     rw [bytesOf_length] at hm
     have HI := Aside0.mk hI
     have HGO := Aside0.mk hgo
     have hmd := nat_neg m
     have hmw := wrap_m hm HS1.out
     have hmh := cutH t (m : Int) m rfl (Nat.le_of_lt hm)
     have hmr := cutR t ((m + 1 : Nat) : Int) (m + 1) rfl hm
     have HM0 := Aside0.mk hm
     clear hgo hix hI
     go_wp2_with (first | ((with_reducible refine gate_builtin (b := .append) (xs := #[_, _]) rfl ?_); at_builtin; refine MB_str ?hgd_q1b ?os_q1b ?ox_q1b 47 9 5 ?ho_q1b Tryd.underlying47 Tryd.underlying9 inf_u8 g cap out (⟨#[92, 117]⟩ : ByteArray) ?hs_q1b ?hx_q1b HM.out (room_b HR.out (by decide)) ?_; (case hgd_q1b => rfl); (case ho_q1b => rfl); (case hs_q1b => rfl); (case hx_q1b => rfl); intro W_q1b hm hgr; obtain ⟨q1b, hz⟩ : ∃ z, z = out ++ bytesOf (⟨#[92, 117]⟩ : ByteArray) := ⟨_, rfl⟩; rw [← hz] at hm ⊢; have HZq1b := Aside0.mk hz; have HB1 := Aside0.mk (HB.out.grown hgr HB.out.size (fun r e => by obtain rfl := Option.some.inj e; exact HG.out)); clear hz HM HB; have HM := Aside0.mk hm; have HB := HB1; clear hm hgr HB1) | (go_at_call 87; refine (strings_IndexByte.calls t 92 _ _ HI.out).mono ?_; rintro e w7 ⟨rfl, hd⟩; have HM1 := Aside0.mk (HM.out.of (hd.below.block g HM.out.lt)); have HB1 := Aside0.mk (HB.out.trans (hd.below.mono HB.out.size)); clear HM HB; have HM := HM1; have HB := HB1; clear HM1 HB1 hd; (try clear hwx); (try clear hwy); (try clear b0); (try clear b1)) | ((with_reducible refine gate_builtin (b := .append) (xs := #[_, _]) rfl ?_); at_builtin; refine MB_str ?hgd_m1y ?os_m1y ?ox_m1y 47 9 5 ?ho_m1y Tryd.underlying47 Tryd.underlying9 inf_u8 g cap q1b (t.extract 0 m) ?hs_m1y ?hx_m1y HM.out (room_p (len_s HZq1b.out (by decide)) HR.out HM0.out) ?_; (case hgd_m1y => rfl); (case ho_m1y => rfl); (case hs_m1y => rfl); (case hx_m1y => rfl); intro W_m1y hm hgr; obtain ⟨m1y, hz⟩ : ∃ z, z = q1b ++ bytesOf (t.extract 0 m) := ⟨_, rfl⟩; rw [← hz] at hm ⊢; have HZm1y := Aside0.mk hz; have HB1 := Aside0.mk (HB.out.grown hgr HB.out.size (fun r e => by obtain rfl := Option.some.inj e; exact HG.out)); clear hz HM HB; have HM := Aside0.mk hm; have HB := HB1; clear hm hgr HB1))
     go_roundg j
     case measure => exact Nat.lt_succ_self _
     case rel =>
      refine ⟨t.extract (m + 1) t.size, m1y, rfl, rfl, ⟨⟨HM.out, HB.out, room_u HZm1y.out (len_s HZq1b.out (by decide)) HR.out HM0.out, sz_suf HS1.out, ?_⟩⟩⟩
      rw [HZm1y.out, HZq1b.out]; exact HGO.out
  rw [if_neg t4] at hgo
  have d4 : decide ((t.size : Int) < 4) = false := dec_ge t4
  have h4h := cutH t 4 4 rfl (Nat.le_of_not_lt t4)
  have h4r := cutR t 4 4 rfl (Nat.le_of_not_lt t4)
  have h44 : (4 : Int) ≤ (t.size : Int) := Int.ofNat_le.2 (Nat.le_of_not_lt t4)
  obtain ⟨x4, hx4⟩ : ∃ z, z = t.extract 0 4 := ⟨_, rfl⟩
  obtain ⟨r4, hr4⟩ : ∃ z, z = t.extract 4 t.size := ⟨_, rfl⟩
  have HXS : Aside0 (x4.size = 4) := ⟨by rw [hx4]; exact pre_sz (Nat.le_of_not_lt t4)⟩
  have HRZ : Aside0 (r4.size + 4 ≤ t.size) := ⟨by rw [hr4, suf_size]; exact Nat.le_of_eq (Nat.sub_add_cancel (Nat.le_of_not_lt t4))⟩
  rw [← hx4, ← hr4] at hgo
  rw [← hx4] at h4h
  rw [← hr4] at h4r
  clear hx4 hr4 t4
  cases hu : u4 x4 with
  | none =>
   rw [hu] at hgo
   simp only at hgo
   rw [← HCB.out] at hgo
   have HUU := Aside0.mk hu
   have HR := HT
   clear hu
   as_aux_lemma =>
    cases hix : ix 92 (bytesOf t) with
    | none =>
     rw [hix] at hgo
     obtain rfl := Option.some.inj hgo
     have HI := Aside0.mk (index_ix t 92 (by decide) (by decide))
     rw [hix, show toI (none : Option Nat) = -1 from rfl] at HI
     clear hgo hix
     go_wp2_with (first | (go_at_call 88; with_reducible refine (u4_bad HUU.out HXS.out _ te6 te7 pe6 pe7 (glob HB.out HV6.out) (glob HB.out HV7.out)).mono ?_; rintro e w5q2a ⟨m5, et5, ep5, rfl, hd⟩; have HM1 := Aside0.mk (HM.out.of (hd.block g HM.out.lt)); have HB1 := Aside0.mk (HB.out.trans (hd.mono HB.out.size)); clear HM HB; have HM := HM1; have HB := HB1; clear HM1 HB1 hd) | ((with_reducible refine gate_builtin (b := .append) (xs := #[_, _]) rfl ?_); at_builtin; refine MB_str ?hgd_q2a ?os_q2a ?ox_q2a 47 9 5 ?ho_q2a Tryd.underlying47 Tryd.underlying9 inf_u8 g cap out (⟨#[92, 117]⟩ : ByteArray) ?hs_q2a ?hx_q2a HM.out (room_b HR.out (by decide)) ?_; (case hgd_q2a => rfl); (case ho_q2a => rfl); (case hs_q2a => rfl); (case hx_q2a => rfl); intro W_q2a hm hgr; obtain ⟨q2a, hz⟩ : ∃ z, z = out ++ bytesOf (⟨#[92, 117]⟩ : ByteArray) := ⟨_, rfl⟩; rw [← hz] at hm ⊢; have HZq2a := Aside0.mk hz; have HB1 := Aside0.mk (HB.out.grown hgr HB.out.size (fun r e => by obtain rfl := Option.some.inj e; exact HG.out)); clear hz HM HB; have HM := Aside0.mk hm; have HB := HB1; clear hm hgr HB1) | (go_at_call 87; refine (strings_IndexByte.calls t 92 _ _ HI.out).mono ?_; rintro e w7 ⟨rfl, hd⟩; have HM1 := Aside0.mk (HM.out.of (hd.below.block g HM.out.lt)); have HB1 := Aside0.mk (HB.out.trans (hd.below.mono HB.out.size)); clear HM HB; have HM := HM1; have HB := HB1; clear HM1 HB1 hd; (try clear hwx); (try clear hwy); (try clear b0); (try clear b1)) | ((with_reducible refine gate_builtin (b := .append) (xs := #[_, _]) rfl ?_); at_builtin; refine MB_str ?hgd_m2z ?os_m2z ?ox_m2z 47 9 5 ?ho_m2z Tryd.underlying47 Tryd.underlying9 inf_u8 g cap q2a t ?hs_m2z ?hx_m2z HM.out (room_t (len_s HZq2a.out (by decide)) HR.out) ?_; (case hgd_m2z => rfl); (case ho_m2z => rfl); (case hs_m2z => rfl); (case hx_m2z => rfl); intro W_m2z hm hgr; obtain ⟨m2z, hz⟩ : ∃ z, z = q2a ++ bytesOf t := ⟨_, rfl⟩; rw [← hz] at hm ⊢; have HZm2z := Aside0.mk hz; have HB1 := Aside0.mk (HB.out.grown hgr HB.out.size (fun r e => by obtain rfl := Option.some.inj e; exact HG.out)); clear hz HM HB; have HM := Aside0.mk hm; have HB := HB1; clear hm hgr HB1) | (go_at_call 50; refine (b2s_mb HM.out).mono ?_; rintro e w9m2 ⟨rfl, rfl⟩))
     go_ret
     refine ⟨?_, HB.out⟩
     rw [HZm2z.out, HZq2a.out]
     rfl
    | some m =>
     rw [hix] at hgo
     have hI := index_ix t 92 (by decide) (by decide)
     rw [hix, show toI (some m) = (m : Int) from rfl] at hI
     have hm := (ix_some hix).1
     rw [bytesOf_length] at hm
     have HI := Aside0.mk hI
     have HGO := Aside0.mk hgo
     have hmd := nat_neg m
     have hmw := wrap_m hm HS1.out
     have hmh := cutH t (m : Int) m rfl (Nat.le_of_lt hm)
     have hmr := cutR t ((m + 1 : Nat) : Int) (m + 1) rfl hm
     have HM0 := Aside0.mk hm
     clear hgo hix hI
     go_wp2_with (first | (go_at_call 88; with_reducible refine (u4_bad HUU.out HXS.out _ te6 te7 pe6 pe7 (glob HB.out HV6.out) (glob HB.out HV7.out)).mono ?_; rintro e w5q2b ⟨m5, et5, ep5, rfl, hd⟩; have HM1 := Aside0.mk (HM.out.of (hd.block g HM.out.lt)); have HB1 := Aside0.mk (HB.out.trans (hd.mono HB.out.size)); clear HM HB; have HM := HM1; have HB := HB1; clear HM1 HB1 hd) | ((with_reducible refine gate_builtin (b := .append) (xs := #[_, _]) rfl ?_); at_builtin; refine MB_str ?hgd_q2b ?os_q2b ?ox_q2b 47 9 5 ?ho_q2b Tryd.underlying47 Tryd.underlying9 inf_u8 g cap out (⟨#[92, 117]⟩ : ByteArray) ?hs_q2b ?hx_q2b HM.out (room_b HR.out (by decide)) ?_; (case hgd_q2b => rfl); (case ho_q2b => rfl); (case hs_q2b => rfl); (case hx_q2b => rfl); intro W_q2b hm hgr; obtain ⟨q2b, hz⟩ : ∃ z, z = out ++ bytesOf (⟨#[92, 117]⟩ : ByteArray) := ⟨_, rfl⟩; rw [← hz] at hm ⊢; have HZq2b := Aside0.mk hz; have HB1 := Aside0.mk (HB.out.grown hgr HB.out.size (fun r e => by obtain rfl := Option.some.inj e; exact HG.out)); clear hz HM HB; have HM := Aside0.mk hm; have HB := HB1; clear hm hgr HB1) | (go_at_call 87; refine (strings_IndexByte.calls t 92 _ _ HI.out).mono ?_; rintro e w7 ⟨rfl, hd⟩; have HM1 := Aside0.mk (HM.out.of (hd.below.block g HM.out.lt)); have HB1 := Aside0.mk (HB.out.trans (hd.below.mono HB.out.size)); clear HM HB; have HM := HM1; have HB := HB1; clear HM1 HB1 hd; (try clear hwx); (try clear hwy); (try clear b0); (try clear b1)) | ((with_reducible refine gate_builtin (b := .append) (xs := #[_, _]) rfl ?_); at_builtin; refine MB_str ?hgd_m2y ?os_m2y ?ox_m2y 47 9 5 ?ho_m2y Tryd.underlying47 Tryd.underlying9 inf_u8 g cap q2b (t.extract 0 m) ?hs_m2y ?hx_m2y HM.out (room_p (len_s HZq2b.out (by decide)) HR.out HM0.out) ?_; (case hgd_m2y => rfl); (case ho_m2y => rfl); (case hs_m2y => rfl); (case hx_m2y => rfl); intro W_m2y hm hgr; obtain ⟨m2y, hz⟩ : ∃ z, z = q2b ++ bytesOf (t.extract 0 m) := ⟨_, rfl⟩; rw [← hz] at hm ⊢; have HZm2y := Aside0.mk hz; have HB1 := Aside0.mk (HB.out.grown hgr HB.out.size (fun r e => by obtain rfl := Option.some.inj e; exact HG.out)); clear hz HM HB; have HM := Aside0.mk hm; have HB := HB1; clear hm hgr HB1))
     go_roundg j
     case measure => exact Nat.lt_succ_self _
     case rel =>
      refine ⟨t.extract (m + 1) t.size, m2y, rfl, rfl, ⟨⟨HM.out, HB.out, room_u HZm2y.out (len_s HZq2b.out (by decide)) HR.out HM0.out, sz_suf HS1.out, ?_⟩⟩⟩
      rw [HZm2y.out, HZq2b.out]; exact HGO.out
  | some x =>
   rw [hu] at hgo
   simp only at hgo
   have hwx := i32_id (u4_range hu).1 (u4_range hu).2
   have HUU := Aside0.mk hu
   have HS2 := HS1
   clear HS1
   have HS1 := Aside0.mk (sz_r4 HRZ.out HS2.out)
   clear hu HS2
   by_cases hsu : sur x = false
   ·rw [if_pos hsu] at hgo
    simp only at hgo
    have HR := Aside0.mk (room_4 HT.out HRZ.out)
    as_aux_lemma =>
     cases hix : ix 92 (bytesOf r4) with
     | none =>
      rw [hix] at hgo
      obtain rfl := Option.some.inj hgo
      have HI := Aside0.mk (index_ix r4 92 (by decide) (by decide))
      rw [hix, show toI (none : Option Nat) = -1 from rfl] at HI
      clear hgo hix
      go_wp2_with (first | (go_at_call 88; with_reducible refine (u4_ok HUU.out HXS.out _).mono ?_; rintro e w5q3a ⟨rfl, hd⟩; have HM1 := Aside0.mk (HM.out.of (hd.block g HM.out.lt)); have HB1 := Aside0.mk (HB.out.trans (hd.mono HB.out.size)); clear HM HB; have HM := HM1; have HB := HB1; clear HM1 HB1 hd) | (go_at_call 89; refine (utf16_IsSurrogate.calls x _ _ (sur_some x)).mono ?_; rintro e w4q3a ⟨rfl, hd⟩; have HM1 := Aside0.mk (HM.out.of (hd.below.block g HM.out.lt)); have HB1 := Aside0.mk (HB.out.trans (hd.below.mono HB.out.size)); clear HM HB; have HM := HM1; have HB := HB1; clear HM1 HB1 hd) | ((with_reducible refine gate_builtin (b := .append) (xs := #[_, _]) rfl ?_); at_builtin; refine MB_str ?hgd_q3a ?os_q3a ?ox_q3a 47 9 5 ?ho_q3a Tryd.underlying47 Tryd.underlying9 inf_u8 g cap out (Utf8.encode x) ?hs_q3a ?hx_q3a HM.out (room_b HR.out (encode_size x)) ?_; (case hgd_q3a => rfl); (case ho_q3a => rfl); (case hs_q3a => rfl); (case hx_q3a => rfl); intro W_q3a hm hgr; obtain ⟨q3a, hz⟩ : ∃ z, z = out ++ bytesOf (Utf8.encode x) := ⟨_, rfl⟩; rw [← hz] at hm ⊢; have HZq3a := Aside0.mk hz; have HB1 := Aside0.mk (HB.out.grown hgr HB.out.size (fun r e => by obtain rfl := Option.some.inj e; exact HG.out)); clear hz HM HB; have HM := Aside0.mk hm; have HB := HB1; clear hm hgr HB1) | (go_at_call 87; refine (strings_IndexByte.calls r4 92 _ _ HI.out).mono ?_; rintro e w7 ⟨rfl, hd⟩; have HM1 := Aside0.mk (HM.out.of (hd.below.block g HM.out.lt)); have HB1 := Aside0.mk (HB.out.trans (hd.below.mono HB.out.size)); clear HM HB; have HM := HM1; have HB := HB1; clear HM1 HB1 hd; (try clear hwx); (try clear hwy); (try clear b0); (try clear b1)) | ((with_reducible refine gate_builtin (b := .append) (xs := #[_, _]) rfl ?_); at_builtin; refine MB_str ?hgd_m3z ?os_m3z ?ox_m3z 47 9 5 ?ho_m3z Tryd.underlying47 Tryd.underlying9 inf_u8 g cap q3a r4 ?hs_m3z ?hx_m3z HM.out (room_t (len_s HZq3a.out (encode_size x)) HR.out) ?_; (case hgd_m3z => rfl); (case ho_m3z => rfl); (case hs_m3z => rfl); (case hx_m3z => rfl); intro W_m3z hm hgr; obtain ⟨m3z, hz⟩ : ∃ z, z = q3a ++ bytesOf r4 := ⟨_, rfl⟩; rw [← hz] at hm ⊢; have HZm3z := Aside0.mk hz; have HB1 := Aside0.mk (HB.out.grown hgr HB.out.size (fun r e => by obtain rfl := Option.some.inj e; exact HG.out)); clear hz HM HB; have HM := Aside0.mk hm; have HB := HB1; clear hm hgr HB1) | (go_at_call 50; refine (b2s_mb HM.out).mono ?_; rintro e w9m3 ⟨rfl, rfl⟩))
      go_ret
      refine ⟨?_, HB.out⟩
      rw [HZm3z.out, HZq3a.out]
      rfl
     | some m =>
      rw [hix] at hgo
      have hI := index_ix r4 92 (by decide) (by decide)
      rw [hix, show toI (some m) = (m : Int) from rfl] at hI
      have hm := (ix_some hix).1
      rw [bytesOf_length] at hm
      have HI := Aside0.mk hI
      have HGO := Aside0.mk hgo
      have hmd := nat_neg m
      have hmw := wrap_m hm HS1.out
      have hmh := cutH r4 (m : Int) m rfl (Nat.le_of_lt hm)
      have hmr := cutR r4 ((m + 1 : Nat) : Int) (m + 1) rfl hm
      have HM0 := Aside0.mk hm
      clear hgo hix hI
      go_wp2_with (first | (go_at_call 88; with_reducible refine (u4_ok HUU.out HXS.out _).mono ?_; rintro e w5q3b ⟨rfl, hd⟩; have HM1 := Aside0.mk (HM.out.of (hd.block g HM.out.lt)); have HB1 := Aside0.mk (HB.out.trans (hd.mono HB.out.size)); clear HM HB; have HM := HM1; have HB := HB1; clear HM1 HB1 hd) | (go_at_call 89; refine (utf16_IsSurrogate.calls x _ _ (sur_some x)).mono ?_; rintro e w4q3b ⟨rfl, hd⟩; have HM1 := Aside0.mk (HM.out.of (hd.below.block g HM.out.lt)); have HB1 := Aside0.mk (HB.out.trans (hd.below.mono HB.out.size)); clear HM HB; have HM := HM1; have HB := HB1; clear HM1 HB1 hd) | ((with_reducible refine gate_builtin (b := .append) (xs := #[_, _]) rfl ?_); at_builtin; refine MB_str ?hgd_q3b ?os_q3b ?ox_q3b 47 9 5 ?ho_q3b Tryd.underlying47 Tryd.underlying9 inf_u8 g cap out (Utf8.encode x) ?hs_q3b ?hx_q3b HM.out (room_b HR.out (encode_size x)) ?_; (case hgd_q3b => rfl); (case ho_q3b => rfl); (case hs_q3b => rfl); (case hx_q3b => rfl); intro W_q3b hm hgr; obtain ⟨q3b, hz⟩ : ∃ z, z = out ++ bytesOf (Utf8.encode x) := ⟨_, rfl⟩; rw [← hz] at hm ⊢; have HZq3b := Aside0.mk hz; have HB1 := Aside0.mk (HB.out.grown hgr HB.out.size (fun r e => by obtain rfl := Option.some.inj e; exact HG.out)); clear hz HM HB; have HM := Aside0.mk hm; have HB := HB1; clear hm hgr HB1) | (go_at_call 87; refine (strings_IndexByte.calls r4 92 _ _ HI.out).mono ?_; rintro e w7 ⟨rfl, hd⟩; have HM1 := Aside0.mk (HM.out.of (hd.below.block g HM.out.lt)); have HB1 := Aside0.mk (HB.out.trans (hd.below.mono HB.out.size)); clear HM HB; have HM := HM1; have HB := HB1; clear HM1 HB1 hd; (try clear hwx); (try clear hwy); (try clear b0); (try clear b1)) | ((with_reducible refine gate_builtin (b := .append) (xs := #[_, _]) rfl ?_); at_builtin; refine MB_str ?hgd_m3y ?os_m3y ?ox_m3y 47 9 5 ?ho_m3y Tryd.underlying47 Tryd.underlying9 inf_u8 g cap q3b (r4.extract 0 m) ?hs_m3y ?hx_m3y HM.out (room_p (len_s HZq3b.out (encode_size x)) HR.out HM0.out) ?_; (case hgd_m3y => rfl); (case ho_m3y => rfl); (case hs_m3y => rfl); (case hx_m3y => rfl); intro W_m3y hm hgr; obtain ⟨m3y, hz⟩ : ∃ z, z = q3b ++ bytesOf (r4.extract 0 m) := ⟨_, rfl⟩; rw [← hz] at hm ⊢; have HZm3y := Aside0.mk hz; have HB1 := Aside0.mk (HB.out.grown hgr HB.out.size (fun r e => by obtain rfl := Option.some.inj e; exact HG.out)); clear hz HM HB; have HM := Aside0.mk hm; have HB := HB1; clear hm hgr HB1))
      go_roundg j
      case measure => exact Nat.lt_succ_self _
      case rel =>
       refine ⟨r4.extract (m + 1) r4.size, m3y, rfl, rfl, ⟨⟨HM.out, HB.out, room_u HZm3y.out (len_s HZq3b.out (encode_size x)) HR.out HM0.out, sz_suf HS1.out, ?_⟩⟩⟩
       rw [HZm3y.out, HZq3b.out]; exact HGO.out
   rw [if_neg hsu] at hgo
   have hsu2 : sur x = true := by simpa using hsu
   clear hsu
   have HR := Aside0.mk (room_6 HT.out HRZ.out)
   by_cases h6 : r4.size < 6
   ·have d6 : decide ((r4.size : Int) < 6) = true := dec_lt h6
    rw [if_pos (Or.inl h6)] at hgo
    simp only at hgo
    rw [← HCB.out, ← List.append_assoc] at hgo
    clear h6
    as_aux_lemma =>
     cases hix : ix 92 (bytesOf r4) with
     | none =>
      rw [hix] at hgo
      obtain rfl := Option.some.inj hgo
      have HI := Aside0.mk (index_ix r4 92 (by decide) (by decide))
      rw [hix, show toI (none : Option Nat) = -1 from rfl] at HI
      clear hgo hix
      go_wp2_with (first | (go_at_call 88; with_reducible refine (u4_ok HUU.out HXS.out _).mono ?_; rintro e w5q4a ⟨rfl, hd⟩; have HM1 := Aside0.mk (HM.out.of (hd.block g HM.out.lt)); have HB1 := Aside0.mk (HB.out.trans (hd.mono HB.out.size)); clear HM HB; have HM := HM1; have HB := HB1; clear HM1 HB1 hd) | (go_at_call 89; refine (utf16_IsSurrogate.calls x _ _ (sur_some x)).mono ?_; rintro e w4q4a ⟨rfl, hd⟩; have HM1 := Aside0.mk (HM.out.of (hd.below.block g HM.out.lt)); have HB1 := Aside0.mk (HB.out.trans (hd.below.mono HB.out.size)); clear HM HB; have HM := HM1; have HB := HB1; clear HM1 HB1 hd) | ((with_reducible refine gate_builtin (b := .append) (xs := #[_, _]) rfl ?_); at_builtin; refine MB_str ?hgd_q4a ?os_q4a ?ox_q4a 47 9 5 ?ho_q4a Tryd.underlying47 Tryd.underlying9 inf_u8 g cap out (⟨#[92, 117]⟩ : ByteArray) ?hs_q4a ?hx_q4a HM.out (room_b HR.out (by decide)) ?_; (case hgd_q4a => rfl); (case ho_q4a => rfl); (case hs_q4a => rfl); (case hx_q4a => rfl); intro W_q4a hm hgr; obtain ⟨q4a, hz⟩ : ∃ z, z = out ++ bytesOf (⟨#[92, 117]⟩ : ByteArray) := ⟨_, rfl⟩; rw [← hz] at hm ⊢; have HZq4a := Aside0.mk hz; have HB1 := Aside0.mk (HB.out.grown hgr HB.out.size (fun r e => by obtain rfl := Option.some.inj e; exact HG.out)); clear hz HM HB; have HM := Aside0.mk hm; have HB := HB1; clear hm hgr HB1) | ((with_reducible refine gate_builtin (b := .append) (xs := #[_, _]) rfl ?_); at_builtin; refine MB_str ?hgd_q5a ?os_q5a ?ox_q5a 47 9 5 ?ho_q5a Tryd.underlying47 Tryd.underlying9 inf_u8 g cap q4a x4 ?hs_q5a ?hx_q5a HM.out (room_x HZq4a.out HXS.out HR.out) ?_; (case hgd_q5a => rfl); (case ho_q5a => rfl); (case hs_q5a => rfl); (case hx_q5a => rfl); intro W_q5a hm hgr; obtain ⟨q5a, hz⟩ : ∃ z, z = q4a ++ bytesOf x4 := ⟨_, rfl⟩; rw [← hz] at hm ⊢; have HZq5a := Aside0.mk hz; have HB1 := Aside0.mk (HB.out.grown hgr HB.out.size (fun r e => by obtain rfl := Option.some.inj e; exact HG.out)); clear hz HM HB; have HM := Aside0.mk hm; have HB := HB1; clear hm hgr HB1) | (go_at_call 87; refine (strings_IndexByte.calls r4 92 _ _ HI.out).mono ?_; rintro e w7 ⟨rfl, hd⟩; have HM1 := Aside0.mk (HM.out.of (hd.below.block g HM.out.lt)); have HB1 := Aside0.mk (HB.out.trans (hd.below.mono HB.out.size)); clear HM HB; have HM := HM1; have HB := HB1; clear HM1 HB1 hd; (try clear hwx); (try clear hwy); (try clear b0); (try clear b1)) | ((with_reducible refine gate_builtin (b := .append) (xs := #[_, _]) rfl ?_); at_builtin; refine MB_str ?hgd_m4z ?os_m4z ?ox_m4z 47 9 5 ?ho_m4z Tryd.underlying47 Tryd.underlying9 inf_u8 g cap q5a r4 ?hs_m4z ?hx_m4z HM.out (room_t (len_x HZq4a.out HZq5a.out HXS.out) HR.out) ?_; (case hgd_m4z => rfl); (case ho_m4z => rfl); (case hs_m4z => rfl); (case hx_m4z => rfl); intro W_m4z hm hgr; obtain ⟨m4z, hz⟩ : ∃ z, z = q5a ++ bytesOf r4 := ⟨_, rfl⟩; rw [← hz] at hm ⊢; have HZm4z := Aside0.mk hz; have HB1 := Aside0.mk (HB.out.grown hgr HB.out.size (fun r e => by obtain rfl := Option.some.inj e; exact HG.out)); clear hz HM HB; have HM := Aside0.mk hm; have HB := HB1; clear hm hgr HB1) | (go_at_call 50; refine (b2s_mb HM.out).mono ?_; rintro e w9m4 ⟨rfl, rfl⟩))
      go_ret
      refine ⟨?_, HB.out⟩
      rw [HZm4z.out, HZq5a.out, HZq4a.out]
      rfl
     | some m =>
      rw [hix] at hgo
      have hI := index_ix r4 92 (by decide) (by decide)
      rw [hix, show toI (some m) = (m : Int) from rfl] at hI
      have hm := (ix_some hix).1
      rw [bytesOf_length] at hm
      have HI := Aside0.mk hI
      have HGO := Aside0.mk hgo
      have hmd := nat_neg m
      have hmw := wrap_m hm HS1.out
      have hmh := cutH r4 (m : Int) m rfl (Nat.le_of_lt hm)
      have hmr := cutR r4 ((m + 1 : Nat) : Int) (m + 1) rfl hm
      have HM0 := Aside0.mk hm
      clear hgo hix hI
      go_wp2_with (first | (go_at_call 88; with_reducible refine (u4_ok HUU.out HXS.out _).mono ?_; rintro e w5q4b ⟨rfl, hd⟩; have HM1 := Aside0.mk (HM.out.of (hd.block g HM.out.lt)); have HB1 := Aside0.mk (HB.out.trans (hd.mono HB.out.size)); clear HM HB; have HM := HM1; have HB := HB1; clear HM1 HB1 hd) | (go_at_call 89; refine (utf16_IsSurrogate.calls x _ _ (sur_some x)).mono ?_; rintro e w4q4b ⟨rfl, hd⟩; have HM1 := Aside0.mk (HM.out.of (hd.below.block g HM.out.lt)); have HB1 := Aside0.mk (HB.out.trans (hd.below.mono HB.out.size)); clear HM HB; have HM := HM1; have HB := HB1; clear HM1 HB1 hd) | ((with_reducible refine gate_builtin (b := .append) (xs := #[_, _]) rfl ?_); at_builtin; refine MB_str ?hgd_q4b ?os_q4b ?ox_q4b 47 9 5 ?ho_q4b Tryd.underlying47 Tryd.underlying9 inf_u8 g cap out (⟨#[92, 117]⟩ : ByteArray) ?hs_q4b ?hx_q4b HM.out (room_b HR.out (by decide)) ?_; (case hgd_q4b => rfl); (case ho_q4b => rfl); (case hs_q4b => rfl); (case hx_q4b => rfl); intro W_q4b hm hgr; obtain ⟨q4b, hz⟩ : ∃ z, z = out ++ bytesOf (⟨#[92, 117]⟩ : ByteArray) := ⟨_, rfl⟩; rw [← hz] at hm ⊢; have HZq4b := Aside0.mk hz; have HB1 := Aside0.mk (HB.out.grown hgr HB.out.size (fun r e => by obtain rfl := Option.some.inj e; exact HG.out)); clear hz HM HB; have HM := Aside0.mk hm; have HB := HB1; clear hm hgr HB1) | ((with_reducible refine gate_builtin (b := .append) (xs := #[_, _]) rfl ?_); at_builtin; refine MB_str ?hgd_q5b ?os_q5b ?ox_q5b 47 9 5 ?ho_q5b Tryd.underlying47 Tryd.underlying9 inf_u8 g cap q4b x4 ?hs_q5b ?hx_q5b HM.out (room_x HZq4b.out HXS.out HR.out) ?_; (case hgd_q5b => rfl); (case ho_q5b => rfl); (case hs_q5b => rfl); (case hx_q5b => rfl); intro W_q5b hm hgr; obtain ⟨q5b, hz⟩ : ∃ z, z = q4b ++ bytesOf x4 := ⟨_, rfl⟩; rw [← hz] at hm ⊢; have HZq5b := Aside0.mk hz; have HB1 := Aside0.mk (HB.out.grown hgr HB.out.size (fun r e => by obtain rfl := Option.some.inj e; exact HG.out)); clear hz HM HB; have HM := Aside0.mk hm; have HB := HB1; clear hm hgr HB1) | (go_at_call 87; refine (strings_IndexByte.calls r4 92 _ _ HI.out).mono ?_; rintro e w7 ⟨rfl, hd⟩; have HM1 := Aside0.mk (HM.out.of (hd.below.block g HM.out.lt)); have HB1 := Aside0.mk (HB.out.trans (hd.below.mono HB.out.size)); clear HM HB; have HM := HM1; have HB := HB1; clear HM1 HB1 hd; (try clear hwx); (try clear hwy); (try clear b0); (try clear b1)) | ((with_reducible refine gate_builtin (b := .append) (xs := #[_, _]) rfl ?_); at_builtin; refine MB_str ?hgd_m4y ?os_m4y ?ox_m4y 47 9 5 ?ho_m4y Tryd.underlying47 Tryd.underlying9 inf_u8 g cap q5b (r4.extract 0 m) ?hs_m4y ?hx_m4y HM.out (room_p (len_x HZq4b.out HZq5b.out HXS.out) HR.out HM0.out) ?_; (case hgd_m4y => rfl); (case ho_m4y => rfl); (case hs_m4y => rfl); (case hx_m4y => rfl); intro W_m4y hm hgr; obtain ⟨m4y, hz⟩ : ∃ z, z = q5b ++ bytesOf (r4.extract 0 m) := ⟨_, rfl⟩; rw [← hz] at hm ⊢; have HZm4y := Aside0.mk hz; have HB1 := Aside0.mk (HB.out.grown hgr HB.out.size (fun r e => by obtain rfl := Option.some.inj e; exact HG.out)); clear hz HM HB; have HM := Aside0.mk hm; have HB := HB1; clear hm hgr HB1))
      go_roundg j
      case measure => exact Nat.lt_succ_self _
      case rel =>
       refine ⟨r4.extract (m + 1) r4.size, m4y, rfl, rfl, ⟨⟨HM.out, HB.out, room_u HZm4y.out (len_x HZq4b.out HZq5b.out HXS.out) HR.out HM0.out, sz_suf HS1.out, ?_⟩⟩⟩
       rw [HZm4y.out, HZq5b.out, HZq4b.out]; exact HGO.out
   have d6 : decide ((r4.size : Int) < 6) = false := dec_ge h6
   have HN6 := Aside0.mk h6
   have f1 : (1 : Int) ≤ (r4.size : Int) := by omega
   have f2 : (0 < r4.size) = True := eq_true (by omega)
   have f3 : (0 < (r4.size : Int)) = True := eq_true (by omega)
   have f4 : ∀ h : 0 < r4.size, ((r4[0]'h).toNat : Int) = bt r4 0 := bt_at r4 0
   have g2 : (1 < r4.size) = True := eq_true (by omega)
   have g3 : (1 < (r4.size : Int)) = True := eq_true (by omega)
   have g4 : ∀ h : 1 < r4.size, ((r4[1]'h).toNat : Int) = bt r4 1 := bt_at r4 1
   have h66 : (6 : Int) ≤ (r4.size : Int) := by omega
   clear h6
   by_cases b0 : bt r4 0 = 92
   rotate_left
   ·have kb0 : (bt r4 0 == 92) = false := beq_eq_false_iff_ne.2 b0
    rw [if_pos (Or.inr (Or.inl b0))] at hgo
    simp only at hgo
    rw [← HCB.out, ← List.append_assoc] at hgo
    as_aux_lemma =>
     cases hix : ix 92 (bytesOf r4) with
     | none =>
      rw [hix] at hgo
      obtain rfl := Option.some.inj hgo
      have HI := Aside0.mk (index_ix r4 92 (by decide) (by decide))
      rw [hix, show toI (none : Option Nat) = -1 from rfl] at HI
      clear hgo hix
      go_wp2_with (first | (go_at_call 88; with_reducible refine (u4_ok HUU.out HXS.out _).mono ?_; rintro e w5q6a ⟨rfl, hd⟩; have HM1 := Aside0.mk (HM.out.of (hd.block g HM.out.lt)); have HB1 := Aside0.mk (HB.out.trans (hd.mono HB.out.size)); clear HM HB; have HM := HM1; have HB := HB1; clear HM1 HB1 hd) | (go_at_call 89; refine (utf16_IsSurrogate.calls x _ _ (sur_some x)).mono ?_; rintro e w4q6a ⟨rfl, hd⟩; have HM1 := Aside0.mk (HM.out.of (hd.below.block g HM.out.lt)); have HB1 := Aside0.mk (HB.out.trans (hd.below.mono HB.out.size)); clear HM HB; have HM := HM1; have HB := HB1; clear HM1 HB1 hd) | ((with_reducible refine gate_builtin (b := .append) (xs := #[_, _]) rfl ?_); at_builtin; refine MB_str ?hgd_q6a ?os_q6a ?ox_q6a 47 9 5 ?ho_q6a Tryd.underlying47 Tryd.underlying9 inf_u8 g cap out (⟨#[92, 117]⟩ : ByteArray) ?hs_q6a ?hx_q6a HM.out (room_b HR.out (by decide)) ?_; (case hgd_q6a => rfl); (case ho_q6a => rfl); (case hs_q6a => rfl); (case hx_q6a => rfl); intro W_q6a hm hgr; obtain ⟨q6a, hz⟩ : ∃ z, z = out ++ bytesOf (⟨#[92, 117]⟩ : ByteArray) := ⟨_, rfl⟩; rw [← hz] at hm ⊢; have HZq6a := Aside0.mk hz; have HB1 := Aside0.mk (HB.out.grown hgr HB.out.size (fun r e => by obtain rfl := Option.some.inj e; exact HG.out)); clear hz HM HB; have HM := Aside0.mk hm; have HB := HB1; clear hm hgr HB1) | ((with_reducible refine gate_builtin (b := .append) (xs := #[_, _]) rfl ?_); at_builtin; refine MB_str ?hgd_q7a ?os_q7a ?ox_q7a 47 9 5 ?ho_q7a Tryd.underlying47 Tryd.underlying9 inf_u8 g cap q6a x4 ?hs_q7a ?hx_q7a HM.out (room_x HZq6a.out HXS.out HR.out) ?_; (case hgd_q7a => rfl); (case ho_q7a => rfl); (case hs_q7a => rfl); (case hx_q7a => rfl); intro W_q7a hm hgr; obtain ⟨q7a, hz⟩ : ∃ z, z = q6a ++ bytesOf x4 := ⟨_, rfl⟩; rw [← hz] at hm ⊢; have HZq7a := Aside0.mk hz; have HB1 := Aside0.mk (HB.out.grown hgr HB.out.size (fun r e => by obtain rfl := Option.some.inj e; exact HG.out)); clear hz HM HB; have HM := Aside0.mk hm; have HB := HB1; clear hm hgr HB1) | (go_at_call 87; refine (strings_IndexByte.calls r4 92 _ _ HI.out).mono ?_; rintro e w7 ⟨rfl, hd⟩; have HM1 := Aside0.mk (HM.out.of (hd.below.block g HM.out.lt)); have HB1 := Aside0.mk (HB.out.trans (hd.below.mono HB.out.size)); clear HM HB; have HM := HM1; have HB := HB1; clear HM1 HB1 hd; (try clear hwx); (try clear hwy); (try clear b0); (try clear b1)) | ((with_reducible refine gate_builtin (b := .append) (xs := #[_, _]) rfl ?_); at_builtin; refine MB_str ?hgd_m5z ?os_m5z ?ox_m5z 47 9 5 ?ho_m5z Tryd.underlying47 Tryd.underlying9 inf_u8 g cap q7a r4 ?hs_m5z ?hx_m5z HM.out (room_t (len_x HZq6a.out HZq7a.out HXS.out) HR.out) ?_; (case hgd_m5z => rfl); (case ho_m5z => rfl); (case hs_m5z => rfl); (case hx_m5z => rfl); intro W_m5z hm hgr; obtain ⟨m5z, hz⟩ : ∃ z, z = q7a ++ bytesOf r4 := ⟨_, rfl⟩; rw [← hz] at hm ⊢; have HZm5z := Aside0.mk hz; have HB1 := Aside0.mk (HB.out.grown hgr HB.out.size (fun r e => by obtain rfl := Option.some.inj e; exact HG.out)); clear hz HM HB; have HM := Aside0.mk hm; have HB := HB1; clear hm hgr HB1) | (go_at_call 50; refine (b2s_mb HM.out).mono ?_; rintro e w9m5 ⟨rfl, rfl⟩))
      go_ret
      refine ⟨?_, HB.out⟩
      rw [HZm5z.out, HZq7a.out, HZq6a.out]
      rfl
     | some m =>
      rw [hix] at hgo
      have hI := index_ix r4 92 (by decide) (by decide)
      rw [hix, show toI (some m) = (m : Int) from rfl] at hI
      have hm := (ix_some hix).1
      rw [bytesOf_length] at hm
      have HI := Aside0.mk hI
      have HGO := Aside0.mk hgo
      have hmd := nat_neg m
      have hmw := wrap_m hm HS1.out
      have hmh := cutH r4 (m : Int) m rfl (Nat.le_of_lt hm)
      have hmr := cutR r4 ((m + 1 : Nat) : Int) (m + 1) rfl hm
      have HM0 := Aside0.mk hm
      clear hgo hix hI
      go_wp2_with (first | (go_at_call 88; with_reducible refine (u4_ok HUU.out HXS.out _).mono ?_; rintro e w5q6b ⟨rfl, hd⟩; have HM1 := Aside0.mk (HM.out.of (hd.block g HM.out.lt)); have HB1 := Aside0.mk (HB.out.trans (hd.mono HB.out.size)); clear HM HB; have HM := HM1; have HB := HB1; clear HM1 HB1 hd) | (go_at_call 89; refine (utf16_IsSurrogate.calls x _ _ (sur_some x)).mono ?_; rintro e w4q6b ⟨rfl, hd⟩; have HM1 := Aside0.mk (HM.out.of (hd.below.block g HM.out.lt)); have HB1 := Aside0.mk (HB.out.trans (hd.below.mono HB.out.size)); clear HM HB; have HM := HM1; have HB := HB1; clear HM1 HB1 hd) | ((with_reducible refine gate_builtin (b := .append) (xs := #[_, _]) rfl ?_); at_builtin; refine MB_str ?hgd_q6b ?os_q6b ?ox_q6b 47 9 5 ?ho_q6b Tryd.underlying47 Tryd.underlying9 inf_u8 g cap out (⟨#[92, 117]⟩ : ByteArray) ?hs_q6b ?hx_q6b HM.out (room_b HR.out (by decide)) ?_; (case hgd_q6b => rfl); (case ho_q6b => rfl); (case hs_q6b => rfl); (case hx_q6b => rfl); intro W_q6b hm hgr; obtain ⟨q6b, hz⟩ : ∃ z, z = out ++ bytesOf (⟨#[92, 117]⟩ : ByteArray) := ⟨_, rfl⟩; rw [← hz] at hm ⊢; have HZq6b := Aside0.mk hz; have HB1 := Aside0.mk (HB.out.grown hgr HB.out.size (fun r e => by obtain rfl := Option.some.inj e; exact HG.out)); clear hz HM HB; have HM := Aside0.mk hm; have HB := HB1; clear hm hgr HB1) | ((with_reducible refine gate_builtin (b := .append) (xs := #[_, _]) rfl ?_); at_builtin; refine MB_str ?hgd_q7b ?os_q7b ?ox_q7b 47 9 5 ?ho_q7b Tryd.underlying47 Tryd.underlying9 inf_u8 g cap q6b x4 ?hs_q7b ?hx_q7b HM.out (room_x HZq6b.out HXS.out HR.out) ?_; (case hgd_q7b => rfl); (case ho_q7b => rfl); (case hs_q7b => rfl); (case hx_q7b => rfl); intro W_q7b hm hgr; obtain ⟨q7b, hz⟩ : ∃ z, z = q6b ++ bytesOf x4 := ⟨_, rfl⟩; rw [← hz] at hm ⊢; have HZq7b := Aside0.mk hz; have HB1 := Aside0.mk (HB.out.grown hgr HB.out.size (fun r e => by obtain rfl := Option.some.inj e; exact HG.out)); clear hz HM HB; have HM := Aside0.mk hm; have HB := HB1; clear hm hgr HB1) | (go_at_call 87; refine (strings_IndexByte.calls r4 92 _ _ HI.out).mono ?_; rintro e w7 ⟨rfl, hd⟩; have HM1 := Aside0.mk (HM.out.of (hd.below.block g HM.out.lt)); have HB1 := Aside0.mk (HB.out.trans (hd.below.mono HB.out.size)); clear HM HB; have HM := HM1; have HB := HB1; clear HM1 HB1 hd; (try clear hwx); (try clear hwy); (try clear b0); (try clear b1)) | ((with_reducible refine gate_builtin (b := .append) (xs := #[_, _]) rfl ?_); at_builtin; refine MB_str ?hgd_m5y ?os_m5y ?ox_m5y 47 9 5 ?ho_m5y Tryd.underlying47 Tryd.underlying9 inf_u8 g cap q7b (r4.extract 0 m) ?hs_m5y ?hx_m5y HM.out (room_p (len_x HZq6b.out HZq7b.out HXS.out) HR.out HM0.out) ?_; (case hgd_m5y => rfl); (case ho_m5y => rfl); (case hs_m5y => rfl); (case hx_m5y => rfl); intro W_m5y hm hgr; obtain ⟨m5y, hz⟩ : ∃ z, z = q7b ++ bytesOf (r4.extract 0 m) := ⟨_, rfl⟩; rw [← hz] at hm ⊢; have HZm5y := Aside0.mk hz; have HB1 := Aside0.mk (HB.out.grown hgr HB.out.size (fun r e => by obtain rfl := Option.some.inj e; exact HG.out)); clear hz HM HB; have HM := Aside0.mk hm; have HB := HB1; clear hm hgr HB1))
      go_roundg j
      case measure => exact Nat.lt_succ_self _
      case rel =>
       refine ⟨r4.extract (m + 1) r4.size, m5y, rfl, rfl, ⟨⟨HM.out, HB.out, room_u HZm5y.out (len_x HZq6b.out HZq7b.out HXS.out) HR.out HM0.out, sz_suf HS1.out, ?_⟩⟩⟩
       rw [HZm5y.out, HZq7b.out, HZq6b.out]; exact HGO.out
   have kb0 : (bt r4 0 == 92) = true := beq_iff_eq.2 b0
   by_cases b1 : bt r4 1 = 117
   rotate_left
   ·have kb1 : (bt r4 1 == 117) = false := beq_eq_false_iff_ne.2 b1
    rw [if_pos (Or.inr (Or.inr b1))] at hgo
    simp only at hgo
    rw [← HCB.out, ← List.append_assoc] at hgo
    as_aux_lemma =>
     cases hix : ix 92 (bytesOf r4) with
     | none =>
      rw [hix] at hgo
      obtain rfl := Option.some.inj hgo
      have HI := Aside0.mk (index_ix r4 92 (by decide) (by decide))
      rw [hix, show toI (none : Option Nat) = -1 from rfl] at HI
      clear hgo hix
      go_wp2_with (first | (go_at_call 88; with_reducible refine (u4_ok HUU.out HXS.out _).mono ?_; rintro e w5q8a ⟨rfl, hd⟩; have HM1 := Aside0.mk (HM.out.of (hd.block g HM.out.lt)); have HB1 := Aside0.mk (HB.out.trans (hd.mono HB.out.size)); clear HM HB; have HM := HM1; have HB := HB1; clear HM1 HB1 hd) | (go_at_call 89; refine (utf16_IsSurrogate.calls x _ _ (sur_some x)).mono ?_; rintro e w4q8a ⟨rfl, hd⟩; have HM1 := Aside0.mk (HM.out.of (hd.below.block g HM.out.lt)); have HB1 := Aside0.mk (HB.out.trans (hd.below.mono HB.out.size)); clear HM HB; have HM := HM1; have HB := HB1; clear HM1 HB1 hd) | ((with_reducible refine gate_builtin (b := .append) (xs := #[_, _]) rfl ?_); at_builtin; refine MB_str ?hgd_q8a ?os_q8a ?ox_q8a 47 9 5 ?ho_q8a Tryd.underlying47 Tryd.underlying9 inf_u8 g cap out (⟨#[92, 117]⟩ : ByteArray) ?hs_q8a ?hx_q8a HM.out (room_b HR.out (by decide)) ?_; (case hgd_q8a => rfl); (case ho_q8a => rfl); (case hs_q8a => rfl); (case hx_q8a => rfl); intro W_q8a hm hgr; obtain ⟨q8a, hz⟩ : ∃ z, z = out ++ bytesOf (⟨#[92, 117]⟩ : ByteArray) := ⟨_, rfl⟩; rw [← hz] at hm ⊢; have HZq8a := Aside0.mk hz; have HB1 := Aside0.mk (HB.out.grown hgr HB.out.size (fun r e => by obtain rfl := Option.some.inj e; exact HG.out)); clear hz HM HB; have HM := Aside0.mk hm; have HB := HB1; clear hm hgr HB1) | ((with_reducible refine gate_builtin (b := .append) (xs := #[_, _]) rfl ?_); at_builtin; refine MB_str ?hgd_q9a ?os_q9a ?ox_q9a 47 9 5 ?ho_q9a Tryd.underlying47 Tryd.underlying9 inf_u8 g cap q8a x4 ?hs_q9a ?hx_q9a HM.out (room_x HZq8a.out HXS.out HR.out) ?_; (case hgd_q9a => rfl); (case ho_q9a => rfl); (case hs_q9a => rfl); (case hx_q9a => rfl); intro W_q9a hm hgr; obtain ⟨q9a, hz⟩ : ∃ z, z = q8a ++ bytesOf x4 := ⟨_, rfl⟩; rw [← hz] at hm ⊢; have HZq9a := Aside0.mk hz; have HB1 := Aside0.mk (HB.out.grown hgr HB.out.size (fun r e => by obtain rfl := Option.some.inj e; exact HG.out)); clear hz HM HB; have HM := Aside0.mk hm; have HB := HB1; clear hm hgr HB1) | (go_at_call 87; refine (strings_IndexByte.calls r4 92 _ _ HI.out).mono ?_; rintro e w7 ⟨rfl, hd⟩; have HM1 := Aside0.mk (HM.out.of (hd.below.block g HM.out.lt)); have HB1 := Aside0.mk (HB.out.trans (hd.below.mono HB.out.size)); clear HM HB; have HM := HM1; have HB := HB1; clear HM1 HB1 hd; (try clear hwx); (try clear hwy); (try clear b0); (try clear b1)) | ((with_reducible refine gate_builtin (b := .append) (xs := #[_, _]) rfl ?_); at_builtin; refine MB_str ?hgd_m6z ?os_m6z ?ox_m6z 47 9 5 ?ho_m6z Tryd.underlying47 Tryd.underlying9 inf_u8 g cap q9a r4 ?hs_m6z ?hx_m6z HM.out (room_t (len_x HZq8a.out HZq9a.out HXS.out) HR.out) ?_; (case hgd_m6z => rfl); (case ho_m6z => rfl); (case hs_m6z => rfl); (case hx_m6z => rfl); intro W_m6z hm hgr; obtain ⟨m6z, hz⟩ : ∃ z, z = q9a ++ bytesOf r4 := ⟨_, rfl⟩; rw [← hz] at hm ⊢; have HZm6z := Aside0.mk hz; have HB1 := Aside0.mk (HB.out.grown hgr HB.out.size (fun r e => by obtain rfl := Option.some.inj e; exact HG.out)); clear hz HM HB; have HM := Aside0.mk hm; have HB := HB1; clear hm hgr HB1) | (go_at_call 50; refine (b2s_mb HM.out).mono ?_; rintro e w9m6 ⟨rfl, rfl⟩))
      go_ret
      refine ⟨?_, HB.out⟩
      rw [HZm6z.out, HZq9a.out, HZq8a.out]
      rfl
     | some m =>
      rw [hix] at hgo
      have hI := index_ix r4 92 (by decide) (by decide)
      rw [hix, show toI (some m) = (m : Int) from rfl] at hI
      have hm := (ix_some hix).1
      rw [bytesOf_length] at hm
      have HI := Aside0.mk hI
      have HGO := Aside0.mk hgo
      have hmd := nat_neg m
      have hmw := wrap_m hm HS1.out
      have hmh := cutH r4 (m : Int) m rfl (Nat.le_of_lt hm)
      have hmr := cutR r4 ((m + 1 : Nat) : Int) (m + 1) rfl hm
      have HM0 := Aside0.mk hm
      clear hgo hix hI
      go_wp2_with (first | (go_at_call 88; with_reducible refine (u4_ok HUU.out HXS.out _).mono ?_; rintro e w5q8b ⟨rfl, hd⟩; have HM1 := Aside0.mk (HM.out.of (hd.block g HM.out.lt)); have HB1 := Aside0.mk (HB.out.trans (hd.mono HB.out.size)); clear HM HB; have HM := HM1; have HB := HB1; clear HM1 HB1 hd) | (go_at_call 89; refine (utf16_IsSurrogate.calls x _ _ (sur_some x)).mono ?_; rintro e w4q8b ⟨rfl, hd⟩; have HM1 := Aside0.mk (HM.out.of (hd.below.block g HM.out.lt)); have HB1 := Aside0.mk (HB.out.trans (hd.below.mono HB.out.size)); clear HM HB; have HM := HM1; have HB := HB1; clear HM1 HB1 hd) | ((with_reducible refine gate_builtin (b := .append) (xs := #[_, _]) rfl ?_); at_builtin; refine MB_str ?hgd_q8b ?os_q8b ?ox_q8b 47 9 5 ?ho_q8b Tryd.underlying47 Tryd.underlying9 inf_u8 g cap out (⟨#[92, 117]⟩ : ByteArray) ?hs_q8b ?hx_q8b HM.out (room_b HR.out (by decide)) ?_; (case hgd_q8b => rfl); (case ho_q8b => rfl); (case hs_q8b => rfl); (case hx_q8b => rfl); intro W_q8b hm hgr; obtain ⟨q8b, hz⟩ : ∃ z, z = out ++ bytesOf (⟨#[92, 117]⟩ : ByteArray) := ⟨_, rfl⟩; rw [← hz] at hm ⊢; have HZq8b := Aside0.mk hz; have HB1 := Aside0.mk (HB.out.grown hgr HB.out.size (fun r e => by obtain rfl := Option.some.inj e; exact HG.out)); clear hz HM HB; have HM := Aside0.mk hm; have HB := HB1; clear hm hgr HB1) | ((with_reducible refine gate_builtin (b := .append) (xs := #[_, _]) rfl ?_); at_builtin; refine MB_str ?hgd_q9b ?os_q9b ?ox_q9b 47 9 5 ?ho_q9b Tryd.underlying47 Tryd.underlying9 inf_u8 g cap q8b x4 ?hs_q9b ?hx_q9b HM.out (room_x HZq8b.out HXS.out HR.out) ?_; (case hgd_q9b => rfl); (case ho_q9b => rfl); (case hs_q9b => rfl); (case hx_q9b => rfl); intro W_q9b hm hgr; obtain ⟨q9b, hz⟩ : ∃ z, z = q8b ++ bytesOf x4 := ⟨_, rfl⟩; rw [← hz] at hm ⊢; have HZq9b := Aside0.mk hz; have HB1 := Aside0.mk (HB.out.grown hgr HB.out.size (fun r e => by obtain rfl := Option.some.inj e; exact HG.out)); clear hz HM HB; have HM := Aside0.mk hm; have HB := HB1; clear hm hgr HB1) | (go_at_call 87; refine (strings_IndexByte.calls r4 92 _ _ HI.out).mono ?_; rintro e w7 ⟨rfl, hd⟩; have HM1 := Aside0.mk (HM.out.of (hd.below.block g HM.out.lt)); have HB1 := Aside0.mk (HB.out.trans (hd.below.mono HB.out.size)); clear HM HB; have HM := HM1; have HB := HB1; clear HM1 HB1 hd; (try clear hwx); (try clear hwy); (try clear b0); (try clear b1)) | ((with_reducible refine gate_builtin (b := .append) (xs := #[_, _]) rfl ?_); at_builtin; refine MB_str ?hgd_m6y ?os_m6y ?ox_m6y 47 9 5 ?ho_m6y Tryd.underlying47 Tryd.underlying9 inf_u8 g cap q9b (r4.extract 0 m) ?hs_m6y ?hx_m6y HM.out (room_p (len_x HZq8b.out HZq9b.out HXS.out) HR.out HM0.out) ?_; (case hgd_m6y => rfl); (case ho_m6y => rfl); (case hs_m6y => rfl); (case hx_m6y => rfl); intro W_m6y hm hgr; obtain ⟨m6y, hz⟩ : ∃ z, z = q9b ++ bytesOf (r4.extract 0 m) := ⟨_, rfl⟩; rw [← hz] at hm ⊢; have HZm6y := Aside0.mk hz; have HB1 := Aside0.mk (HB.out.grown hgr HB.out.size (fun r e => by obtain rfl := Option.some.inj e; exact HG.out)); clear hz HM HB; have HM := Aside0.mk hm; have HB := HB1; clear hm hgr HB1))
      go_roundg j
      case measure => exact Nat.lt_succ_self _
      case rel =>
       refine ⟨r4.extract (m + 1) r4.size, m6y, rfl, rfl, ⟨⟨HM.out, HB.out, room_u HZm6y.out (len_x HZq8b.out HZq9b.out HXS.out) HR.out HM0.out, sz_suf HS1.out, ?_⟩⟩⟩
       rw [HZm6y.out, HZq9b.out, HZq8b.out]; exact HGO.out
   have kb1 : (bt r4 1 == 117) = true := beq_iff_eq.2 b1
   have hng : ¬ (r4.size < 6 ∨ bt r4 0 ≠ 92 ∨ bt r4 1 ≠ 117) := by
    rintro (h | h | h)
    ·exact HN6.out h
    ·exact h b0
    exact h b1
   rw [if_neg hng] at hgo
   clear hng
   have h6m := cutM r4 2 6 2 6 rfl rfl (by decide) (Nat.le_of_not_lt HN6.out)
   have h6r := cutR r4 6 6 rfl (Nat.le_of_not_lt HN6.out)
   obtain ⟨z4, hz4⟩ : ∃ z, z = r4.extract 2 6 := ⟨_, rfl⟩
   obtain ⟨r6, hr6⟩ : ∃ z, z = r4.extract 6 r4.size := ⟨_, rfl⟩
   have HZS : Aside0 (z4.size = 4) := ⟨by rw [hz4]; exact mid_sz (Nat.le_of_not_lt HN6.out)⟩
   have HRY : Aside0 (r6.size ≤ r4.size) := ⟨by rw [hr6, suf_size]; exact Nat.sub_le _ _⟩
   rw [← hz4, ← hr6] at hgo
   rw [← hz4] at h6m
   rw [← hr6] at h6r
   clear hz4 hr6
   cases hv : u4 z4 with
   | none =>
    rw [hv] at hgo
    simp only at hgo
    rw [← HCB.out, ← List.append_assoc] at hgo
    have HVV := Aside0.mk hv
    clear hv h6r HRY
    as_aux_lemma =>
     cases hix : ix 92 (bytesOf r4) with
     | none =>
      rw [hix] at hgo
      obtain rfl := Option.some.inj hgo
      have HI := Aside0.mk (index_ix r4 92 (by decide) (by decide))
      rw [hix, show toI (none : Option Nat) = -1 from rfl] at HI
      clear hgo hix
      go_wp2_with (first | (go_at_call 88; with_reducible refine (u4_ok HUU.out HXS.out _).mono ?_; rintro e w5qaa ⟨rfl, hd⟩; have HM1 := Aside0.mk (HM.out.of (hd.block g HM.out.lt)); have HB1 := Aside0.mk (HB.out.trans (hd.mono HB.out.size)); clear HM HB; have HM := HM1; have HB := HB1; clear HM1 HB1 hd) | (go_at_call 89; refine (utf16_IsSurrogate.calls x _ _ (sur_some x)).mono ?_; rintro e w4qaa ⟨rfl, hd⟩; have HM1 := Aside0.mk (HM.out.of (hd.below.block g HM.out.lt)); have HB1 := Aside0.mk (HB.out.trans (hd.below.mono HB.out.size)); clear HM HB; have HM := HM1; have HB := HB1; clear HM1 HB1 hd) | (go_at_call 88; with_reducible refine (u4_bad HVV.out HZS.out _ te6 te7 pe6 pe7 (glob HB.out HV6.out) (glob HB.out HV7.out)).mono ?_; rintro e w5qaa ⟨m5, et5, ep5, rfl, hd⟩; have HM1 := Aside0.mk (HM.out.of (hd.block g HM.out.lt)); have HB1 := Aside0.mk (HB.out.trans (hd.mono HB.out.size)); clear HM HB; have HM := HM1; have HB := HB1; clear HM1 HB1 hd; clear b0 b1 kb0 kb1) | ((with_reducible refine gate_builtin (b := .append) (xs := #[_, _]) rfl ?_); at_builtin; refine MB_str ?hgd_qaa ?os_qaa ?ox_qaa 47 9 5 ?ho_qaa Tryd.underlying47 Tryd.underlying9 inf_u8 g cap out (⟨#[92, 117]⟩ : ByteArray) ?hs_qaa ?hx_qaa HM.out (room_b HR.out (by decide)) ?_; (case hgd_qaa => rfl); (case ho_qaa => rfl); (case hs_qaa => rfl); (case hx_qaa => rfl); intro W_qaa hm hgr; obtain ⟨qaa, hz⟩ : ∃ z, z = out ++ bytesOf (⟨#[92, 117]⟩ : ByteArray) := ⟨_, rfl⟩; rw [← hz] at hm ⊢; have HZqaa := Aside0.mk hz; have HB1 := Aside0.mk (HB.out.grown hgr HB.out.size (fun r e => by obtain rfl := Option.some.inj e; exact HG.out)); clear hz HM HB; have HM := Aside0.mk hm; have HB := HB1; clear hm hgr HB1) | ((with_reducible refine gate_builtin (b := .append) (xs := #[_, _]) rfl ?_); at_builtin; refine MB_str ?hgd_qba ?os_qba ?ox_qba 47 9 5 ?ho_qba Tryd.underlying47 Tryd.underlying9 inf_u8 g cap qaa x4 ?hs_qba ?hx_qba HM.out (room_x HZqaa.out HXS.out HR.out) ?_; (case hgd_qba => rfl); (case ho_qba => rfl); (case hs_qba => rfl); (case hx_qba => rfl); intro W_qba hm hgr; obtain ⟨qba, hz⟩ : ∃ z, z = qaa ++ bytesOf x4 := ⟨_, rfl⟩; rw [← hz] at hm ⊢; have HZqba := Aside0.mk hz; have HB1 := Aside0.mk (HB.out.grown hgr HB.out.size (fun r e => by obtain rfl := Option.some.inj e; exact HG.out)); clear hz HM HB; have HM := Aside0.mk hm; have HB := HB1; clear hm hgr HB1) | (go_at_call 87; refine (strings_IndexByte.calls r4 92 _ _ HI.out).mono ?_; rintro e w7 ⟨rfl, hd⟩; have HM1 := Aside0.mk (HM.out.of (hd.below.block g HM.out.lt)); have HB1 := Aside0.mk (HB.out.trans (hd.below.mono HB.out.size)); clear HM HB; have HM := HM1; have HB := HB1; clear HM1 HB1 hd; (try clear hwx); (try clear hwy); (try clear b0); (try clear b1)) | ((with_reducible refine gate_builtin (b := .append) (xs := #[_, _]) rfl ?_); at_builtin; refine MB_str ?hgd_m7z ?os_m7z ?ox_m7z 47 9 5 ?ho_m7z Tryd.underlying47 Tryd.underlying9 inf_u8 g cap qba r4 ?hs_m7z ?hx_m7z HM.out (room_t (len_x HZqaa.out HZqba.out HXS.out) HR.out) ?_; (case hgd_m7z => rfl); (case ho_m7z => rfl); (case hs_m7z => rfl); (case hx_m7z => rfl); intro W_m7z hm hgr; obtain ⟨m7z, hz⟩ : ∃ z, z = qba ++ bytesOf r4 := ⟨_, rfl⟩; rw [← hz] at hm ⊢; have HZm7z := Aside0.mk hz; have HB1 := Aside0.mk (HB.out.grown hgr HB.out.size (fun r e => by obtain rfl := Option.some.inj e; exact HG.out)); clear hz HM HB; have HM := Aside0.mk hm; have HB := HB1; clear hm hgr HB1) | (go_at_call 50; refine (b2s_mb HM.out).mono ?_; rintro e w9m7 ⟨rfl, rfl⟩))
      go_ret
      refine ⟨?_, HB.out⟩
      rw [HZm7z.out, HZqba.out, HZqaa.out]
      rfl
     | some m =>
      rw [hix] at hgo
      have hI := index_ix r4 92 (by decide) (by decide)
      rw [hix, show toI (some m) = (m : Int) from rfl] at hI
      have hm := (ix_some hix).1
      rw [bytesOf_length] at hm
      have HI := Aside0.mk hI
      have HGO := Aside0.mk hgo
      have hmd := nat_neg m
      have hmw := wrap_m hm HS1.out
      have hmh := cutH r4 (m : Int) m rfl (Nat.le_of_lt hm)
      have hmr := cutR r4 ((m + 1 : Nat) : Int) (m + 1) rfl hm
      have HM0 := Aside0.mk hm
      clear hgo hix hI
      go_wp2_with (first | (go_at_call 88; with_reducible refine (u4_ok HUU.out HXS.out _).mono ?_; rintro e w5qab ⟨rfl, hd⟩; have HM1 := Aside0.mk (HM.out.of (hd.block g HM.out.lt)); have HB1 := Aside0.mk (HB.out.trans (hd.mono HB.out.size)); clear HM HB; have HM := HM1; have HB := HB1; clear HM1 HB1 hd) | (go_at_call 89; refine (utf16_IsSurrogate.calls x _ _ (sur_some x)).mono ?_; rintro e w4qab ⟨rfl, hd⟩; have HM1 := Aside0.mk (HM.out.of (hd.below.block g HM.out.lt)); have HB1 := Aside0.mk (HB.out.trans (hd.below.mono HB.out.size)); clear HM HB; have HM := HM1; have HB := HB1; clear HM1 HB1 hd) | (go_at_call 88; with_reducible refine (u4_bad HVV.out HZS.out _ te6 te7 pe6 pe7 (glob HB.out HV6.out) (glob HB.out HV7.out)).mono ?_; rintro e w5qab ⟨m5, et5, ep5, rfl, hd⟩; have HM1 := Aside0.mk (HM.out.of (hd.block g HM.out.lt)); have HB1 := Aside0.mk (HB.out.trans (hd.mono HB.out.size)); clear HM HB; have HM := HM1; have HB := HB1; clear HM1 HB1 hd; clear b0 b1 kb0 kb1) | ((with_reducible refine gate_builtin (b := .append) (xs := #[_, _]) rfl ?_); at_builtin; refine MB_str ?hgd_qab ?os_qab ?ox_qab 47 9 5 ?ho_qab Tryd.underlying47 Tryd.underlying9 inf_u8 g cap out (⟨#[92, 117]⟩ : ByteArray) ?hs_qab ?hx_qab HM.out (room_b HR.out (by decide)) ?_; (case hgd_qab => rfl); (case ho_qab => rfl); (case hs_qab => rfl); (case hx_qab => rfl); intro W_qab hm hgr; obtain ⟨qab, hz⟩ : ∃ z, z = out ++ bytesOf (⟨#[92, 117]⟩ : ByteArray) := ⟨_, rfl⟩; rw [← hz] at hm ⊢; have HZqab := Aside0.mk hz; have HB1 := Aside0.mk (HB.out.grown hgr HB.out.size (fun r e => by obtain rfl := Option.some.inj e; exact HG.out)); clear hz HM HB; have HM := Aside0.mk hm; have HB := HB1; clear hm hgr HB1) | ((with_reducible refine gate_builtin (b := .append) (xs := #[_, _]) rfl ?_); at_builtin; refine MB_str ?hgd_qbb ?os_qbb ?ox_qbb 47 9 5 ?ho_qbb Tryd.underlying47 Tryd.underlying9 inf_u8 g cap qab x4 ?hs_qbb ?hx_qbb HM.out (room_x HZqab.out HXS.out HR.out) ?_; (case hgd_qbb => rfl); (case ho_qbb => rfl); (case hs_qbb => rfl); (case hx_qbb => rfl); intro W_qbb hm hgr; obtain ⟨qbb, hz⟩ : ∃ z, z = qab ++ bytesOf x4 := ⟨_, rfl⟩; rw [← hz] at hm ⊢; have HZqbb := Aside0.mk hz; have HB1 := Aside0.mk (HB.out.grown hgr HB.out.size (fun r e => by obtain rfl := Option.some.inj e; exact HG.out)); clear hz HM HB; have HM := Aside0.mk hm; have HB := HB1; clear hm hgr HB1) | (go_at_call 87; refine (strings_IndexByte.calls r4 92 _ _ HI.out).mono ?_; rintro e w7 ⟨rfl, hd⟩; have HM1 := Aside0.mk (HM.out.of (hd.below.block g HM.out.lt)); have HB1 := Aside0.mk (HB.out.trans (hd.below.mono HB.out.size)); clear HM HB; have HM := HM1; have HB := HB1; clear HM1 HB1 hd; (try clear hwx); (try clear hwy); (try clear b0); (try clear b1)) | ((with_reducible refine gate_builtin (b := .append) (xs := #[_, _]) rfl ?_); at_builtin; refine MB_str ?hgd_m7y ?os_m7y ?ox_m7y 47 9 5 ?ho_m7y Tryd.underlying47 Tryd.underlying9 inf_u8 g cap qbb (r4.extract 0 m) ?hs_m7y ?hx_m7y HM.out (room_p (len_x HZqab.out HZqbb.out HXS.out) HR.out HM0.out) ?_; (case hgd_m7y => rfl); (case ho_m7y => rfl); (case hs_m7y => rfl); (case hx_m7y => rfl); intro W_m7y hm hgr; obtain ⟨m7y, hz⟩ : ∃ z, z = qbb ++ bytesOf (r4.extract 0 m) := ⟨_, rfl⟩; rw [← hz] at hm ⊢; have HZm7y := Aside0.mk hz; have HB1 := Aside0.mk (HB.out.grown hgr HB.out.size (fun r e => by obtain rfl := Option.some.inj e; exact HG.out)); clear hz HM HB; have HM := Aside0.mk hm; have HB := HB1; clear hm hgr HB1))
      go_roundg j
      case measure => exact Nat.lt_succ_self _
      case rel =>
       refine ⟨r4.extract (m + 1) r4.size, m7y, rfl, rfl, ⟨⟨HM.out, HB.out, room_u HZm7y.out (len_x HZqab.out HZqbb.out HXS.out) HR.out HM0.out, sz_suf HS1.out, ?_⟩⟩⟩
       rw [HZm7y.out, HZqbb.out, HZqab.out]; exact HGO.out
   | some y =>
    rw [hv] at hgo
    simp only at hgo
    have hwy := i32_id (u4_range hv).1 (u4_range hv).2
    have HVV := Aside0.mk hv
    have HR2 := HR
    clear hv HR
    have HR := Aside0.mk (room_8 HR2.out HRY.out)
    have HS2 := HS1
    clear HS1
    have HS1 := Aside0.mk (Nat.le_trans HRY.out HS2.out)
    clear HS2 HR2
    as_aux_lemma =>
     cases hix : ix 92 (bytesOf r6) with
     | none =>
      rw [hix] at hgo
      obtain rfl := Option.some.inj hgo
      have HI := Aside0.mk (index_ix r6 92 (by decide) (by decide))
      rw [hix, show toI (none : Option Nat) = -1 from rfl] at HI
      clear hgo hix
      go_wp2_with (first | (go_at_call 88; with_reducible refine (u4_ok HUU.out HXS.out _).mono ?_; rintro e w5qca ⟨rfl, hd⟩; have HM1 := Aside0.mk (HM.out.of (hd.block g HM.out.lt)); have HB1 := Aside0.mk (HB.out.trans (hd.mono HB.out.size)); clear HM HB; have HM := HM1; have HB := HB1; clear HM1 HB1 hd) | (go_at_call 88; with_reducible refine (u4_ok HVV.out HZS.out _).mono ?_; rintro e w5qda ⟨rfl, hd⟩; have HM1 := Aside0.mk (HM.out.of (hd.block g HM.out.lt)); have HB1 := Aside0.mk (HB.out.trans (hd.mono HB.out.size)); clear HM HB; have HM := HM1; have HB := HB1; clear HM1 HB1 hd; clear b0 b1 kb0 kb1) | (go_at_call 89; refine (utf16_IsSurrogate.calls x _ _ (sur_some x)).mono ?_; rintro e w4qca ⟨rfl, hd⟩; have HM1 := Aside0.mk (HM.out.of (hd.below.block g HM.out.lt)); have HB1 := Aside0.mk (HB.out.trans (hd.below.mono HB.out.size)); clear HM HB; have HM := HM1; have HB := HB1; clear HM1 HB1 hd) | (go_at_call 90; refine (utf16_DecodeRune.calls x y _ _ (dr_some x y)).mono ?_; rintro e w4qda ⟨rfl, hd⟩; have HM1 := Aside0.mk (HM.out.of (hd.below.block g HM.out.lt)); have HB1 := Aside0.mk (HB.out.trans (hd.below.mono HB.out.size)); clear HM HB; have HM := HM1; have HB := HB1; clear HM1 HB1 hd) | ((with_reducible refine gate_builtin (b := .append) (xs := #[_, _]) rfl ?_); at_builtin; refine MB_str ?hgd_qca ?os_qca ?ox_qca 47 9 5 ?ho_qca Tryd.underlying47 Tryd.underlying9 inf_u8 g cap out (Utf8.encode (dr x y)) ?hs_qca ?hx_qca HM.out (room_b HR.out (encode_size _)) ?_; (case hgd_qca => rfl); (case ho_qca => rfl); (case hs_qca => rfl); (case hx_qca => rfl); intro W_qca hm hgr; obtain ⟨qca, hz⟩ : ∃ z, z = out ++ bytesOf (Utf8.encode (dr x y)) := ⟨_, rfl⟩; rw [← hz] at hm ⊢; have HZqca := Aside0.mk hz; have HB1 := Aside0.mk (HB.out.grown hgr HB.out.size (fun r e => by obtain rfl := Option.some.inj e; exact HG.out)); clear hz HM HB; have HM := Aside0.mk hm; have HB := HB1; clear hm hgr HB1) | (go_at_call 87; refine (strings_IndexByte.calls r6 92 _ _ HI.out).mono ?_; rintro e w7 ⟨rfl, hd⟩; have HM1 := Aside0.mk (HM.out.of (hd.below.block g HM.out.lt)); have HB1 := Aside0.mk (HB.out.trans (hd.below.mono HB.out.size)); clear HM HB; have HM := HM1; have HB := HB1; clear HM1 HB1 hd; (try clear hwx); (try clear hwy); (try clear b0); (try clear b1)) | ((with_reducible refine gate_builtin (b := .append) (xs := #[_, _]) rfl ?_); at_builtin; refine MB_str ?hgd_m8z ?os_m8z ?ox_m8z 47 9 5 ?ho_m8z Tryd.underlying47 Tryd.underlying9 inf_u8 g cap qca r6 ?hs_m8z ?hx_m8z HM.out (room_t (len_s HZqca.out (encode_size _)) HR.out) ?_; (case hgd_m8z => rfl); (case ho_m8z => rfl); (case hs_m8z => rfl); (case hx_m8z => rfl); intro W_m8z hm hgr; obtain ⟨m8z, hz⟩ : ∃ z, z = qca ++ bytesOf r6 := ⟨_, rfl⟩; rw [← hz] at hm ⊢; have HZm8z := Aside0.mk hz; have HB1 := Aside0.mk (HB.out.grown hgr HB.out.size (fun r e => by obtain rfl := Option.some.inj e; exact HG.out)); clear hz HM HB; have HM := Aside0.mk hm; have HB := HB1; clear hm hgr HB1) | (go_at_call 50; refine (b2s_mb HM.out).mono ?_; rintro e w9m8 ⟨rfl, rfl⟩))
      go_ret
      refine ⟨?_, HB.out⟩
      rw [HZm8z.out, HZqca.out]
      rfl
     | some m =>
      rw [hix] at hgo
      have hI := index_ix r6 92 (by decide) (by decide)
      rw [hix, show toI (some m) = (m : Int) from rfl] at hI
      have hm := (ix_some hix).1
      rw [bytesOf_length] at hm
      have HI := Aside0.mk hI
      have HGO := Aside0.mk hgo
      have hmd := nat_neg m
      have hmw := wrap_m hm HS1.out
      have hmh := cutH r6 (m : Int) m rfl (Nat.le_of_lt hm)
      have hmr := cutR r6 ((m + 1 : Nat) : Int) (m + 1) rfl hm
      have HM0 := Aside0.mk hm
      clear hgo hix hI
      go_wp2_with (first | (go_at_call 88; with_reducible refine (u4_ok HUU.out HXS.out _).mono ?_; rintro e w5qcb ⟨rfl, hd⟩; have HM1 := Aside0.mk (HM.out.of (hd.block g HM.out.lt)); have HB1 := Aside0.mk (HB.out.trans (hd.mono HB.out.size)); clear HM HB; have HM := HM1; have HB := HB1; clear HM1 HB1 hd) | (go_at_call 88; with_reducible refine (u4_ok HVV.out HZS.out _).mono ?_; rintro e w5qdb ⟨rfl, hd⟩; have HM1 := Aside0.mk (HM.out.of (hd.block g HM.out.lt)); have HB1 := Aside0.mk (HB.out.trans (hd.mono HB.out.size)); clear HM HB; have HM := HM1; have HB := HB1; clear HM1 HB1 hd; clear b0 b1 kb0 kb1) | (go_at_call 89; refine (utf16_IsSurrogate.calls x _ _ (sur_some x)).mono ?_; rintro e w4qcb ⟨rfl, hd⟩; have HM1 := Aside0.mk (HM.out.of (hd.below.block g HM.out.lt)); have HB1 := Aside0.mk (HB.out.trans (hd.below.mono HB.out.size)); clear HM HB; have HM := HM1; have HB := HB1; clear HM1 HB1 hd) | (go_at_call 90; refine (utf16_DecodeRune.calls x y _ _ (dr_some x y)).mono ?_; rintro e w4qdb ⟨rfl, hd⟩; have HM1 := Aside0.mk (HM.out.of (hd.below.block g HM.out.lt)); have HB1 := Aside0.mk (HB.out.trans (hd.below.mono HB.out.size)); clear HM HB; have HM := HM1; have HB := HB1; clear HM1 HB1 hd) | ((with_reducible refine gate_builtin (b := .append) (xs := #[_, _]) rfl ?_); at_builtin; refine MB_str ?hgd_qcb ?os_qcb ?ox_qcb 47 9 5 ?ho_qcb Tryd.underlying47 Tryd.underlying9 inf_u8 g cap out (Utf8.encode (dr x y)) ?hs_qcb ?hx_qcb HM.out (room_b HR.out (encode_size _)) ?_; (case hgd_qcb => rfl); (case ho_qcb => rfl); (case hs_qcb => rfl); (case hx_qcb => rfl); intro W_qcb hm hgr; obtain ⟨qcb, hz⟩ : ∃ z, z = out ++ bytesOf (Utf8.encode (dr x y)) := ⟨_, rfl⟩; rw [← hz] at hm ⊢; have HZqcb := Aside0.mk hz; have HB1 := Aside0.mk (HB.out.grown hgr HB.out.size (fun r e => by obtain rfl := Option.some.inj e; exact HG.out)); clear hz HM HB; have HM := Aside0.mk hm; have HB := HB1; clear hm hgr HB1) | (go_at_call 87; refine (strings_IndexByte.calls r6 92 _ _ HI.out).mono ?_; rintro e w7 ⟨rfl, hd⟩; have HM1 := Aside0.mk (HM.out.of (hd.below.block g HM.out.lt)); have HB1 := Aside0.mk (HB.out.trans (hd.below.mono HB.out.size)); clear HM HB; have HM := HM1; have HB := HB1; clear HM1 HB1 hd; (try clear hwx); (try clear hwy); (try clear b0); (try clear b1)) | ((with_reducible refine gate_builtin (b := .append) (xs := #[_, _]) rfl ?_); at_builtin; refine MB_str ?hgd_m8y ?os_m8y ?ox_m8y 47 9 5 ?ho_m8y Tryd.underlying47 Tryd.underlying9 inf_u8 g cap qcb (r6.extract 0 m) ?hs_m8y ?hx_m8y HM.out (room_p (len_s HZqcb.out (encode_size _)) HR.out HM0.out) ?_; (case hgd_m8y => rfl); (case ho_m8y => rfl); (case hs_m8y => rfl); (case hx_m8y => rfl); intro W_m8y hm hgr; obtain ⟨m8y, hz⟩ : ∃ z, z = qcb ++ bytesOf (r6.extract 0 m) := ⟨_, rfl⟩; rw [← hz] at hm ⊢; have HZm8y := Aside0.mk hz; have HB1 := Aside0.mk (HB.out.grown hgr HB.out.size (fun r e => by obtain rfl := Option.some.inj e; exact HG.out)); clear hz HM HB; have HM := Aside0.mk hm; have HB := HB1; clear hm hgr HB1))
      go_roundg j
      case measure => exact Nat.lt_succ_self _
      case rel =>
       refine ⟨r6.extract (m + 1) r6.size, m8y, rfl, rfl, ⟨⟨HM.out, HB.out, room_u HZm8y.out (len_s HZqcb.out (encode_size _)) HR.out HM0.out, sz_suf HS1.out, ?_⟩⟩⟩
       rw [HZm8y.out, HZqcb.out]; exact HGO.out
  -- END ways
end FJ
end Go.Proofs.YtnajijaachgipaaDoor.PT
end
section
namespace Go.Proofs.YtnajijaachgipaaDoor.PT
open Go.RowKit Go.Proofs.YtnajijaachgipaaDoorW.PrintWords Go.Proofs.YtnajijaachgipaaDoorW.PrintLast Go.Proofs.YtnajijaachgipaaDoorW.PrintMore
attribute [local go_sem] max2_int min2_int max_two min_two max_three min_three max_four min_four   -- for this text's walks alone
set_option linter.unusedVariables false
set_option linter.unusedSimpArgs false
/-! ### fastjson_skipWSSlow: function 69 -/
mutual
def fastjson_skipWSSlow.j0 : Nat → ByteArray → Bool → Option (ByteArray)
 | 0, _, _ => none
 | k + 1, x0, x26 => if x26 = true then (some x0) else (fastjson_skipWSSlow.l0 k x0 1)
def fastjson_skipWSSlow.l0 : Nat → ByteArray → Int → Option (ByteArray)
 | 0, _, _ => none
 | k + 1, x0, x3 => if x3 < (x0.size : Int) then (if 0 ≤ x3 then (if (bt x0 x3) = 32 then (fastjson_skipWSSlow.l0 k x0 (wrap64 (x3 + 1))) else (if (bt x0 x3) = 10 then (fastjson_skipWSSlow.l0 k x0 (wrap64 (x3 + 1))) else (if (bt x0 x3) = 9 then (fastjson_skipWSSlow.l0 k x0 (wrap64 (x3 + 1))) else (if (bt x0 x3) = 13 then (fastjson_skipWSSlow.l0 k x0 (wrap64 (x3 + 1))) else (if x3 ≤ (x0.size : Int) then (some (x0.extract (x3 : Int).toNat x0.size)) else (none)))))) else (none)) else (some (⟨#[]⟩ : ByteArray))
end
def fastjson_skipWSSlow.f (k : Nat) (a0 : ByteArray) : Option (ByteArray) := if (a0.size : Int) = 0 then (fastjson_skipWSSlow.j0 k a0 true) else (if 0 < (a0.size : Int) then (if (bt a0 0) = 32 then (fastjson_skipWSSlow.j0 k a0 false) else (if (bt a0 0) = 10 then (fastjson_skipWSSlow.j0 k a0 false) else (if (bt a0 0) = 9 then (fastjson_skipWSSlow.j0 k a0 false) else (fastjson_skipWSSlow.j0 k a0 ((bt a0 0) != 13))))) else (none))
theorem fastjson_skipWSSlow.mono_l : ∀ k, (∀ y0 y1, LeO (fastjson_skipWSSlow.j0 k y0 y1) (fastjson_skipWSSlow.j0 (k + 1) y0 y1)) ∧ (∀ y0 y1, LeO (fastjson_skipWSSlow.l0 k y0 y1) (fastjson_skipWSSlow.l0 (k + 1) y0 y1))
 | 0 => ⟨fun _ _ r h => by simp [fastjson_skipWSSlow.j0] at h, fun _ _ r h => by simp [fastjson_skipWSSlow.l0] at h⟩
 | k + 1 => by
  obtain ⟨ih0, ih1⟩ := fastjson_skipWSSlow.mono_l k
  refine ⟨?_, ?_⟩
  ·intro y0 y1
   unfold fastjson_skipWSSlow.j0
   repeat' first
   | (with_reducible exact ih0 _ _)
   | (with_reducible exact ih1 _ _)
   | (with_reducible exact LeO.refl _)
   | (with_reducible exact LeO.none _)
   | (with_reducible refine LeO.ite ?_ ?_)
   | (with_reducible refine LeO.bind ?_ (fun _ => ?_))
   | exact ih0 _ _
   | exact ih1 _ _
   | exact LeO.none _
   | refine LeO.ite ?_ ?_
   | refine LeO.bind ?_ (fun _ => ?_)
  intro y0 y1
  unfold fastjson_skipWSSlow.l0
  repeat' first
  | (with_reducible exact ih0 _ _)
  | (with_reducible exact ih1 _ _)
  | (with_reducible exact LeO.refl _)
  | (with_reducible exact LeO.none _)
  | (with_reducible refine LeO.ite ?_ ?_)
  | (with_reducible refine LeO.bind ?_ (fun _ => ?_))
  | exact ih0 _ _
  | exact ih1 _ _
  | exact LeO.none _
  | refine LeO.ite ?_ ?_
  | refine LeO.bind ?_ (fun _ => ?_)
theorem fastjson_skipWSSlow.mono : ∀ a0 k, LeO (fastjson_skipWSSlow.f k a0) (fastjson_skipWSSlow.f (k + 1) a0) := by
 intro a0 k
 obtain ⟨ih0, ih1⟩ := fastjson_skipWSSlow.mono_l k
 unfold fastjson_skipWSSlow.f
 repeat' first
   | (with_reducible exact ih0 _ _)
   | (with_reducible exact ih1 _ _)
   | (with_reducible exact LeO.refl _)
   | (with_reducible exact LeO.none _)
   | (with_reducible refine LeO.ite ?_ ?_)
   | (with_reducible refine LeO.bind ?_ (fun _ => ?_))
   | exact ih0 _ _
   | exact ih1 _ _
   | exact LeO.none _
   | refine LeO.ite ?_ ?_
   | refine LeO.bind ?_ (fun _ => ?_)
set_option maxHeartbeats 8000000 in
set_option maxRecDepth 100000 in
theorem fastjson_skipWSSlow.calls (k : Nat) (a0 : ByteArray) (r : ByteArray) (w : World) (h : fastjson_skipWSSlow.f k a0 = some r) :
  Calls Tryd.prog 69 #[.string a0] w fun e w' => e = .returned (.string r) ∧ Drawn0 w w' := by
 have H : (if (a0.size : Int) = 0 then (fastjson_skipWSSlow.j0 k a0 true) else (if 0 < (a0.size : Int) then (if (bt a0 0) = 32 then (fastjson_skipWSSlow.j0 k a0 false) else (if (bt a0 0) = 10 then (fastjson_skipWSSlow.j0 k a0 false) else (if (bt a0 0) = 9 then (fastjson_skipWSSlow.j0 k a0 false) else (fastjson_skipWSSlow.j0 k a0 ((bt a0 0) != 13))))) else (none))) = some r := h
 clear h
 have HC2 := Aside0.mk H
 clear H
 go_enter Tryd.func69, Tryd.ntmps69
 go_upto_region 1 with (fail)
 go_cut [26] (fun v26 wc => ∃ (kq : Nat) (x26_1 : Bool), v26 = .bool x26_1 ∧ Aside0 (fastjson_skipWSSlow.j0 kq a0 x26_1 = some r) ∧ Aside0 (kq ≤ k) ∧ Drawn0 w wc)
 case first =>
  have H := HC2.out
  clear HC2
  by_cases c3 : (a0.size : Int) = 0
  ·rw [if_pos c3] at H
   have c3b0 : ((a0.size : Int) == 0) = true := beq_iff_eq.mpr c3
   have c3b1 : ((a0.size : Int) != 0) = false := bne_eq_false_iff_eq.mpr c3
   clear c3
   (first | rw [c3b0] | (simp only [i64_w, i32_w]; rw [c3b0]) | rw [c3b1] | skip)
   have H' := Aside0.mk H
   clear H
   go_wp2
   go_meet
   case rel => exact ⟨_, (true), (by first | rfl | (simp; done) | (simp [*]; done)), H', ⟨by first | omega | exact Nat.le_refl _⟩, by repeat (first | exact Drawn0.refl _ | apply Drawn0.step)⟩
  rw [if_neg c3] at H
  have c3b0 : ((a0.size : Int) == 0) = false := beq_eq_false_iff_ne.mpr c3
  have c3b1 : ((a0.size : Int) != 0) = true := bne_iff_ne.mpr c3
  (first | rw [c3b0] | (simp only [i64_w, i32_w]; rw [c3b0]) | rw [c3b1] | skip)
  by_cases c4 : 0 < (a0.size : Int)
  ·rw [if_pos c4] at H
   have c4b0 : decide (0 < (a0.size : Int)) = true := decide_eq_true c4
   have c4b1 : decide (0 < a0.size) = true := decide_eq_true (by omega)
   clear c4
   by_cases c6 : (bt a0 0) = 32
   ·rw [if_pos c6] at H
    have c6b0 : ((bt a0 0) == 32) = true := beq_iff_eq.mpr c6
    have c6b1 : ((bt a0 0) != 32) = false := bne_eq_false_iff_eq.mpr c6
    clear c6
    have H' := Aside0.mk H
    clear H
    have p5 : 0 ≤ (0 : Int) := (by omega)
    have q5 : 0 < a0.size := (by have : (0 : Int) < (a0.size : Int) := of_decide_eq_true (by assumption); omega)
    have hx5 : ∀ h : 0 < a0.size, ((a0[0]'h).toNat : Int) = bt a0 0 := bt_at a0 0
    clear p5
    have qi5 : (0 < (a0.size : Int)) = True := eq_true (of_decide_eq_true (by assumption))
    replace q5 := eq_true q5
    go_wp2
    go_meet
    case rel => exact ⟨_, (false), (by first | rfl | (simp; done) | (simp [*]; done)), H', ⟨by first | omega | exact Nat.le_refl _⟩, by repeat (first | exact Drawn0.refl _ | apply Drawn0.step)⟩
   rw [if_neg c6] at H
   have c6b0 : ((bt a0 0) == 32) = false := beq_eq_false_iff_ne.mpr c6
   have c6b1 : ((bt a0 0) != 32) = true := bne_iff_ne.mpr c6
   by_cases c8 : (bt a0 0) = 10
   ·rw [if_pos c8] at H
    have c8b0 : ((bt a0 0) == 10) = true := beq_iff_eq.mpr c8
    have c8b1 : ((bt a0 0) != 10) = false := bne_eq_false_iff_eq.mpr c8
    clear c8
    have H' := Aside0.mk H
    clear H
    have p5 : 0 ≤ (0 : Int) := (by omega)
    have q5 : 0 < a0.size := (by have : (0 : Int) < (a0.size : Int) := of_decide_eq_true (by assumption); omega)
    have hx5 : ∀ h : 0 < a0.size, ((a0[0]'h).toNat : Int) = bt a0 0 := bt_at a0 0
    clear p5
    have qi5 : (0 < (a0.size : Int)) = True := eq_true (of_decide_eq_true (by assumption))
    replace q5 := eq_true q5
    have p7 : 0 ≤ (0 : Int) := (by omega)
    have q7 : 0 < a0.size := (by have : (0 : Int) < (a0.size : Int) := of_decide_eq_true (by assumption); omega)
    have hx7 : ∀ h : 0 < a0.size, ((a0[0]'h).toNat : Int) = bt a0 0 := bt_at a0 0
    clear p7
    have qi7 : (0 < (a0.size : Int)) = True := eq_true (of_decide_eq_true (by assumption))
    replace q7 := eq_true q7
    go_wp2
    go_meet
    case rel => exact ⟨_, (false), (by first | rfl | (simp; done) | (simp [*]; done)), H', ⟨by first | omega | exact Nat.le_refl _⟩, by repeat (first | exact Drawn0.refl _ | apply Drawn0.step)⟩
   rw [if_neg c8] at H
   have c8b0 : ((bt a0 0) == 10) = false := beq_eq_false_iff_ne.mpr c8
   have c8b1 : ((bt a0 0) != 10) = true := bne_iff_ne.mpr c8
   by_cases c10 : (bt a0 0) = 9
   ·rw [if_pos c10] at H
    have c10b0 : ((bt a0 0) == 9) = true := beq_iff_eq.mpr c10
    have c10b1 : ((bt a0 0) != 9) = false := bne_eq_false_iff_eq.mpr c10
    clear c10
    have H' := Aside0.mk H
    clear H
    have p5 : 0 ≤ (0 : Int) := (by omega)
    have q5 : 0 < a0.size := (by have : (0 : Int) < (a0.size : Int) := of_decide_eq_true (by assumption); omega)
    have hx5 : ∀ h : 0 < a0.size, ((a0[0]'h).toNat : Int) = bt a0 0 := bt_at a0 0
    clear p5
    have qi5 : (0 < (a0.size : Int)) = True := eq_true (of_decide_eq_true (by assumption))
    replace q5 := eq_true q5
    have p7 : 0 ≤ (0 : Int) := (by omega)
    have q7 : 0 < a0.size := (by have : (0 : Int) < (a0.size : Int) := of_decide_eq_true (by assumption); omega)
    have hx7 : ∀ h : 0 < a0.size, ((a0[0]'h).toNat : Int) = bt a0 0 := bt_at a0 0
    clear p7
    have qi7 : (0 < (a0.size : Int)) = True := eq_true (of_decide_eq_true (by assumption))
    replace q7 := eq_true q7
    have p9 : 0 ≤ (0 : Int) := (by omega)
    have q9 : 0 < a0.size := (by have : (0 : Int) < (a0.size : Int) := of_decide_eq_true (by assumption); omega)
    have hx9 : ∀ h : 0 < a0.size, ((a0[0]'h).toNat : Int) = bt a0 0 := bt_at a0 0
    clear p9
    have qi9 : (0 < (a0.size : Int)) = True := eq_true (of_decide_eq_true (by assumption))
    replace q9 := eq_true q9
    go_wp2
    go_meet
    case rel => exact ⟨_, (false), (by first | rfl | (simp; done) | (simp [*]; done)), H', ⟨by first | omega | exact Nat.le_refl _⟩, by repeat (first | exact Drawn0.refl _ | apply Drawn0.step)⟩
   rw [if_neg c10] at H
   have c10b0 : ((bt a0 0) == 9) = false := beq_eq_false_iff_ne.mpr c10
   have c10b1 : ((bt a0 0) != 9) = true := bne_iff_ne.mpr c10
   have H' := Aside0.mk H
   clear H
   have p5 : 0 ≤ (0 : Int) := (by omega)
   have q5 : 0 < a0.size := (by have : (0 : Int) < (a0.size : Int) := of_decide_eq_true (by assumption); omega)
   have hx5 : ∀ h : 0 < a0.size, ((a0[0]'h).toNat : Int) = bt a0 0 := bt_at a0 0
   clear p5
   have qi5 : (0 < (a0.size : Int)) = True := eq_true (of_decide_eq_true (by assumption))
   replace q5 := eq_true q5
   have p7 : 0 ≤ (0 : Int) := (by omega)
   have q7 : 0 < a0.size := (by have : (0 : Int) < (a0.size : Int) := of_decide_eq_true (by assumption); omega)
   have hx7 : ∀ h : 0 < a0.size, ((a0[0]'h).toNat : Int) = bt a0 0 := bt_at a0 0
   clear p7
   have qi7 : (0 < (a0.size : Int)) = True := eq_true (of_decide_eq_true (by assumption))
   replace q7 := eq_true q7
   have p9 : 0 ≤ (0 : Int) := (by omega)
   have q9 : 0 < a0.size := (by have : (0 : Int) < (a0.size : Int) := of_decide_eq_true (by assumption); omega)
   have hx9 : ∀ h : 0 < a0.size, ((a0[0]'h).toNat : Int) = bt a0 0 := bt_at a0 0
   clear p9
   have qi9 : (0 < (a0.size : Int)) = True := eq_true (of_decide_eq_true (by assumption))
   replace q9 := eq_true q9
   have p11 : 0 ≤ (0 : Int) := (by omega)
   have q11 : 0 < a0.size := (by have : (0 : Int) < (a0.size : Int) := of_decide_eq_true (by assumption); omega)
   have hx11 : ∀ h : 0 < a0.size, ((a0[0]'h).toNat : Int) = bt a0 0 := bt_at a0 0
   clear p11
   have qi11 : (0 < (a0.size : Int)) = True := eq_true (of_decide_eq_true (by assumption))
   replace q11 := eq_true q11
   go_wp2
   go_meet
   case rel => exact ⟨_, (((bt a0 0) != 13)), (by first | rfl | (simp; done) | (simp [*]; done)), H', ⟨by first | omega | exact Nat.le_refl _⟩, by repeat (first | exact Drawn0.refl _ | apply Drawn0.step)⟩
  rw [if_neg c4] at H
  exact absurd H (by simp)
 case rest =>
  clear HC2
  try clear c1
  try clear p1
  try clear q1
  try clear hx1
  try clear qi1
  try clear p2
  try clear c3
  try clear c3b0
  try clear c3b1
  try clear c4
  try clear c4b0
  try clear c4b1
  try clear p5
  try clear q5
  try clear hx5
  try clear qi5
  try clear c6
  try clear c6b0
  try clear c6b1
  try clear p7
  try clear q7
  try clear hx7
  try clear qi7
  try clear c8
  try clear c8b0
  try clear c8b1
  try clear p9
  try clear q9
  try clear hx9
  try clear qi9
  try clear c10
  try clear c10b0
  try clear c10b1
  try clear p11
  try clear q11
  try clear hx11
  try clear qi11
  try clear p11
  try clear p5
  try clear p7
  try clear p9
  try clear q11
  try clear q5
  try clear q7
  try clear q9
  obtain ⟨kq, x26_1, rfl, HA, HJ1, ⟨mc1, rfl⟩⟩ := hcut
  cases kq with
  | zero => exact absurd HA.out (by simp [fastjson_skipWSSlow.j0])
  | succ kj1 =>
   have H := HA.out
   clear HA
   simp only [fastjson_skipWSSlow.j0] at H
   by_cases c12 : x26_1 = true
   ·subst c12
    have H1 : (some a0) = some r := by rw [if_pos rfl] at H; exact H
    clear H
    have H := H1
    clear H1
    obtain rfl := Option.some.inj H
    go_wp2
    go_ret
    exact ⟨by first | rfl | (simp; done) | (simp [*]; done), by repeat (first | exact Drawn0.refl _ | apply Drawn0.step)⟩
   replace c12 := Bool.eq_false_iff.mpr c12
   subst c12
   have H1 : (fastjson_skipWSSlow.l0 kj1 a0 1) = some r := by rw [if_neg (show ¬ (false = true) by decide)] at H; exact H
   clear H
   have H := H1
   clear H1
   have H' := Aside0.mk H
   clear H
   go_wp2
   try simp only [Act.put, List.setIfInBounds_toArray, List.set_cons_succ, List.set_cons_zero]
   go_loopg [3] kj1 (fun kq v3 w' => ∃ (x3_2 : Int), v3 = .int .i64 x3_2 ∧ Aside0 (fastjson_skipWSSlow.l0 kq a0 x3_2 = some r) ∧ Aside0 (kq ≤ kj1) ∧ Drawn0 w w')
   case atStart => exact ⟨(1), (by first | rfl | (simp; done) | (simp [*]; done)), H', ⟨Nat.le_refl _⟩, by repeat (first | exact Drawn0.refl _ | apply Drawn0.step)⟩
   case round =>
    clear H'
    try clear c1
    try clear p1
    try clear q1
    try clear hx1
    try clear qi1
    try clear p2
    try clear c3
    try clear c3b0
    try clear c3b1
    try clear c4
    try clear c4b0
    try clear c4b1
    try clear p5
    try clear q5
    try clear hx5
    try clear qi5
    try clear c6
    try clear c6b0
    try clear c6b1
    try clear p7
    try clear q7
    try clear hx7
    try clear qi7
    try clear c8
    try clear c8b0
    try clear c8b1
    try clear p9
    try clear q9
    try clear hx9
    try clear qi9
    try clear c10
    try clear c10b0
    try clear c10b1
    try clear p11
    try clear q11
    try clear hx11
    try clear qi11
    try clear c12
    try clear p1
    try clear p11
    try clear p2
    try clear p5
    try clear p7
    try clear p9
    try clear q1
    try clear q11
    try clear q5
    try clear q7
    try clear q9
    obtain ⟨x3_2, rfl, HA, HK2, ⟨m2, rfl⟩⟩ := hrel
    cases gk with
    | zero => exact absurd HA.out (by simp [fastjson_skipWSSlow.l0])
    | succ k2 =>
     have H := HA.out
     clear HA
     simp only [fastjson_skipWSSlow.l0] at H
     by_cases c13 : x3_2 < (a0.size : Int)
     ·rw [if_pos c13] at H
      have c13b0 : decide (x3_2 < (a0.size : Int)) = true := decide_eq_true c13
      clear c13
      by_cases c14 : 0 ≤ x3_2
      ·rw [if_pos c14] at H
       have c14b0 : decide (0 ≤ x3_2) = true := decide_eq_true c14
       clear c14
       by_cases c16 : (bt a0 x3_2) = 32
       ·rw [if_pos c16] at H
        have c16b0 : ((bt a0 x3_2) == 32) = true := beq_iff_eq.mpr c16
        have c16b1 : ((bt a0 x3_2) != 32) = false := bne_eq_false_iff_eq.mpr c16
        clear c16
        have H' := Aside0.mk H
        clear H
        have p15 : 0 ≤ (x3_2 : Int) := of_decide_eq_true (by assumption)
        have q15 : x3_2 < (a0.size : Int) := of_decide_eq_true (by assumption)
        have hx15 := bt_at a0 x3_2
        replace p15 := eq_true p15
        replace q15 := eq_true q15
        go_wp2
        go_roundg k2
        case measure => have := HJ1.out; have := HK2.out; omega
        case rel => exact ⟨(wrap64 (x3_2 + 1)), (by first | rfl | (simp; done) | (simp [*]; done)), H', ⟨by have := HJ1.out; have := HK2.out; omega⟩, by repeat (first | exact Drawn0.refl _ | apply Drawn0.step)⟩
       rw [if_neg c16] at H
       have c16b0 : ((bt a0 x3_2) == 32) = false := beq_eq_false_iff_ne.mpr c16
       have c16b1 : ((bt a0 x3_2) != 32) = true := bne_iff_ne.mpr c16
       by_cases c18 : (bt a0 x3_2) = 10
       ·rw [if_pos c18] at H
        have c18b0 : ((bt a0 x3_2) == 10) = true := beq_iff_eq.mpr c18
        have c18b1 : ((bt a0 x3_2) != 10) = false := bne_eq_false_iff_eq.mpr c18
        clear c18
        have H' := Aside0.mk H
        clear H
        have p15 : 0 ≤ (x3_2 : Int) := of_decide_eq_true (by assumption)
        have q15 : x3_2 < (a0.size : Int) := of_decide_eq_true (by assumption)
        have hx15 := bt_at a0 x3_2
        replace p15 := eq_true p15
        replace q15 := eq_true q15
        have p17 : 0 ≤ (x3_2 : Int) := of_decide_eq_true (by assumption)
        have q17 : x3_2 < (a0.size : Int) := of_decide_eq_true (by assumption)
        have hx17 := bt_at a0 x3_2
        replace p17 := eq_true p17
        replace q17 := eq_true q17
        go_wp2
        go_roundg k2
        case measure => have := HJ1.out; have := HK2.out; omega
        case rel => exact ⟨(wrap64 (x3_2 + 1)), (by first | rfl | (simp; done) | (simp [*]; done)), H', ⟨by have := HJ1.out; have := HK2.out; omega⟩, by repeat (first | exact Drawn0.refl _ | apply Drawn0.step)⟩
       rw [if_neg c18] at H
       have c18b0 : ((bt a0 x3_2) == 10) = false := beq_eq_false_iff_ne.mpr c18
       have c18b1 : ((bt a0 x3_2) != 10) = true := bne_iff_ne.mpr c18
       by_cases c20 : (bt a0 x3_2) = 9
       ·rw [if_pos c20] at H
        have c20b0 : ((bt a0 x3_2) == 9) = true := beq_iff_eq.mpr c20
        have c20b1 : ((bt a0 x3_2) != 9) = false := bne_eq_false_iff_eq.mpr c20
        clear c20
        have H' := Aside0.mk H
        clear H
        have p15 : 0 ≤ (x3_2 : Int) := of_decide_eq_true (by assumption)
        have q15 : x3_2 < (a0.size : Int) := of_decide_eq_true (by assumption)
        have hx15 := bt_at a0 x3_2
        replace p15 := eq_true p15
        replace q15 := eq_true q15
        have p17 : 0 ≤ (x3_2 : Int) := of_decide_eq_true (by assumption)
        have q17 : x3_2 < (a0.size : Int) := of_decide_eq_true (by assumption)
        have hx17 := bt_at a0 x3_2
        replace p17 := eq_true p17
        replace q17 := eq_true q17
        have p19 : 0 ≤ (x3_2 : Int) := of_decide_eq_true (by assumption)
        have q19 : x3_2 < (a0.size : Int) := of_decide_eq_true (by assumption)
        have hx19 := bt_at a0 x3_2
        replace p19 := eq_true p19
        replace q19 := eq_true q19
        go_wp2
        go_roundg k2
        case measure => have := HJ1.out; have := HK2.out; omega
        case rel => exact ⟨(wrap64 (x3_2 + 1)), (by first | rfl | (simp; done) | (simp [*]; done)), H', ⟨by have := HJ1.out; have := HK2.out; omega⟩, by repeat (first | exact Drawn0.refl _ | apply Drawn0.step)⟩
       rw [if_neg c20] at H
       have c20b0 : ((bt a0 x3_2) == 9) = false := beq_eq_false_iff_ne.mpr c20
       have c20b1 : ((bt a0 x3_2) != 9) = true := bne_iff_ne.mpr c20
       by_cases c22 : (bt a0 x3_2) = 13
       ·rw [if_pos c22] at H
        have c22b0 : ((bt a0 x3_2) == 13) = true := beq_iff_eq.mpr c22
        have c22b1 : ((bt a0 x3_2) != 13) = false := bne_eq_false_iff_eq.mpr c22
        clear c22
        have H' := Aside0.mk H
        clear H
        have p15 : 0 ≤ (x3_2 : Int) := of_decide_eq_true (by assumption)
        have q15 : x3_2 < (a0.size : Int) := of_decide_eq_true (by assumption)
        have hx15 := bt_at a0 x3_2
        replace p15 := eq_true p15
        replace q15 := eq_true q15
        have p17 : 0 ≤ (x3_2 : Int) := of_decide_eq_true (by assumption)
        have q17 : x3_2 < (a0.size : Int) := of_decide_eq_true (by assumption)
        have hx17 := bt_at a0 x3_2
        replace p17 := eq_true p17
        replace q17 := eq_true q17
        have p19 : 0 ≤ (x3_2 : Int) := of_decide_eq_true (by assumption)
        have q19 : x3_2 < (a0.size : Int) := of_decide_eq_true (by assumption)
        have hx19 := bt_at a0 x3_2
        replace p19 := eq_true p19
        replace q19 := eq_true q19
        have p21 : 0 ≤ (x3_2 : Int) := of_decide_eq_true (by assumption)
        have q21 : x3_2 < (a0.size : Int) := of_decide_eq_true (by assumption)
        have hx21 := bt_at a0 x3_2
        replace p21 := eq_true p21
        replace q21 := eq_true q21
        go_wp2
        go_roundg k2
        case measure => have := HJ1.out; have := HK2.out; omega
        case rel => exact ⟨(wrap64 (x3_2 + 1)), (by first | rfl | (simp; done) | (simp [*]; done)), H', ⟨by have := HJ1.out; have := HK2.out; omega⟩, by repeat (first | exact Drawn0.refl _ | apply Drawn0.step)⟩
       rw [if_neg c22] at H
       have c22b0 : ((bt a0 x3_2) == 13) = false := beq_eq_false_iff_ne.mpr c22
       have c22b1 : ((bt a0 x3_2) != 13) = true := bne_iff_ne.mpr c22
       have c23b0 := eq_true (of_decide_eq_true (by assumption) : 0 ≤ x3_2)
       by_cases c24 : x3_2 ≤ (a0.size : Int)
       ·rw [if_pos c24] at H
        have c24b0 := eq_true c24
        have c24b1 : decide (x3_2 ≤ (a0.size : Int)) = true := decide_eq_true c24
        clear c24
        obtain ⟨js25, hjs25⟩ : ∃ z_ : ByteArray, (a0.extract (x3_2 : Int).toNat a0.size) = z_ := ⟨_, rfl⟩
        replace H : (some js25) = some r := by first | (rw [hjs25] at H; exact H) | (simp only [hjs25] at H ⊢; exact H)
        obtain rfl := Option.some.inj H
        have p15 : 0 ≤ (x3_2 : Int) := of_decide_eq_true (by assumption)
        have q15 : x3_2 < (a0.size : Int) := of_decide_eq_true (by assumption)
        have hx15 := bt_at a0 x3_2
        replace p15 := eq_true p15
        replace q15 := eq_true q15
        have p17 : 0 ≤ (x3_2 : Int) := of_decide_eq_true (by assumption)
        have q17 : x3_2 < (a0.size : Int) := of_decide_eq_true (by assumption)
        have hx17 := bt_at a0 x3_2
        replace p17 := eq_true p17
        replace q17 := eq_true q17
        have p19 : 0 ≤ (x3_2 : Int) := of_decide_eq_true (by assumption)
        have q19 : x3_2 < (a0.size : Int) := of_decide_eq_true (by assumption)
        have hx19 := bt_at a0 x3_2
        replace p19 := eq_true p19
        replace q19 := eq_true q19
        have p21 : 0 ≤ (x3_2 : Int) := of_decide_eq_true (by assumption)
        have q21 : x3_2 < (a0.size : Int) := of_decide_eq_true (by assumption)
        have hx21 := bt_at a0 x3_2
        replace p21 := eq_true p21
        replace q21 := eq_true q21
        try have hcs26 := fun W_ : World => run_slice_string_l (P := Tryd.prog) W_ 9 a0 Tryd.underlying9 .i64 x3_2 (of_decide_eq_true (by assumption)) (of_decide_eq_true (by assumption))
        (try simp only [hjs25] at hcs26)
        go_wp2
        go_ret
        exact ⟨by first | rfl | (simp; done) | (simp [*]; done), by repeat (first | exact Drawn0.refl _ | apply Drawn0.step)⟩
       rw [if_neg c24] at H
       exact absurd H (by simp)
      rw [if_neg c14] at H
      exact absurd H (by simp)
     rw [if_neg c13] at H
     have c13b0 : decide (x3_2 < (a0.size : Int)) = false := decide_eq_false c13
     clear c13
     obtain rfl := Option.some.inj H
     go_wp2
     go_ret
     exact ⟨by first | rfl | (simp; done) | (simp [*]; done), by repeat (first | exact Drawn0.refl _ | apply Drawn0.step)⟩
end Go.Proofs.YtnajijaachgipaaDoor.PT
end
section
namespace Go.Proofs.YtnajijaachgipaaDoor.PT
open Go.RowKit Go.Proofs.YtnajijaachgipaaDoorW.PrintWords Go.Proofs.YtnajijaachgipaaDoorW.PrintLast Go.Proofs.YtnajijaachgipaaDoorW.PrintMore
attribute [local go_sem] max2_int min2_int max_two min_two max_three min_three max_four min_four   -- for this text's walks alone
set_option linter.unusedVariables false
set_option linter.unusedSimpArgs false
/-! ### fastjson_skipWS: function 47 -/
def fastjson_skipWS.f (k : Nat) (a0 : ByteArray) : Option (ByteArray) := if (a0.size : Int) = 0 then (some a0) else (if 0 < (a0.size : Int) then (if (bt a0 0) > 32 then (some a0) else ((fastjson_skipWSSlow.f k a0).bind fun t167 => (some t167))) else (none))
theorem fastjson_skipWS.mono : ∀ a0 k, LeO (fastjson_skipWS.f k a0) (fastjson_skipWS.f (k + 1) a0) := by
 intro a0 k
 unfold fastjson_skipWS.f
 repeat' first
   | (with_reducible exact fastjson_skipWSSlow.mono _ _)
   | (with_reducible exact LeO.refl _)
   | (with_reducible exact LeO.none _)
   | (with_reducible refine LeO.ite ?_ ?_)
   | (with_reducible refine LeO.bind ?_ (fun _ => ?_))
   | exact fastjson_skipWSSlow.mono _ _
   | exact LeO.none _
   | refine LeO.ite ?_ ?_
   | refine LeO.bind ?_ (fun _ => ?_)
set_option maxHeartbeats 8000000 in
set_option maxRecDepth 100000 in
theorem fastjson_skipWS.calls (k : Nat) (a0 : ByteArray) (r : ByteArray) (w : World) (h : fastjson_skipWS.f k a0 = some r) :
  Calls Tryd.prog 47 #[.string a0] w fun e w' => e = .returned (.string r) ∧ Drawn0 w w' := by
 have H : (if (a0.size : Int) = 0 then (some a0) else (if 0 < (a0.size : Int) then (if (bt a0 0) > 32 then (some a0) else ((fastjson_skipWSSlow.f k a0).bind fun t167 => (some t167))) else (none))) = some r := h
 clear h
 by_cases c2 : (a0.size : Int) = 0
 ·rw [if_pos c2] at H
  have c2b0 : ((a0.size : Int) == 0) = true := beq_iff_eq.mpr c2
  have c2b1 : ((a0.size : Int) != 0) = false := bne_eq_false_iff_eq.mpr c2
  clear c2
  obtain rfl := Option.some.inj H
  go_enter Tryd.func47, Tryd.ntmps47
  go_wp2
  go_ret
  exact ⟨by first | rfl | (simp; done) | (simp [*]; done), by repeat (first | exact Drawn0.refl _ | apply Drawn0.step)⟩
 rw [if_neg c2] at H
 have c2b0 : ((a0.size : Int) == 0) = false := beq_eq_false_iff_ne.mpr c2
 have c2b1 : ((a0.size : Int) != 0) = true := bne_iff_ne.mpr c2
 by_cases c3 : 0 < (a0.size : Int)
 ·rw [if_pos c3] at H
  have c3b0 : decide (0 < (a0.size : Int)) = true := decide_eq_true c3
  have c3b1 : decide (0 < a0.size) = true := decide_eq_true (by omega)
  clear c3
  by_cases c5 : (bt a0 0) > 32
  ·rw [if_pos c5] at H
   have c5b0 : decide (32 < (bt a0 0)) = true := decide_eq_true c5
   clear c5
   obtain rfl := Option.some.inj H
   have p4 : 0 ≤ (0 : Int) := (by omega)
   have q4 : 0 < a0.size := (by have : (0 : Int) < (a0.size : Int) := of_decide_eq_true (by assumption); omega)
   have hx4 : ∀ h : 0 < a0.size, ((a0[0]'h).toNat : Int) = bt a0 0 := bt_at a0 0
   clear p4
   have qi4 : (0 < (a0.size : Int)) = True := eq_true (of_decide_eq_true (by assumption))
   replace q4 := eq_true q4
   go_enter Tryd.func47, Tryd.ntmps47
   go_wp2
   go_ret
   exact ⟨by first | rfl | (simp; done) | (simp [*]; done), by repeat (first | exact Drawn0.refl _ | apply Drawn0.step)⟩
  rw [if_neg c5] at H
  have c5b0 : decide (32 < (bt a0 0)) = false := decide_eq_false c5
  clear c5
  replace H := Option.bind_eq_some_iff.mp H
  obtain ⟨t167, A60, H⟩ := H
  replace H : (some t167) = some r := H
  have A6 := Aside0.mk A60
  clear A60
  obtain rfl := Option.some.inj H
  have p4 : 0 ≤ (0 : Int) := (by omega)
  have q4 : 0 < a0.size := (by have : (0 : Int) < (a0.size : Int) := of_decide_eq_true (by assumption); omega)
  have hx4 : ∀ h : 0 < a0.size, ((a0[0]'h).toNat : Int) = bt a0 0 := bt_at a0 0
  clear p4
  have qi4 : (0 < (a0.size : Int)) = True := eq_true (of_decide_eq_true (by assumption))
  replace q4 := eq_true q4
  go_enter Tryd.func47, Tryd.ntmps47
  go_wp2_with (first | ((with_reducible refine gate_callee (f := 69) rfl ?_); refine goesL_ (some 13) rfl rfl Tryd.func69 (by kernel_rfl) rfl #[.string a0] rfl (by (try simp only [List.map_toArray, List.map_cons, List.map_nil]); first | done | rfl | (simp only [List.length_drop, List.length_take]; rfl)) ?_; (with_reducible refine (fastjson_skipWSSlow.calls k a0 t167 _ A6.out).mono ?_); rintro e w' ⟨rfl, ⟨nd, rfl⟩⟩; refine ⟨_, rfl, ?_⟩))
  go_ret
  exact ⟨by first | rfl | (simp; done) | (simp [*]; done), by repeat (first | exact Drawn0.refl _ | apply Drawn0.step)⟩
 rw [if_neg c3] at H
 exact absurd H (by simp)
end Go.Proofs.YtnajijaachgipaaDoor.PT
end
section
namespace Go.Proofs.YtnajijaachgipaaDoor.PT
open Go.RowKit Go.Proofs.YtnajijaachgipaaDoorW.PrintWords Go.Proofs.YtnajijaachgipaaDoorW.PrintLast Go.Proofs.YtnajijaachgipaaDoorW.PrintMore
attribute [local go_sem] max2_int min2_int max_two min_two max_three min_three max_four min_four   -- for this text's walks alone
set_option linter.unusedVariables false
set_option linter.unusedSimpArgs false
/-! ### fastjson_zzFold: function 74 -/
mutual
def fastjson_zzFold.l0 : Nat → ByteArray → ByteArray → Int → Option (Bool)
 | 0, _, _, _ => none
 | k + 1, x0, x1, x5 => if x5 < (x0.size : Int) then (if 0 ≤ x5 then (if 65 ≤ (bt x0 x5) then (fastjson_zzFold.j1 k x0 x1 x5 (bt x0 x5) (decide ((bt x0 x5) ≤ 90))) else (fastjson_zzFold.j1 k x0 x1 x5 (bt x0 x5) false)) else (none)) else (some true)
def fastjson_zzFold.j1 : Nat → ByteArray → ByteArray → Int → Int → Bool → Option (Bool)
 | 0, _, _, _, _, _ => none
 | k + 1, x0, x1, x5, x6, x26 => if x26 = true then (if 0 ≤ x5 then (if x5 < (x1.size : Int) then (if ((x6 + 32) % 256) = (bt x1 x5) then (fastjson_zzFold.l0 k x0 x1 (wrap64 (x5 + 1))) else (some false)) else (none)) else (none)) else (if 0 ≤ x5 then (if x5 < (x1.size : Int) then (if x6 = (bt x1 x5) then (fastjson_zzFold.l0 k x0 x1 (wrap64 (x5 + 1))) else (some false)) else (none)) else (none))
end
def fastjson_zzFold.f (k : Nat) (a0 : ByteArray) (a1 : ByteArray) : Option (Bool) := if (a0.size : Int) = (a1.size : Int) then (fastjson_zzFold.l0 k a0 a1 0) else (some false)
theorem fastjson_zzFold.mono_l : ∀ k, (∀ y0 y1 y2, LeO (fastjson_zzFold.l0 k y0 y1 y2) (fastjson_zzFold.l0 (k + 1) y0 y1 y2)) ∧ (∀ y0 y1 y2 y3 y4, LeO (fastjson_zzFold.j1 k y0 y1 y2 y3 y4) (fastjson_zzFold.j1 (k + 1) y0 y1 y2 y3 y4))
 | 0 => ⟨fun _ _ _ r h => by simp [fastjson_zzFold.l0] at h, fun _ _ _ _ _ r h => by simp [fastjson_zzFold.j1] at h⟩
 | k + 1 => by
  obtain ⟨ih0, ih1⟩ := fastjson_zzFold.mono_l k
  refine ⟨?_, ?_⟩
  ·intro y0 y1 y2
   unfold fastjson_zzFold.l0
   repeat' first
   | (with_reducible exact ih0 _ _ _)
   | (with_reducible exact ih1 _ _ _ _ _)
   | (with_reducible exact LeO.refl _)
   | (with_reducible exact LeO.none _)
   | (with_reducible refine LeO.ite ?_ ?_)
   | (with_reducible refine LeO.bind ?_ (fun _ => ?_))
   | exact ih0 _ _ _
   | exact ih1 _ _ _ _ _
   | exact LeO.none _
   | refine LeO.ite ?_ ?_
   | refine LeO.bind ?_ (fun _ => ?_)
  intro y0 y1 y2 y3 y4
  unfold fastjson_zzFold.j1
  repeat' first
  | (with_reducible exact ih0 _ _ _)
  | (with_reducible exact ih1 _ _ _ _ _)
  | (with_reducible exact LeO.refl _)
  | (with_reducible exact LeO.none _)
  | (with_reducible refine LeO.ite ?_ ?_)
  | (with_reducible refine LeO.bind ?_ (fun _ => ?_))
  | exact ih0 _ _ _
  | exact ih1 _ _ _ _ _
  | exact LeO.none _
  | refine LeO.ite ?_ ?_
  | refine LeO.bind ?_ (fun _ => ?_)
theorem fastjson_zzFold.mono : ∀ a0 a1 k, LeO (fastjson_zzFold.f k a0 a1) (fastjson_zzFold.f (k + 1) a0 a1) := by
 intro a0 a1 k
 obtain ⟨ih0, ih1⟩ := fastjson_zzFold.mono_l k
 unfold fastjson_zzFold.f
 repeat' first
   | (with_reducible exact ih0 _ _ _)
   | (with_reducible exact ih1 _ _ _ _ _)
   | (with_reducible exact LeO.refl _)
   | (with_reducible exact LeO.none _)
   | (with_reducible refine LeO.ite ?_ ?_)
   | (with_reducible refine LeO.bind ?_ (fun _ => ?_))
   | exact ih0 _ _ _
   | exact ih1 _ _ _ _ _
   | exact LeO.none _
   | refine LeO.ite ?_ ?_
   | refine LeO.bind ?_ (fun _ => ?_)
set_option maxHeartbeats 8000000 in
set_option maxRecDepth 100000 in
theorem fastjson_zzFold.calls (k : Nat) (a0 : ByteArray) (a1 : ByteArray) (r : Bool) (w : World) (h : fastjson_zzFold.f k a0 a1 = some r) :
  Calls Tryd.prog 74 #[.string a0, .string a1] w fun e w' => e = .returned (.bool r) ∧ Drawn0 w w' := by
 have H : (if (a0.size : Int) = (a1.size : Int) then (fastjson_zzFold.l0 k a0 a1 0) else (some false)) = some r := h
 clear h
 by_cases c3 : (a0.size : Int) = (a1.size : Int)
 ·rw [if_pos c3] at H
  have c3b0 : ((a0.size : Int) == (a1.size : Int)) = true := beq_iff_eq.mpr c3
  have c3b1 : ((a0.size : Int) != (a1.size : Int)) = false := bne_eq_false_iff_eq.mpr c3
  have c3b2 : decide (a0.size = a1.size) = true := decide_eq_true (by omega)
  clear c3
  have H' := Aside0.mk H
  clear H
  go_enter Tryd.func74, Tryd.ntmps74
  go_wp2
  try simp only [Act.put, List.setIfInBounds_toArray, List.set_cons_succ, List.set_cons_zero]
  go_loopg [5] k (fun kq v5 w' => ∃ (x5_1 : Int), v5 = .int .i64 x5_1 ∧ Aside0 (fastjson_zzFold.l0 kq a0 a1 x5_1 = some r) ∧ Aside0 (kq ≤ k) ∧ Drawn0 w w')
  case atStart => exact ⟨(0), (by first | rfl | (simp; done) | (simp [*]; done)), H', ⟨Nat.le_refl _⟩, by repeat (first | exact Drawn0.refl _ | apply Drawn0.step)⟩
  case round =>
   clear H'
   try clear p2
   try clear c3
   try clear c3b0
   try clear c3b1
   try clear c3b2
   obtain ⟨x5_1, rfl, HA, HK1, ⟨m1, rfl⟩⟩ := hrel
   cases gk with
   | zero => exact absurd HA.out (by simp [fastjson_zzFold.l0])
   | succ k1 =>
    have H := HA.out
    clear HA
    simp only [fastjson_zzFold.l0] at H
    by_cases c4 : x5_1 < (a0.size : Int)
    ·rw [if_pos c4] at H
     have c4b0 : decide (x5_1 < (a0.size : Int)) = true := decide_eq_true c4
     clear c4
     by_cases c5 : 0 ≤ x5_1
     ·rw [if_pos c5] at H
      have c5b0 : decide (0 ≤ x5_1) = true := decide_eq_true c5
      clear c5
      have HC7 := Aside0.mk H
      clear H
      have p6 : 0 ≤ (x5_1 : Int) := of_decide_eq_true (by assumption)
      have q6 : x5_1 < (a0.size : Int) := of_decide_eq_true (by assumption)
      have hx6 := bt_at a0 x5_1
      replace p6 := eq_true p6
      replace q6 := eq_true q6
      go_upto_region 7 with (fail)
      go_cut [26] (fun v26 wc => ∃ (kq : Nat) (x26_6 : Bool), v26 = .bool x26_6 ∧ Aside0 (fastjson_zzFold.j1 kq a0 a1 x5_1 (bt a0 x5_1) x26_6 = some r) ∧ Aside0 (kq ≤ k1) ∧ Drawn0 w wc)
      case first =>
       have H := HC7.out
       clear HC7
       by_cases c8 : 65 ≤ (bt a0 x5_1)
       ·rw [if_pos c8] at H
        have c8b0 : decide (65 ≤ (bt a0 x5_1)) = true := decide_eq_true c8
        clear c8
        (first | rw [c8b0] | (simp only [i64_w, i32_w]; rw [c8b0]) | rw [c8b1] | skip)
        have H' := Aside0.mk H
        clear H
        go_wp2
        go_meet
        case rel => exact ⟨_, (decide ((bt a0 x5_1) ≤ 90)), (by first | rfl | (simp; done) | (simp [*]; done)), H', ⟨by have := HK1.out; first | omega | exact Nat.le_refl _⟩, by repeat (first | exact Drawn0.refl _ | apply Drawn0.step)⟩
       rw [if_neg c8] at H
       have c8b0 : decide (65 ≤ (bt a0 x5_1)) = false := decide_eq_false c8
       clear c8
       (first | rw [c8b0] | (simp only [i64_w, i32_w]; rw [c8b0]) | rw [c8b1] | skip)
       have H' := Aside0.mk H
       clear H
       go_wp2
       go_meet
       case rel => exact ⟨_, (false), (by first | rfl | (simp; done) | (simp [*]; done)), H', ⟨by have := HK1.out; first | omega | exact Nat.le_refl _⟩, by repeat (first | exact Drawn0.refl _ | apply Drawn0.step)⟩
      case rest =>
       clear HC7
       try clear p2
       try clear c3
       try clear c3b0
       try clear c3b1
       try clear c3b2
       try clear c4
       try clear c4b0
       try clear c5
       try clear c5b0
       try clear p6
       try clear q6
       try clear hx6
       try clear c7
       try clear c8
       try clear c8b0
       try clear c8b1
       try clear p2
       try clear p6
       try clear q6
       obtain ⟨kq, x26_6, rfl, HA, HJ6, ⟨mc6, rfl⟩⟩ := hcut
       cases kq with
       | zero => exact absurd HA.out (by simp [fastjson_zzFold.j1])
       | succ kj6 =>
        have H := HA.out
        clear HA
        simp only [fastjson_zzFold.j1] at H
        by_cases c9 : x26_6 = true
        ·subst c9
         have H1 : (if 0 ≤ x5_1 then (if x5_1 < (a1.size : Int) then (if (((bt a0 x5_1) + 32) % 256) = (bt a1 x5_1) then (fastjson_zzFold.l0 kj6 a0 a1 (wrap64 (x5_1 + 1))) else (some false)) else (none)) else (none)) = some r := by rw [if_pos rfl] at H; exact H
         clear H
         have H := H1
         clear H1
         by_cases c10 : 0 ≤ x5_1
         ·rw [if_pos c10] at H
          have c10b0 : decide (0 ≤ x5_1) = true := decide_eq_true c10
          clear c10
          by_cases c11 : x5_1 < (a1.size : Int)
          ·rw [if_pos c11] at H
           have c11b0 : decide (x5_1 < (a1.size : Int)) = true := decide_eq_true c11
           clear c11
           by_cases c13 : (((bt a0 x5_1) + 32) % 256) = (bt a1 x5_1)
           ·rw [if_pos c13] at H
            have c13b0 : ((((bt a0 x5_1) + 32) % 256) == (bt a1 x5_1)) = true := beq_iff_eq.mpr c13
            have c13b1 : ((((bt a0 x5_1) + 32) % 256) != (bt a1 x5_1)) = false := bne_eq_false_iff_eq.mpr c13
            clear c13
            have H' := Aside0.mk H
            clear H
            have p12 : 0 ≤ (x5_1 : Int) := of_decide_eq_true (by assumption)
            have q12 : x5_1 < (a1.size : Int) := of_decide_eq_true (by assumption)
            have hx12 := bt_at a1 x5_1
            replace p12 := eq_true p12
            replace q12 := eq_true q12
            go_wp2
            go_roundg kj6
            case measure => have := HK1.out; have := HJ6.out; omega
            case rel => exact ⟨(wrap64 (x5_1 + 1)), (by first | rfl | (simp; done) | (simp [*]; done)), H', ⟨by have := HK1.out; have := HJ6.out; omega⟩, by repeat (first | exact Drawn0.refl _ | apply Drawn0.step)⟩
           rw [if_neg c13] at H
           have c13b0 : ((((bt a0 x5_1) + 32) % 256) == (bt a1 x5_1)) = false := beq_eq_false_iff_ne.mpr c13
           have c13b1 : ((((bt a0 x5_1) + 32) % 256) != (bt a1 x5_1)) = true := bne_iff_ne.mpr c13
           obtain rfl := Option.some.inj H
           have p12 : 0 ≤ (x5_1 : Int) := of_decide_eq_true (by assumption)
           have q12 : x5_1 < (a1.size : Int) := of_decide_eq_true (by assumption)
           have hx12 := bt_at a1 x5_1
           replace p12 := eq_true p12
           replace q12 := eq_true q12
           go_wp2
           go_ret
           exact ⟨by first | rfl | (simp; done) | (simp [*]; done), by repeat (first | exact Drawn0.refl _ | apply Drawn0.step)⟩
          rw [if_neg c11] at H
          exact absurd H (by simp)
         rw [if_neg c10] at H
         exact absurd H (by simp)
        replace c9 := Bool.eq_false_iff.mpr c9
        subst c9
        have H1 : (if 0 ≤ x5_1 then (if x5_1 < (a1.size : Int) then (if (bt a0 x5_1) = (bt a1 x5_1) then (fastjson_zzFold.l0 kj6 a0 a1 (wrap64 (x5_1 + 1))) else (some false)) else (none)) else (none)) = some r := by rw [if_neg (show ¬ (false = true) by decide)] at H; exact H
        clear H
        have H := H1
        clear H1
        by_cases c14 : 0 ≤ x5_1
        ·rw [if_pos c14] at H
         have c14b0 : decide (0 ≤ x5_1) = true := decide_eq_true c14
         clear c14
         by_cases c15 : x5_1 < (a1.size : Int)
         ·rw [if_pos c15] at H
          have c15b0 : decide (x5_1 < (a1.size : Int)) = true := decide_eq_true c15
          clear c15
          by_cases c17 : (bt a0 x5_1) = (bt a1 x5_1)
          ·rw [if_pos c17] at H
           have c17b0 : ((bt a0 x5_1) == (bt a1 x5_1)) = true := beq_iff_eq.mpr c17
           have c17b1 : ((bt a0 x5_1) != (bt a1 x5_1)) = false := bne_eq_false_iff_eq.mpr c17
           clear c17
           have H' := Aside0.mk H
           clear H
           have p16 : 0 ≤ (x5_1 : Int) := of_decide_eq_true (by assumption)
           have q16 : x5_1 < (a1.size : Int) := of_decide_eq_true (by assumption)
           have hx16 := bt_at a1 x5_1
           replace p16 := eq_true p16
           replace q16 := eq_true q16
           go_wp2
           go_roundg kj6
           case measure => have := HK1.out; have := HJ6.out; omega
           case rel => exact ⟨(wrap64 (x5_1 + 1)), (by first | rfl | (simp; done) | (simp [*]; done)), H', ⟨by have := HK1.out; have := HJ6.out; omega⟩, by repeat (first | exact Drawn0.refl _ | apply Drawn0.step)⟩
          rw [if_neg c17] at H
          have c17b0 : ((bt a0 x5_1) == (bt a1 x5_1)) = false := beq_eq_false_iff_ne.mpr c17
          have c17b1 : ((bt a0 x5_1) != (bt a1 x5_1)) = true := bne_iff_ne.mpr c17
          obtain rfl := Option.some.inj H
          have p16 : 0 ≤ (x5_1 : Int) := of_decide_eq_true (by assumption)
          have q16 : x5_1 < (a1.size : Int) := of_decide_eq_true (by assumption)
          have hx16 := bt_at a1 x5_1
          replace p16 := eq_true p16
          replace q16 := eq_true q16
          go_wp2
          go_ret
          exact ⟨by first | rfl | (simp; done) | (simp [*]; done), by repeat (first | exact Drawn0.refl _ | apply Drawn0.step)⟩
         rw [if_neg c15] at H
         exact absurd H (by simp)
        rw [if_neg c14] at H
        exact absurd H (by simp)
     rw [if_neg c5] at H
     exact absurd H (by simp)
    rw [if_neg c4] at H
    have c4b0 : decide (x5_1 < (a0.size : Int)) = false := decide_eq_false c4
    clear c4
    obtain rfl := Option.some.inj H
    go_wp2
    go_ret
    exact ⟨by first | rfl | (simp; done) | (simp [*]; done), by repeat (first | exact Drawn0.refl _ | apply Drawn0.step)⟩
 rw [if_neg c3] at H
 have c3b0 : ((a0.size : Int) == (a1.size : Int)) = false := beq_eq_false_iff_ne.mpr c3
 have c3b1 : ((a0.size : Int) != (a1.size : Int)) = true := bne_iff_ne.mpr c3
 have c3b2 : decide (a0.size = a1.size) = false := decide_eq_false (by omega)
 obtain rfl := Option.some.inj H
 go_enter Tryd.func74, Tryd.ntmps74
 go_wp2
 go_ret
 exact ⟨by first | rfl | (simp; done) | (simp [*]; done), by repeat (first | exact Drawn0.refl _ | apply Drawn0.step)⟩
end Go.Proofs.YtnajijaachgipaaDoor.PT
end
section
namespace Go.Proofs.YtnajijaachgipaaDoor.PT
open Go.RowKit Go.Proofs.YtnajijaachgipaaDoorW.PrintWords Go.Proofs.YtnajijaachgipaaDoorW.PrintLast Go.Proofs.YtnajijaachgipaaDoorW.PrintMore
attribute [local go_sem] max2_int min2_int max_two min_two max_three min_three max_four min_four   -- for this text's walks alone
set_option linter.unusedVariables false
set_option linter.unusedSimpArgs false
/-! ### errors_New: function 41, by hand -/
def errors_New.f (a0 : ByteArray) : Option (Option Int) := some (some 0)
theorem errors_New.calls (a0 : ByteArray) (r : Option Int) (w : World) (h : errors_New.f a0 = some r) :
  Calls Tryd.prog 41 #[.string a0] w fun e w' => ∃ (et0_ : Nat) (ep0_ : Value), e = .returned (errX et0_ ep0_ r) ∧ Below w.heap.size w w' := by
 obtain rfl := Option.some.inj h
 exact H.errorsNew a0 w
end Go.Proofs.YtnajijaachgipaaDoor.PT
end
section
namespace Go.Proofs.YtnajijaachgipaaDoor.PT
open Go.RowKit Go.Proofs.YtnajijaachgipaaDoorW.PrintWords Go.Proofs.YtnajijaachgipaaDoorW.PrintLast Go.Proofs.YtnajijaachgipaaDoorW.PrintMore
attribute [local go_sem] max2_int min2_int max_two min_two max_three min_three max_four min_four   -- for this text's walks alone
set_option linter.unusedVariables false
set_option linter.unusedSimpArgs false
/-! ### fastjson_parseRawString: function 73 -/
mutual
def fastjson_parseRawString.j0 : Nat → ByteArray → Int → Bool → Option (ByteArray × ByteArray × Option Int)
 | 0, _, _, _ => none
 | k + 1, x0, x5, x22 => if x22 = true then (if 0 ≤ x5 then (if x5 ≤ (x0.size : Int) then (if 0 ≤ (wrap64 (x5 + 1)) then (if (wrap64 (x5 + 1)) ≤ (x0.size : Int) then (some (x0.extract 0 (x5 : Int).toNat, x0.extract ((wrap64 (x5 + 1)) : Int).toNat x0.size, none)) else (none)) else (none)) else (none)) else (none)) else (fastjson_parseRawString.l0 k x0 x5 x0)
def fastjson_parseRawString.l0 : Nat → ByteArray → Int → ByteArray → Option (ByteArray × ByteArray × Option Int)
 | 0, _, _, _ => none
 | k + 1, x0, x5, x6 => fastjson_parseRawString.l1 k x0 x5 x6 (wrap64 (x5 - 1))
def fastjson_parseRawString.j3 : Nat → ByteArray → Int → ByteArray → Int → Option (ByteArray × ByteArray × Option Int)
 | 0, _, _, _, _ => none
 | k + 1, x0, x5, x6, x7 => if (Int.tmod (IntKind.u64.wrap (wrap64 (x5 - x7))) 2) = 0 then (if 0 ≤ (wrap64 ((wrap64 ((x6.size : Int) - (x0.size : Int))) + x5)) then (if (wrap64 ((wrap64 ((x6.size : Int) - (x0.size : Int))) + x5)) ≤ (x6.size : Int) then (if 0 ≤ (wrap64 (x5 + 1)) then (if (wrap64 (x5 + 1)) ≤ (x0.size : Int) then (some (x6.extract 0 ((wrap64 ((wrap64 ((x6.size : Int) - (x0.size : Int))) + x5)) : Int).toNat, x0.extract ((wrap64 (x5 + 1)) : Int).toNat x0.size, none)) else (none)) else (none)) else (none)) else (none)) else (if 0 ≤ (wrap64 (x5 + 1)) then (if (wrap64 (x5 + 1)) ≤ (x0.size : Int) then ((strings_IndexByte.f (x0.extract ((wrap64 (x5 + 1)) : Int).toNat x0.size) 34).bind fun t170 => (if t170 < 0 then ((errors_New.f (⟨#[109, 105, 115, 115, 105, 110, 103, 32, 99, 108, 111, 115, 105, 110, 103]⟩ : ByteArray)).bind fun t171 => (some (x6, (⟨#[]⟩ : ByteArray), t171))) else (if t170 = 0 then (if 0 ≤ (wrap64 ((wrap64 ((x6.size : Int) - ((x0.extract ((wrap64 (x5 + 1)) : Int).toNat x0.size).size : Int))) + t170)) then (if (wrap64 ((wrap64 ((x6.size : Int) - ((x0.extract ((wrap64 (x5 + 1)) : Int).toNat x0.size).size : Int))) + t170)) ≤ (x6.size : Int) then (if 0 ≤ (wrap64 (t170 + 1)) then (if (wrap64 (t170 + 1)) ≤ ((x0.extract ((wrap64 (x5 + 1)) : Int).toNat x0.size).size : Int) then (some (x6.extract 0 ((wrap64 ((wrap64 ((x6.size : Int) - ((x0.extract ((wrap64 (x5 + 1)) : Int).toNat x0.size).size : Int))) + t170)) : Int).toNat, (x0.extract ((wrap64 (x5 + 1)) : Int).toNat x0.size).extract ((wrap64 (t170 + 1)) : Int).toNat (x0.extract ((wrap64 (x5 + 1)) : Int).toNat x0.size).size, none)) else (none)) else (none)) else (none)) else (none)) else (if 0 ≤ (wrap64 (t170 - 1)) then (if (wrap64 (t170 - 1)) < ((x0.extract ((wrap64 (x5 + 1)) : Int).toNat x0.size).size : Int) then (if (bt (x0.extract ((wrap64 (x5 + 1)) : Int).toNat x0.size) (wrap64 (t170 - 1))) = 92 then (fastjson_parseRawString.l0 k (x0.extract ((wrap64 (x5 + 1)) : Int).toNat x0.size) t170 x6) else (if 0 ≤ (wrap64 ((wrap64 ((x6.size : Int) - ((x0.extract ((wrap64 (x5 + 1)) : Int).toNat x0.size).size : Int))) + t170)) then (if (wrap64 ((wrap64 ((x6.size : Int) - ((x0.extract ((wrap64 (x5 + 1)) : Int).toNat x0.size).size : Int))) + t170)) ≤ (x6.size : Int) then (if 0 ≤ (wrap64 (t170 + 1)) then (if (wrap64 (t170 + 1)) ≤ ((x0.extract ((wrap64 (x5 + 1)) : Int).toNat x0.size).size : Int) then (some (x6.extract 0 ((wrap64 ((wrap64 ((x6.size : Int) - ((x0.extract ((wrap64 (x5 + 1)) : Int).toNat x0.size).size : Int))) + t170)) : Int).toNat, (x0.extract ((wrap64 (x5 + 1)) : Int).toNat x0.size).extract ((wrap64 (t170 + 1)) : Int).toNat (x0.extract ((wrap64 (x5 + 1)) : Int).toNat x0.size).size, none)) else (none)) else (none)) else (none)) else (none))) else (none)) else (none))))) else (none)) else (none))
def fastjson_parseRawString.l1 : Nat → ByteArray → Int → ByteArray → Int → Option (ByteArray × ByteArray × Option Int)
 | 0, _, _, _, _ => none
 | k + 1, x0, x5, x6, x7 => if x7 > 0 then (if 0 ≤ (wrap64 (x7 - 1)) then (if (wrap64 (x7 - 1)) < (x0.size : Int) then (if (bt x0 (wrap64 (x7 - 1))) = 92 then (fastjson_parseRawString.l1 k x0 x5 x6 (wrap64 (x7 - 1))) else (fastjson_parseRawString.j3 k x0 x5 x6 x7)) else (none)) else (none)) else (fastjson_parseRawString.j3 k x0 x5 x6 x7)
end
def fastjson_parseRawString.f (k : Nat) (a0 : ByteArray) : Option (ByteArray × ByteArray × Option Int) := (strings_IndexByte.f a0 34).bind fun t168 => (if t168 < 0 then ((errors_New.f (⟨#[109, 105, 115, 115, 105, 110, 103, 32, 99, 108, 111, 115, 105, 110, 103]⟩ : ByteArray)).bind fun t169 => (some (a0, (⟨#[]⟩ : ByteArray), t169))) else (if t168 = 0 then (fastjson_parseRawString.j0 k a0 t168 true) else (if 0 ≤ (wrap64 (t168 - 1)) then (if (wrap64 (t168 - 1)) < (a0.size : Int) then (fastjson_parseRawString.j0 k a0 t168 ((bt a0 (wrap64 (t168 - 1))) != 92)) else (none)) else (none))))
theorem fastjson_parseRawString.mono_l : ∀ k, (∀ y0 y1 y2, LeO (fastjson_parseRawString.j0 k y0 y1 y2) (fastjson_parseRawString.j0 (k + 1) y0 y1 y2)) ∧ (∀ y0 y1 y2, LeO (fastjson_parseRawString.l0 k y0 y1 y2) (fastjson_parseRawString.l0 (k + 1) y0 y1 y2)) ∧ (∀ y0 y1 y2 y3, LeO (fastjson_parseRawString.j3 k y0 y1 y2 y3) (fastjson_parseRawString.j3 (k + 1) y0 y1 y2 y3)) ∧ (∀ y0 y1 y2 y3, LeO (fastjson_parseRawString.l1 k y0 y1 y2 y3) (fastjson_parseRawString.l1 (k + 1) y0 y1 y2 y3))
 | 0 => ⟨fun _ _ _ r h => by simp [fastjson_parseRawString.j0] at h, fun _ _ _ r h => by simp [fastjson_parseRawString.l0] at h, fun _ _ _ _ r h => by simp [fastjson_parseRawString.j3] at h, fun _ _ _ _ r h => by simp [fastjson_parseRawString.l1] at h⟩
 | k + 1 => by
  obtain ⟨ih0, ih1, ih2, ih3⟩ := fastjson_parseRawString.mono_l k
  refine ⟨?_, ?_, ?_, ?_⟩
  ·intro y0 y1 y2
   unfold fastjson_parseRawString.j0
   repeat' first
   | (with_reducible exact ih0 _ _ _)
   | (with_reducible exact ih1 _ _ _)
   | (with_reducible exact ih2 _ _ _ _)
   | (with_reducible exact ih3 _ _ _ _)
   | (with_reducible exact LeO.refl _)
   | (with_reducible exact LeO.none _)
   | (with_reducible refine LeO.ite ?_ ?_)
   | (with_reducible refine LeO.bind ?_ (fun _ => ?_))
   | exact ih0 _ _ _
   | exact ih1 _ _ _
   | exact ih2 _ _ _ _
   | exact ih3 _ _ _ _
   | exact LeO.none _
   | refine LeO.ite ?_ ?_
   | refine LeO.bind ?_ (fun _ => ?_)
  ·intro y0 y1 y2
   unfold fastjson_parseRawString.l0
   repeat' first
   | (with_reducible exact ih0 _ _ _)
   | (with_reducible exact ih1 _ _ _)
   | (with_reducible exact ih2 _ _ _ _)
   | (with_reducible exact ih3 _ _ _ _)
   | (with_reducible exact LeO.refl _)
   | (with_reducible exact LeO.none _)
   | (with_reducible refine LeO.ite ?_ ?_)
   | (with_reducible refine LeO.bind ?_ (fun _ => ?_))
   | exact ih0 _ _ _
   | exact ih1 _ _ _
   | exact ih2 _ _ _ _
   | exact ih3 _ _ _ _
   | exact LeO.none _
   | refine LeO.ite ?_ ?_
   | refine LeO.bind ?_ (fun _ => ?_)
  ·intro y0 y1 y2 y3
   unfold fastjson_parseRawString.j3
   repeat' first
   | (with_reducible exact ih0 _ _ _)
   | (with_reducible exact ih1 _ _ _)
   | (with_reducible exact ih2 _ _ _ _)
   | (with_reducible exact ih3 _ _ _ _)
   | (with_reducible exact LeO.refl _)
   | (with_reducible exact LeO.none _)
   | (with_reducible refine LeO.ite ?_ ?_)
   | (with_reducible refine LeO.bind ?_ (fun _ => ?_))
   | exact ih0 _ _ _
   | exact ih1 _ _ _
   | exact ih2 _ _ _ _
   | exact ih3 _ _ _ _
   | exact LeO.none _
   | refine LeO.ite ?_ ?_
   | refine LeO.bind ?_ (fun _ => ?_)
  intro y0 y1 y2 y3
  unfold fastjson_parseRawString.l1
  repeat' first
  | (with_reducible exact ih0 _ _ _)
  | (with_reducible exact ih1 _ _ _)
  | (with_reducible exact ih2 _ _ _ _)
  | (with_reducible exact ih3 _ _ _ _)
  | (with_reducible exact LeO.refl _)
  | (with_reducible exact LeO.none _)
  | (with_reducible refine LeO.ite ?_ ?_)
  | (with_reducible refine LeO.bind ?_ (fun _ => ?_))
  | exact ih0 _ _ _
  | exact ih1 _ _ _
  | exact ih2 _ _ _ _
  | exact ih3 _ _ _ _
  | exact LeO.none _
  | refine LeO.ite ?_ ?_
  | refine LeO.bind ?_ (fun _ => ?_)
theorem fastjson_parseRawString.mono : ∀ a0 k, LeO (fastjson_parseRawString.f k a0) (fastjson_parseRawString.f (k + 1) a0) := by
 intro a0 k
 obtain ⟨ih0, ih1, ih2, ih3⟩ := fastjson_parseRawString.mono_l k
 unfold fastjson_parseRawString.f
 repeat' first
   | (with_reducible exact ih0 _ _ _)
   | (with_reducible exact ih1 _ _ _)
   | (with_reducible exact ih2 _ _ _ _)
   | (with_reducible exact ih3 _ _ _ _)
   | (with_reducible exact LeO.refl _)
   | (with_reducible exact LeO.none _)
   | (with_reducible refine LeO.ite ?_ ?_)
   | (with_reducible refine LeO.bind ?_ (fun _ => ?_))
   | exact ih0 _ _ _
   | exact ih1 _ _ _
   | exact ih2 _ _ _ _
   | exact ih3 _ _ _ _
   | exact LeO.none _
   | refine LeO.ite ?_ ?_
   | refine LeO.bind ?_ (fun _ => ?_)
set_option maxHeartbeats 8000000 in
set_option maxRecDepth 100000 in
theorem fastjson_parseRawString.calls (k : Nat) (a0 : ByteArray) (r1 : ByteArray) (r2 : ByteArray) (r3 : Option Int) (w : World) (h : fastjson_parseRawString.f k a0 = some (r1, r2, r3)) :
  Calls Tryd.prog 73 #[.string a0] w fun e w' => ∃ (et2_ : Nat) (ep2_ : Value), e = .returned (.tuple #[.string r1, .string r2, errX et2_ ep2_ r3]) ∧ Below w.heap.size w w' := by
 have HB := Aside0.mk (Below.refl w.heap.size w)
 have H : ((strings_IndexByte.f a0 34).bind fun t168 => (if t168 < 0 then ((errors_New.f (⟨#[109, 105, 115, 115, 105, 110, 103, 32, 99, 108, 111, 115, 105, 110, 103]⟩ : ByteArray)).bind fun t169 => (some (a0, (⟨#[]⟩ : ByteArray), t169))) else (if t168 = 0 then (fastjson_parseRawString.j0 k a0 t168 true) else (if 0 ≤ (wrap64 (t168 - 1)) then (if (wrap64 (t168 - 1)) < (a0.size : Int) then (fastjson_parseRawString.j0 k a0 t168 ((bt a0 (wrap64 (t168 - 1))) != 92)) else (none)) else (none))))) = some (r1, r2, r3) := h
 clear h
 replace H := Option.bind_eq_some_iff.mp H
 obtain ⟨t168, A20, H⟩ := H
 replace H : (if t168 < 0 then ((errors_New.f (⟨#[109, 105, 115, 115, 105, 110, 103, 32, 99, 108, 111, 115, 105, 110, 103]⟩ : ByteArray)).bind fun t169 => (some (a0, (⟨#[]⟩ : ByteArray), t169))) else (if t168 = 0 then (fastjson_parseRawString.j0 k a0 t168 true) else (if 0 ≤ (wrap64 (t168 - 1)) then (if (wrap64 (t168 - 1)) < (a0.size : Int) then (fastjson_parseRawString.j0 k a0 t168 ((bt a0 (wrap64 (t168 - 1))) != 92)) else (none)) else (none)))) = some (r1, r2, r3) := H
 have A2 := Aside0.mk A20
 clear A20
 by_cases c3 : t168 < 0
 ·rw [if_pos c3] at H
  have c3b0 : decide (t168 < 0) = true := decide_eq_true c3
  clear c3
  replace H := Option.bind_eq_some_iff.mp H
  obtain ⟨t169, A40, H⟩ := H
  replace H : (some (a0, (⟨#[]⟩ : ByteArray), t169)) = some (r1, r2, r3) := H
  have A4 := Aside0.mk A40
  clear A40
  simp only [Option.some.injEq, Prod.mk.injEq] at H
  obtain ⟨rfl, rfl, rfl⟩ := H
  go_enter Tryd.func73, Tryd.ntmps73
  go_wp2_with (first | (go_at_call 87; (with_reducible refine (strings_IndexByte.calls a0 34 t168 _ A2.out).mono ?_); rintro e w' ⟨rfl, ⟨nd, rfl⟩⟩; (try first | exact ⟨rfl, _, World.drewN_drewN _ _ _⟩ | exact ⟨rfl, _, Eq.trans (World.drewN_drewN _ _ _) (congrArg (World.drewN _) (Nat.add_assoc _ _ _))⟩)) | (go_at_call 41; (with_reducible refine (errors_New.calls (⟨#[109, 105, 115, 115, 105, 110, 103, 32, 99, 108, 111, 115, 105, 110, 103]⟩ : ByteArray) t169 _ A4.out).mono ?_); rintro e w5 ⟨et_A4_0, ep_A4_0, rfl, hb⟩; have n0_ := Aside0.mk (below_step (by repeat (first | (with_reducible first | exact HB.out | apply below_alloc | apply pw_below_drewN | apply below_drew1) | exact HB.out)) hb); clear HB; have HB := n0_; clear n0_; (try clear hb); (try clear hb2); (try clear hk); (try clear hi); (try simp only [errW_none, errW_some, errX_none, errX_some])))
  repeat (go_quiet (first | (go_at_call 87; (with_reducible refine (strings_IndexByte.calls a0 34 t168 _ A2.out).mono ?_); rintro e w' ⟨rfl, ⟨nd, rfl⟩⟩; (try first | exact ⟨rfl, _, World.drewN_drewN _ _ _⟩ | exact ⟨rfl, _, Eq.trans (World.drewN_drewN _ _ _) (congrArg (World.drewN _) (Nat.add_assoc _ _ _))⟩)) | (go_at_call 41; (with_reducible refine (errors_New.calls (⟨#[109, 105, 115, 115, 105, 110, 103, 32, 99, 108, 111, 115, 105, 110, 103]⟩ : ByteArray) t169 _ A4.out).mono ?_); rintro e w5 ⟨et_A4_0, ep_A4_0, rfl, hb⟩; have n0_ := Aside0.mk (below_step (by repeat (first | (with_reducible first | exact HB.out | apply below_alloc | apply pw_below_drewN | apply below_drew1) | exact HB.out)) hb); clear HB; have HB := n0_; clear n0_; (try clear hb); (try clear hb2); (try clear hk); (try clear hi); (try simp only [errW_none, errW_some, errX_none, errX_some]))); try go_wp2_with (first | (go_at_call 87; (with_reducible refine (strings_IndexByte.calls a0 34 t168 _ A2.out).mono ?_); rintro e w' ⟨rfl, ⟨nd, rfl⟩⟩; (try first | exact ⟨rfl, _, World.drewN_drewN _ _ _⟩ | exact ⟨rfl, _, Eq.trans (World.drewN_drewN _ _ _) (congrArg (World.drewN _) (Nat.add_assoc _ _ _))⟩)) | (go_at_call 41; (with_reducible refine (errors_New.calls (⟨#[109, 105, 115, 115, 105, 110, 103, 32, 99, 108, 111, 115, 105, 110, 103]⟩ : ByteArray) t169 _ A4.out).mono ?_); rintro e w5 ⟨et_A4_0, ep_A4_0, rfl, hb⟩; have n0_ := Aside0.mk (below_step (by repeat (first | (with_reducible first | exact HB.out | apply below_alloc | apply pw_below_drewN | apply below_drew1) | exact HB.out)) hb); clear HB; have HB := n0_; clear n0_; (try clear hb); (try clear hb2); (try clear hk); (try clear hi); (try simp only [errW_none, errW_some, errX_none, errX_some]))))
  go_ret3
  first | exact ⟨et_A4_0, ep_A4_0, by first | rfl | (simp [errW_none, errW_some] <;> rfl) | (simp [*, errW_none, errW_some] <;> rfl) | (simp [errW_none, errW_some] <;> exact ⟨rfl, rfl⟩) | (simp [*, errW_none, errW_some] <;> exact ⟨rfl, rfl⟩), by repeat (first | (with_reducible first | exact HB.out | apply below_alloc | apply pw_below_drewN | apply below_drew1) | exact HB.out)⟩ | exact ⟨⟨et_A4_0, ep_A4_0, by first | rfl | (simp [errW_none, errW_some] <;> rfl) | (simp [*, errW_none, errW_some] <;> rfl) | (simp [errW_none, errW_some] <;> exact ⟨rfl, rfl⟩) | (simp [*, errW_none, errW_some] <;> exact ⟨rfl, rfl⟩)⟩, by repeat (first | (with_reducible first | exact HB.out | apply below_alloc | apply pw_below_drewN | apply below_drew1) | exact HB.out)⟩
 rw [if_neg c3] at H
 have c3b0 : decide (t168 < 0) = false := decide_eq_false c3
 clear c3
 have HC6 := Aside0.mk H
 clear H
 go_enter Tryd.func73, Tryd.ntmps73
 go_upto_region 4 with (first | (go_at_call 87; (with_reducible refine (strings_IndexByte.calls a0 34 t168 _ A2.out).mono ?_); rintro e w' ⟨rfl, ⟨nd, rfl⟩⟩; (try first | exact ⟨rfl, _, World.drewN_drewN _ _ _⟩ | exact ⟨rfl, _, Eq.trans (World.drewN_drewN _ _ _) (congrArg (World.drewN _) (Nat.add_assoc _ _ _))⟩)))
 repeat (go_quiet (first | (go_at_call 87; (with_reducible refine (strings_IndexByte.calls a0 34 t168 _ A2.out).mono ?_); rintro e w' ⟨rfl, ⟨nd, rfl⟩⟩; (try first | exact ⟨rfl, _, World.drewN_drewN _ _ _⟩ | exact ⟨rfl, _, Eq.trans (World.drewN_drewN _ _ _) (congrArg (World.drewN _) (Nat.add_assoc _ _ _))⟩))); go_upto_region 4 with (first | (go_at_call 87; (with_reducible refine (strings_IndexByte.calls a0 34 t168 _ A2.out).mono ?_); rintro e w' ⟨rfl, ⟨nd, rfl⟩⟩; (try first | exact ⟨rfl, _, World.drewN_drewN _ _ _⟩ | exact ⟨rfl, _, Eq.trans (World.drewN_drewN _ _ _) (congrArg (World.drewN _) (Nat.add_assoc _ _ _))⟩))))
 (try simp only [Act.put, List.setIfInBounds_toArray, List.set_cons_zero, List.set_cons_succ])
 go_cut [22] (fun v22 wc => ∃ (kq : Nat) (x22_5 : Bool), v22 = .bool x22_5 ∧ Aside0 (fastjson_parseRawString.j0 kq a0 t168 x22_5 = some (r1, r2, r3)) ∧ Aside0 (kq ≤ k) ∧ Aside0 (Below w.heap.size w wc))
 case first =>
  have H := HC6.out
  clear HC6
  by_cases c7 : t168 = 0
  ·rw [if_pos c7] at H
   have c7b0 : (t168 == 0) = true := beq_iff_eq.mpr c7
   have c7b1 : (t168 != 0) = false := bne_eq_false_iff_eq.mpr c7
   clear c7
   (first | rw [c7b0] | (simp only [i64_w, i32_w]; rw [c7b0]) | rw [c7b1] | skip)
   have H' := Aside0.mk H
   clear H
   go_wp2
   repeat (go_quiet (fail); try go_wp2)
   go_meet
   case rel => exact ⟨_, (true), (by first | rfl | (simp; done) | (simp [*]; done)), H', ⟨by first | omega | exact Nat.le_refl _⟩, ⟨by repeat (first | (with_reducible first | exact HB.out | apply below_alloc | apply pw_below_drewN | apply below_drew1) | exact HB.out)⟩⟩
  rw [if_neg c7] at H
  have c7b0 : (t168 == 0) = false := beq_eq_false_iff_ne.mpr c7
  have c7b1 : (t168 != 0) = true := bne_iff_ne.mpr c7
  (first | rw [c7b0] | (simp only [i64_w, i32_w]; rw [c7b0]) | rw [c7b1] | skip)
  obtain ⟨ji8, hji8⟩ : ∃ j_ : Int, (wrap64 (t168 - 1)) = j_ := ⟨_, rfl⟩
  replace H : (if 0 ≤ (ji8) then (if (ji8) < (a0.size : Int) then (fastjson_parseRawString.j0 k a0 t168 ((bt a0 (ji8)) != 92)) else (none)) else (none)) = some (r1, r2, r3) := by first | (rw [hji8] at H; exact H) | (simp only [hji8] at H ⊢; exact H)
  have hji8w : (IntKind.i64.wrap (t168 - 1)) = ji8 := (i64_w _).trans hji8
  by_cases c9 : 0 ≤ (ji8)
  ·rw [if_pos c9] at H
   have c9b0 : decide (0 ≤ (ji8)) = true := decide_eq_true c9
   clear c9
   by_cases c10 : (ji8) < (a0.size : Int)
   ·rw [if_pos c10] at H
    have c10b0 : decide ((ji8) < (a0.size : Int)) = true := decide_eq_true c10
    clear c10
    have H' := Aside0.mk H
    clear H
    have p11 : 0 ≤ ((ji8) : Int) := of_decide_eq_true (by assumption)
    have q11 : (ji8) < (a0.size : Int) := of_decide_eq_true (by assumption)
    have hx11 := bt_at a0 (ji8)
    replace p11 := eq_true p11
    replace q11 := eq_true q11
    go_wp2
    repeat (go_quiet (fail); try go_wp2)
    go_meet
    case rel => exact ⟨_, (((bt a0 (ji8)) != 92)), (by first | rfl | (simp; done) | (simp only [← hji8] <;> (first | rfl | (simp; done))) | (simp [*]; done)), H', ⟨by first | omega | exact Nat.le_refl _⟩, ⟨by repeat (first | (with_reducible first | exact HB.out | apply below_alloc | apply pw_below_drewN | apply below_drew1) | exact HB.out)⟩⟩
   rw [if_neg c10] at H
   exact absurd H (by simp)
  rw [if_neg c9] at H
  exact absurd H (by simp)
 case rest =>
  clear HC6
  try clear c1
  try clear p1
  try clear q1
  try clear hx1
  try clear p2
  try clear c3
  try clear c3b0
  try clear p6
  try clear c7
  try clear c7b0
  try clear c7b1
  try clear c9
  try clear c9b0
  try clear c10
  try clear c10b0
  try clear p11
  try clear q11
  try clear hx11
  try clear p11
  try clear q11
  obtain ⟨kq, x22_5, rfl, HA, HJ5, HB⟩ := hcut
  cases kq with
  | zero => exact absurd HA.out (by simp [fastjson_parseRawString.j0])
  | succ kj5 =>
   have H := HA.out
   clear HA
   simp only [fastjson_parseRawString.j0] at H
   by_cases c12 : x22_5 = true
   ·subst c12
    have H1 : (if 0 ≤ t168 then (if t168 ≤ (a0.size : Int) then (if 0 ≤ (wrap64 (t168 + 1)) then (if (wrap64 (t168 + 1)) ≤ (a0.size : Int) then (some (a0.extract 0 (t168 : Int).toNat, a0.extract ((wrap64 (t168 + 1)) : Int).toNat a0.size, none)) else (none)) else (none)) else (none)) else (none)) = some (r1, r2, r3) := by rw [if_pos rfl] at H; exact H
    clear H
    have H := H1
    clear H1
    by_cases c13 : 0 ≤ t168
    ·rw [if_pos c13] at H
     have c13b0 := eq_true c13
     have c13b1 : decide (0 ≤ t168) = true := decide_eq_true c13
     clear c13
     by_cases c14 : t168 ≤ (a0.size : Int)
     ·rw [if_pos c14] at H
      have c14b0 := eq_true c14
      have c14b1 : decide (t168 ≤ (a0.size : Int)) = true := decide_eq_true c14
      clear c14
      obtain ⟨ji15, hji15⟩ : ∃ j_ : Int, (wrap64 (t168 + 1)) = j_ := ⟨_, rfl⟩
      replace H : (if 0 ≤ (ji15) then (if (ji15) ≤ (a0.size : Int) then (some (a0.extract 0 (t168 : Int).toNat, a0.extract ((ji15) : Int).toNat a0.size, none)) else (none)) else (none)) = some (r1, r2, r3) := by first | (rw [hji15] at H; exact H) | (simp only [hji15] at H ⊢; exact H)
      have hji15w : (IntKind.i64.wrap (t168 + 1)) = ji15 := (i64_w _).trans hji15
      by_cases c16 : 0 ≤ (ji15)
      ·rw [if_pos c16] at H
       have c16b0 := eq_true c16
       have c16b1 : decide (0 ≤ (ji15)) = true := decide_eq_true c16
       clear c16
       by_cases c17 : (ji15) ≤ (a0.size : Int)
       ·rw [if_pos c17] at H
        have c17b0 := eq_true c17
        have c17b1 : decide ((ji15) ≤ (a0.size : Int)) = true := decide_eq_true c17
        clear c17
        simp only [Option.some.injEq, Prod.mk.injEq] at H
        obtain ⟨rfl, rfl, rfl⟩ := H
        try have hcs18 := fun W_ : World => run_slice_string_h (P := Tryd.prog) W_ 9 a0 Tryd.underlying9 .i64 t168 (of_decide_eq_true (by assumption)) (of_decide_eq_true (by assumption))
        try have hcs19 := fun W_ : World => run_slice_string_l (P := Tryd.prog) W_ 9 a0 Tryd.underlying9 .i64 (ji15) (of_decide_eq_true (by assumption)) (of_decide_eq_true (by assumption))
        go_wp2
        repeat (go_quiet (fail); try go_wp2)
        go_ret3
        first | exact ⟨0, .nilIface, by first | rfl | (simp [errW_none, errW_some] <;> rfl) | (simp only [← hji15]; first | rfl | (simp [errW_none, errW_some] <;> rfl)) | (simp [*, errW_none, errW_some] <;> rfl) | (simp [errW_none, errW_some] <;> exact ⟨rfl, rfl⟩) | (simp [*, errW_none, errW_some] <;> exact ⟨rfl, rfl⟩), by repeat (first | (with_reducible first | exact HB.out | apply below_alloc | apply pw_below_drewN | apply below_drew1) | exact HB.out)⟩ | exact ⟨⟨0, .nilIface, by first | rfl | (simp [errW_none, errW_some] <;> rfl) | (simp only [← hji15]; first | rfl | (simp [errW_none, errW_some] <;> rfl)) | (simp [*, errW_none, errW_some] <;> rfl) | (simp [errW_none, errW_some] <;> exact ⟨rfl, rfl⟩) | (simp [*, errW_none, errW_some] <;> exact ⟨rfl, rfl⟩)⟩, by repeat (first | (with_reducible first | exact HB.out | apply below_alloc | apply pw_below_drewN | apply below_drew1) | exact HB.out)⟩
       rw [if_neg c17] at H
       exact absurd H (by simp)
      rw [if_neg c16] at H
      exact absurd H (by simp)
     rw [if_neg c14] at H
     exact absurd H (by simp)
    rw [if_neg c13] at H
    exact absurd H (by simp)
   replace c12 := Bool.eq_false_iff.mpr c12
   subst c12
   have H1 : (fastjson_parseRawString.l0 kj5 a0 t168 a0) = some (r1, r2, r3) := by rw [if_neg (show ¬ (false = true) by decide)] at H; exact H
   clear H
   have H := H1
   clear H1
   have H' := Aside0.mk H
   clear H
   go_wp2
   repeat (go_quiet (fail); try go_wp2)
   try simp only [Act.put, List.setIfInBounds_toArray, List.set_cons_succ, List.set_cons_zero]
   go_loopg [0, 5] kj5 (fun kq v0 v5 w' => ∃ (x0_2 : ByteArray) (x5_2 : Int), v0 = .string x0_2 ∧ v5 = .int .i64 x5_2 ∧ Aside0 (fastjson_parseRawString.l0 kq x0_2 x5_2 a0 = some (r1, r2, r3)) ∧ Aside0 (kq ≤ kj5) ∧ Aside0 (Below w.heap.size w w'))
   case atStart => exact ⟨(a0), (t168), (by first | rfl | (simp; done) | (simp [*]; done)), (by first | rfl | (simp; done) | (simp [*]; done)), H', ⟨Nat.le_refl _⟩, ⟨by repeat (first | (with_reducible first | exact HB.out | apply below_alloc | apply pw_below_drewN | apply below_drew1) | exact HB.out)⟩⟩
   case round =>
    clear H'
    try clear c1
    try clear p1
    try clear q1
    try clear hx1
    try clear p2
    try clear c3
    try clear c3b0
    try clear p6
    try clear c7
    try clear c7b0
    try clear c7b1
    try clear c9
    try clear c9b0
    try clear c10
    try clear c10b0
    try clear p11
    try clear q11
    try clear hx11
    try clear c12
    try clear c13
    try clear c13b0
    try clear c13b1
    try clear c14
    try clear c14b0
    try clear c14b1
    try clear c16
    try clear c16b0
    try clear c16b1
    try clear c17
    try clear c17b0
    try clear c17b1
    try clear p1
    try clear p11
    try clear p2
    try clear p6
    try clear q1
    try clear q11
    obtain ⟨x0_2, x5_2, rfl, rfl, HA, HK2, HB⟩ := hrel
    cases gk with
    | zero => exact absurd HA.out (by simp [fastjson_parseRawString.l0])
    | succ k2 =>
     have H := HA.out
     clear HA
     simp only [fastjson_parseRawString.l0] at H
     have HC20 := Aside0.mk H
     clear H
     go_upto_block 2 with (fail)
     repeat (go_quiet (fail); go_upto_block 2 with (fail))
     go_cut [7] (fun v7 wc => ∃ (kq : Nat) (x7_19 : Int), v7 = .int .i64 x7_19 ∧ Aside0 (fastjson_parseRawString.j3 kq x0_2 x5_2 a0 x7_19 = some (r1, r2, r3)) ∧ Aside0 (kq ≤ k2) ∧ Aside0 (Below w.heap.size w wc))
     case first =>
      have H := HC20.out
      clear HC20
      have H' := Aside0.mk H
      clear H
      go_wp2
      repeat (go_quiet (fail); try go_wp2)
      try simp only [Act.put, List.setIfInBounds_toArray, List.set_cons_succ, List.set_cons_zero]
      go_loopg [7] k2 (fun kq v7 w' => ∃ (x7_3 : Int), v7 = .int .i64 x7_3 ∧ Aside0 (fastjson_parseRawString.l1 kq x0_2 x5_2 a0 x7_3 = some (r1, r2, r3)) ∧ Aside0 (kq ≤ k2) ∧ Aside0 (Below w.heap.size w w'))
      case atStart => exact ⟨(wrap64 (x5_2 - 1)), (by first | rfl | (simp; done) | (simp [*]; done)), H', ⟨Nat.le_refl _⟩, ⟨by repeat (first | (with_reducible first | exact HB.out | apply below_alloc | apply pw_below_drewN | apply below_drew1) | exact HB.out)⟩⟩
      case round =>
       clear H'
       try clear c1
       try clear p1
       try clear q1
       try clear hx1
       try clear p2
       try clear c3
       try clear c3b0
       try clear p6
       try clear c7
       try clear c7b0
       try clear c7b1
       try clear c9
       try clear c9b0
       try clear c10
       try clear c10b0
       try clear p11
       try clear q11
       try clear hx11
       try clear c12
       try clear c13
       try clear c13b0
       try clear c13b1
       try clear c14
       try clear c14b0
       try clear c14b1
       try clear c16
       try clear c16b0
       try clear c16b1
       try clear c17
       try clear c17b0
       try clear c17b1
       try clear p1
       try clear p11
       try clear p2
       try clear p6
       try clear q1
       try clear q11
       obtain ⟨x7_3, rfl, HA, HK3, HB⟩ := hrel
       cases gk with
       | zero => exact absurd HA.out (by simp [fastjson_parseRawString.l1])
       | succ k3 =>
        have H := HA.out
        clear HA
        simp only [fastjson_parseRawString.l1] at H
        by_cases c21 : x7_3 > 0
        ·rw [if_pos c21] at H
         have c21b0 : decide (0 < x7_3) = true := decide_eq_true c21
         clear c21
         (first | rw [c21b0] | (simp only [i64_w, i32_w]; rw [c21b0]) | rw [c21b1] | skip)
         obtain ⟨ji22, hji22⟩ : ∃ j_ : Int, (wrap64 (x7_3 - 1)) = j_ := ⟨_, rfl⟩
         replace H : (if 0 ≤ (ji22) then (if (ji22) < (x0_2.size : Int) then (if (bt x0_2 (ji22)) = 92 then (fastjson_parseRawString.l1 k3 x0_2 x5_2 a0 ji22) else (fastjson_parseRawString.j3 k3 x0_2 x5_2 a0 x7_3)) else (none)) else (none)) = some (r1, r2, r3) := by first | (rw [hji22] at H; exact H) | (simp only [hji22] at H ⊢; exact H)
         have hji22w : (IntKind.i64.wrap (x7_3 - 1)) = ji22 := (i64_w _).trans hji22
         by_cases c23 : 0 ≤ (ji22)
         ·rw [if_pos c23] at H
          have c23b0 : decide (0 ≤ (ji22)) = true := decide_eq_true c23
          clear c23
          by_cases c24 : (ji22) < (x0_2.size : Int)
          ·rw [if_pos c24] at H
           have c24b0 : decide ((ji22) < (x0_2.size : Int)) = true := decide_eq_true c24
           clear c24
           by_cases c26 : (bt x0_2 (ji22)) = 92
           ·rw [if_pos c26] at H
            have c26b0 : ((bt x0_2 (ji22)) == 92) = true := beq_iff_eq.mpr c26
            have c26b1 : ((bt x0_2 (ji22)) != 92) = false := bne_eq_false_iff_eq.mpr c26
            clear c26
            have H' := Aside0.mk H
            clear H
            have p25 : 0 ≤ ((ji22) : Int) := of_decide_eq_true (by assumption)
            have q25 : (ji22) < (x0_2.size : Int) := of_decide_eq_true (by assumption)
            have hx25 := bt_at x0_2 (ji22)
            replace p25 := eq_true p25
            replace q25 := eq_true q25
            go_wp2
            repeat (go_quiet (fail); try go_wp2)
            go_roundg k3
            case measure => have := HJ5.out; have := HK2.out; have := HK3.out; omega
            case rel => exact ⟨(ji22), (by first | rfl | (simp; done) | (simp only [← hji22] <;> (first | rfl | (simp; done))) | (simp [*]; done)), H', ⟨by have := HJ5.out; have := HK2.out; have := HK3.out; omega⟩, ⟨by repeat (first | (with_reducible first | exact HB.out | apply below_alloc | apply pw_below_drewN | apply below_drew1) | exact HB.out)⟩⟩
           rw [if_neg c26] at H
           have c26b0 : ((bt x0_2 (ji22)) == 92) = false := beq_eq_false_iff_ne.mpr c26
           have c26b1 : ((bt x0_2 (ji22)) != 92) = true := bne_iff_ne.mpr c26
           have H' := Aside0.mk H
           clear H
           have p25 : 0 ≤ ((ji22) : Int) := of_decide_eq_true (by assumption)
           have q25 : (ji22) < (x0_2.size : Int) := of_decide_eq_true (by assumption)
           have hx25 := bt_at x0_2 (ji22)
           replace p25 := eq_true p25
           replace q25 := eq_true q25
           go_wp2
           repeat (go_quiet (fail); try go_wp2)
           go_meet
           case rel => exact ⟨_, (x7_3), (by first | rfl | (simp; done) | (simp [*]; done)), H', ⟨by have := HJ5.out; have := HK2.out; have := HK3.out; first | omega | exact Nat.le_refl _⟩, ⟨by repeat (first | (with_reducible first | exact HB.out | apply below_alloc | apply pw_below_drewN | apply below_drew1) | exact HB.out)⟩⟩
          rw [if_neg c24] at H
          exact absurd H (by simp)
         rw [if_neg c23] at H
         exact absurd H (by simp)
        rw [if_neg c21] at H
        have c21b0 : decide (0 < x7_3) = false := decide_eq_false c21
        clear c21
        (first | rw [c21b0] | (simp only [i64_w, i32_w]; rw [c21b0]) | rw [c21b1] | skip)
        have H' := Aside0.mk H
        clear H
        go_wp2
        repeat (go_quiet (fail); try go_wp2)
        go_meet
        case rel => exact ⟨_, (x7_3), (by first | rfl | (simp; done) | (simp [*]; done)), H', ⟨by have := HJ5.out; have := HK2.out; have := HK3.out; first | omega | exact Nat.le_refl _⟩, ⟨by repeat (first | (with_reducible first | exact HB.out | apply below_alloc | apply pw_below_drewN | apply below_drew1) | exact HB.out)⟩⟩
     case rest =>
      clear HC20
      try clear c1
      try clear p1
      try clear q1
      try clear hx1
      try clear c2
      try clear p2
      try clear q2
      try clear hx2
      try clear c3
      try clear c3b0
      try clear p6
      try clear c7
      try clear c7b0
      try clear c7b1
      try clear c9
      try clear c9b0
      try clear c10
      try clear c10b0
      try clear p11
      try clear q11
      try clear hx11
      try clear c12
      try clear c13
      try clear c13b0
      try clear c13b1
      try clear c14
      try clear c14b0
      try clear c14b1
      try clear c16
      try clear c16b0
      try clear c16b1
      try clear c17
      try clear c17b0
      try clear c17b1
      try clear c21
      try clear c21b0
      try clear c21b1
      try clear c23
      try clear c23b0
      try clear c24
      try clear c24b0
      try clear p25
      try clear q25
      try clear hx25
      try clear c26
      try clear c26b0
      try clear c26b1
      try clear p1
      try clear p11
      try clear p2
      try clear p25
      try clear p6
      try clear q1
      try clear q11
      try clear q25
      obtain ⟨kq, x7_19, rfl, HA, HJ19, HB⟩ := hcut
      cases kq with
      | zero => exact absurd HA.out (by simp [fastjson_parseRawString.j3])
      | succ kj19 =>
       have H := HA.out
       clear HA
       simp only [fastjson_parseRawString.j3] at H
       by_cases c27 : (Int.tmod (IntKind.u64.wrap (wrap64 (x5_2 - x7_19))) 2) = 0
       ·rw [if_pos c27] at H
        have c27b0 : ((Int.tmod (IntKind.u64.wrap (wrap64 (x5_2 - x7_19))) 2) == 0) = true := beq_iff_eq.mpr c27
        have c27b1 : ((Int.tmod (IntKind.u64.wrap (wrap64 (x5_2 - x7_19))) 2) != 0) = false := bne_eq_false_iff_eq.mpr c27
        clear c27
        obtain ⟨ji28, hji28⟩ : ∃ j_ : Int, (wrap64 ((wrap64 ((a0.size : Int) - (x0_2.size : Int))) + x5_2)) = j_ := ⟨_, rfl⟩
        replace H : (if 0 ≤ (ji28) then (if (ji28) ≤ (a0.size : Int) then (if 0 ≤ (wrap64 (x5_2 + 1)) then (if (wrap64 (x5_2 + 1)) ≤ (x0_2.size : Int) then (some (a0.extract 0 ((ji28) : Int).toNat, x0_2.extract ((wrap64 (x5_2 + 1)) : Int).toNat x0_2.size, none)) else (none)) else (none)) else (none)) else (none)) = some (r1, r2, r3) := by first | (rw [hji28] at H; exact H) | (simp only [hji28] at H ⊢; exact H)
        have hji28w : (IntKind.i64.wrap ((wrap64 ((a0.size : Int) - (x0_2.size : Int))) + x5_2)) = ji28 := (i64_w _).trans hji28
        by_cases c29 : 0 ≤ (ji28)
        ·rw [if_pos c29] at H
         have c29b0 := eq_true c29
         have c29b1 : decide (0 ≤ (ji28)) = true := decide_eq_true c29
         clear c29
         by_cases c30 : (ji28) ≤ (a0.size : Int)
         ·rw [if_pos c30] at H
          have c30b0 := eq_true c30
          have c30b1 : decide ((ji28) ≤ (a0.size : Int)) = true := decide_eq_true c30
          clear c30
          obtain ⟨ji31, hji31⟩ : ∃ j_ : Int, (wrap64 (x5_2 + 1)) = j_ := ⟨_, rfl⟩
          replace H : (if 0 ≤ (ji31) then (if (ji31) ≤ (x0_2.size : Int) then (some (a0.extract 0 ((ji28) : Int).toNat, x0_2.extract ((ji31) : Int).toNat x0_2.size, none)) else (none)) else (none)) = some (r1, r2, r3) := by first | (rw [hji31] at H; exact H) | (simp only [hji31] at H ⊢; exact H)
          have hji31w : (IntKind.i64.wrap (x5_2 + 1)) = ji31 := (i64_w _).trans hji31
          by_cases c32 : 0 ≤ (ji31)
          ·rw [if_pos c32] at H
           have c32b0 := eq_true c32
           have c32b1 : decide (0 ≤ (ji31)) = true := decide_eq_true c32
           clear c32
           by_cases c33 : (ji31) ≤ (x0_2.size : Int)
           ·rw [if_pos c33] at H
            have c33b0 := eq_true c33
            have c33b1 : decide ((ji31) ≤ (x0_2.size : Int)) = true := decide_eq_true c33
            clear c33
            simp only [Option.some.injEq, Prod.mk.injEq] at H
            obtain ⟨rfl, rfl, rfl⟩ := H
            try have hcs34 := fun W_ : World => run_slice_string_h (P := Tryd.prog) W_ 9 a0 Tryd.underlying9 .i64 (ji28) (of_decide_eq_true (by assumption)) (of_decide_eq_true (by assumption))
            try have hcs35 := fun W_ : World => run_slice_string_l (P := Tryd.prog) W_ 9 x0_2 Tryd.underlying9 .i64 (ji31) (of_decide_eq_true (by assumption)) (of_decide_eq_true (by assumption))
            go_wp2
            repeat (go_quiet (fail); try go_wp2)
            go_ret3
            first | exact ⟨0, .nilIface, by first | rfl | (simp [errW_none, errW_some] <;> rfl) | (simp only [← hji28, ← hji31]; first | rfl | (simp [errW_none, errW_some] <;> rfl)) | (simp [*, errW_none, errW_some] <;> rfl) | (simp [errW_none, errW_some] <;> exact ⟨rfl, rfl⟩) | (simp [*, errW_none, errW_some] <;> exact ⟨rfl, rfl⟩), by repeat (first | (with_reducible first | exact HB.out | apply below_alloc | apply pw_below_drewN | apply below_drew1) | exact HB.out)⟩ | exact ⟨⟨0, .nilIface, by first | rfl | (simp [errW_none, errW_some] <;> rfl) | (simp only [← hji28, ← hji31]; first | rfl | (simp [errW_none, errW_some] <;> rfl)) | (simp [*, errW_none, errW_some] <;> rfl) | (simp [errW_none, errW_some] <;> exact ⟨rfl, rfl⟩) | (simp [*, errW_none, errW_some] <;> exact ⟨rfl, rfl⟩)⟩, by repeat (first | (with_reducible first | exact HB.out | apply below_alloc | apply pw_below_drewN | apply below_drew1) | exact HB.out)⟩
           rw [if_neg c33] at H
           exact absurd H (by simp)
          rw [if_neg c32] at H
          exact absurd H (by simp)
         rw [if_neg c30] at H
         exact absurd H (by simp)
        rw [if_neg c29] at H
        exact absurd H (by simp)
       rw [if_neg c27] at H
       have c27b0 : ((Int.tmod (IntKind.u64.wrap (wrap64 (x5_2 - x7_19))) 2) == 0) = false := beq_eq_false_iff_ne.mpr c27
       have c27b1 : ((Int.tmod (IntKind.u64.wrap (wrap64 (x5_2 - x7_19))) 2) != 0) = true := bne_iff_ne.mpr c27
       obtain ⟨ji36, hji36⟩ : ∃ j_ : Int, (wrap64 (x5_2 + 1)) = j_ := ⟨_, rfl⟩
       replace H : (if 0 ≤ (ji36) then (if (ji36) ≤ (x0_2.size : Int) then ((strings_IndexByte.f (x0_2.extract ((ji36) : Int).toNat x0_2.size) 34).bind fun t170 => (if t170 < 0 then ((errors_New.f (⟨#[109, 105, 115, 115, 105, 110, 103, 32, 99, 108, 111, 115, 105, 110, 103]⟩ : ByteArray)).bind fun t171 => (some (a0, (⟨#[]⟩ : ByteArray), t171))) else (if t170 = 0 then (if 0 ≤ (wrap64 ((wrap64 ((a0.size : Int) - ((x0_2.extract ((ji36) : Int).toNat x0_2.size).size : Int))) + t170)) then (if (wrap64 ((wrap64 ((a0.size : Int) - ((x0_2.extract ((ji36) : Int).toNat x0_2.size).size : Int))) + t170)) ≤ (a0.size : Int) then (if 0 ≤ (wrap64 (t170 + 1)) then (if (wrap64 (t170 + 1)) ≤ ((x0_2.extract ((ji36) : Int).toNat x0_2.size).size : Int) then (some (a0.extract 0 ((wrap64 ((wrap64 ((a0.size : Int) - ((x0_2.extract ((ji36) : Int).toNat x0_2.size).size : Int))) + t170)) : Int).toNat, (x0_2.extract ((ji36) : Int).toNat x0_2.size).extract ((wrap64 (t170 + 1)) : Int).toNat (x0_2.extract ((ji36) : Int).toNat x0_2.size).size, none)) else (none)) else (none)) else (none)) else (none)) else (if 0 ≤ (wrap64 (t170 - 1)) then (if (wrap64 (t170 - 1)) < ((x0_2.extract ((ji36) : Int).toNat x0_2.size).size : Int) then (if (bt (x0_2.extract ((ji36) : Int).toNat x0_2.size) (wrap64 (t170 - 1))) = 92 then (fastjson_parseRawString.l0 kj19 (x0_2.extract ((ji36) : Int).toNat x0_2.size) t170 a0) else (if 0 ≤ (wrap64 ((wrap64 ((a0.size : Int) - ((x0_2.extract ((ji36) : Int).toNat x0_2.size).size : Int))) + t170)) then (if (wrap64 ((wrap64 ((a0.size : Int) - ((x0_2.extract ((ji36) : Int).toNat x0_2.size).size : Int))) + t170)) ≤ (a0.size : Int) then (if 0 ≤ (wrap64 (t170 + 1)) then (if (wrap64 (t170 + 1)) ≤ ((x0_2.extract ((ji36) : Int).toNat x0_2.size).size : Int) then (some (a0.extract 0 ((wrap64 ((wrap64 ((a0.size : Int) - ((x0_2.extract ((ji36) : Int).toNat x0_2.size).size : Int))) + t170)) : Int).toNat, (x0_2.extract ((ji36) : Int).toNat x0_2.size).extract ((wrap64 (t170 + 1)) : Int).toNat (x0_2.extract ((ji36) : Int).toNat x0_2.size).size, none)) else (none)) else (none)) else (none)) else (none))) else (none)) else (none))))) else (none)) else (none)) = some (r1, r2, r3) := by first | (rw [hji36] at H; exact H) | (simp only [hji36] at H ⊢; exact H)
       have hji36w : (IntKind.i64.wrap (x5_2 + 1)) = ji36 := (i64_w _).trans hji36
       by_cases c37 : 0 ≤ (ji36)
       ·rw [if_pos c37] at H
        have c37b0 := eq_true c37
        have c37b1 : decide (0 ≤ (ji36)) = true := decide_eq_true c37
        clear c37
        by_cases c38 : (ji36) ≤ (x0_2.size : Int)
        ·rw [if_pos c38] at H
         have c38b0 := eq_true c38
         have c38b1 : decide ((ji36) ≤ (x0_2.size : Int)) = true := decide_eq_true c38
         clear c38
         obtain ⟨js39, hjs39⟩ : ∃ z_ : ByteArray, (x0_2.extract ((ji36) : Int).toNat x0_2.size) = z_ := ⟨_, rfl⟩
         replace H : ((strings_IndexByte.f js39 34).bind fun t170 => (if t170 < 0 then ((errors_New.f (⟨#[109, 105, 115, 115, 105, 110, 103, 32, 99, 108, 111, 115, 105, 110, 103]⟩ : ByteArray)).bind fun t171 => (some (a0, (⟨#[]⟩ : ByteArray), t171))) else (if t170 = 0 then (if 0 ≤ (wrap64 ((wrap64 ((a0.size : Int) - (js39.size : Int))) + t170)) then (if (wrap64 ((wrap64 ((a0.size : Int) - (js39.size : Int))) + t170)) ≤ (a0.size : Int) then (if 0 ≤ (wrap64 (t170 + 1)) then (if (wrap64 (t170 + 1)) ≤ (js39.size : Int) then (some (a0.extract 0 ((wrap64 ((wrap64 ((a0.size : Int) - (js39.size : Int))) + t170)) : Int).toNat, js39.extract ((wrap64 (t170 + 1)) : Int).toNat js39.size, none)) else (none)) else (none)) else (none)) else (none)) else (if 0 ≤ (wrap64 (t170 - 1)) then (if (wrap64 (t170 - 1)) < (js39.size : Int) then (if (bt js39 (wrap64 (t170 - 1))) = 92 then (fastjson_parseRawString.l0 kj19 js39 t170 a0) else (if 0 ≤ (wrap64 ((wrap64 ((a0.size : Int) - (js39.size : Int))) + t170)) then (if (wrap64 ((wrap64 ((a0.size : Int) - (js39.size : Int))) + t170)) ≤ (a0.size : Int) then (if 0 ≤ (wrap64 (t170 + 1)) then (if (wrap64 (t170 + 1)) ≤ (js39.size : Int) then (some (a0.extract 0 ((wrap64 ((wrap64 ((a0.size : Int) - (js39.size : Int))) + t170)) : Int).toNat, js39.extract ((wrap64 (t170 + 1)) : Int).toNat js39.size, none)) else (none)) else (none)) else (none)) else (none))) else (none)) else (none))))) = some (r1, r2, r3) := by first | (rw [hjs39] at H; exact H) | (simp only [hjs39] at H ⊢; exact H)
         replace H := Option.bind_eq_some_iff.mp H
         obtain ⟨t170, A400, H⟩ := H
         replace H : (if t170 < 0 then ((errors_New.f (⟨#[109, 105, 115, 115, 105, 110, 103, 32, 99, 108, 111, 115, 105, 110, 103]⟩ : ByteArray)).bind fun t171 => (some (a0, (⟨#[]⟩ : ByteArray), t171))) else (if t170 = 0 then (if 0 ≤ (wrap64 ((wrap64 ((a0.size : Int) - (js39.size : Int))) + t170)) then (if (wrap64 ((wrap64 ((a0.size : Int) - (js39.size : Int))) + t170)) ≤ (a0.size : Int) then (if 0 ≤ (wrap64 (t170 + 1)) then (if (wrap64 (t170 + 1)) ≤ (js39.size : Int) then (some (a0.extract 0 ((wrap64 ((wrap64 ((a0.size : Int) - (js39.size : Int))) + t170)) : Int).toNat, js39.extract ((wrap64 (t170 + 1)) : Int).toNat js39.size, none)) else (none)) else (none)) else (none)) else (none)) else (if 0 ≤ (wrap64 (t170 - 1)) then (if (wrap64 (t170 - 1)) < (js39.size : Int) then (if (bt js39 (wrap64 (t170 - 1))) = 92 then (fastjson_parseRawString.l0 kj19 js39 t170 a0) else (if 0 ≤ (wrap64 ((wrap64 ((a0.size : Int) - (js39.size : Int))) + t170)) then (if (wrap64 ((wrap64 ((a0.size : Int) - (js39.size : Int))) + t170)) ≤ (a0.size : Int) then (if 0 ≤ (wrap64 (t170 + 1)) then (if (wrap64 (t170 + 1)) ≤ (js39.size : Int) then (some (a0.extract 0 ((wrap64 ((wrap64 ((a0.size : Int) - (js39.size : Int))) + t170)) : Int).toNat, js39.extract ((wrap64 (t170 + 1)) : Int).toNat js39.size, none)) else (none)) else (none)) else (none)) else (none))) else (none)) else (none)))) = some (r1, r2, r3) := H
         have A40 := Aside0.mk A400
         clear A400
         by_cases c41 : t170 < 0
         ·rw [if_pos c41] at H
          have c41b0 : decide (t170 < 0) = true := decide_eq_true c41
          clear c41
          replace H := Option.bind_eq_some_iff.mp H
          obtain ⟨t171, A420, H⟩ := H
          replace H : (some (a0, (⟨#[]⟩ : ByteArray), t171)) = some (r1, r2, r3) := H
          have A42 := Aside0.mk A420
          clear A420
          simp only [Option.some.injEq, Prod.mk.injEq] at H
          obtain ⟨rfl, rfl, rfl⟩ := H
          try have hcs43 := fun W_ : World => run_slice_string_l (P := Tryd.prog) W_ 9 x0_2 Tryd.underlying9 .i64 (ji36) (of_decide_eq_true (by assumption)) (of_decide_eq_true (by assumption))
          (try simp only [hjs39] at hcs43)
          go_wp2_with (first | (go_at_call 87; (with_reducible refine (strings_IndexByte.calls js39 34 t170 _ A40.out).mono ?_); rintro e w' ⟨rfl, ⟨nd, rfl⟩⟩; (try first | exact ⟨rfl, _, World.drewN_drewN _ _ _⟩ | exact ⟨rfl, _, Eq.trans (World.drewN_drewN _ _ _) (congrArg (World.drewN _) (Nat.add_assoc _ _ _))⟩)) | (go_at_call 41; (with_reducible refine (errors_New.calls (⟨#[109, 105, 115, 115, 105, 110, 103, 32, 99, 108, 111, 115, 105, 110, 103]⟩ : ByteArray) t171 _ A42.out).mono ?_); rintro e w44 ⟨et_A42_0, ep_A42_0, rfl, hb⟩; have n0_ := Aside0.mk (below_step (by repeat (first | (with_reducible first | exact HB.out | apply below_alloc | apply pw_below_drewN | apply below_drew1) | exact HB.out)) hb); clear HB; have HB := n0_; clear n0_; (try clear hb); (try clear hb2); (try clear hk); (try clear hi); (try simp only [errW_none, errW_some, errX_none, errX_some])))
          repeat (go_quiet (first | (go_at_call 87; (with_reducible refine (strings_IndexByte.calls js39 34 t170 _ A40.out).mono ?_); rintro e w' ⟨rfl, ⟨nd, rfl⟩⟩; (try first | exact ⟨rfl, _, World.drewN_drewN _ _ _⟩ | exact ⟨rfl, _, Eq.trans (World.drewN_drewN _ _ _) (congrArg (World.drewN _) (Nat.add_assoc _ _ _))⟩)) | (go_at_call 41; (with_reducible refine (errors_New.calls (⟨#[109, 105, 115, 115, 105, 110, 103, 32, 99, 108, 111, 115, 105, 110, 103]⟩ : ByteArray) t171 _ A42.out).mono ?_); rintro e w44 ⟨et_A42_0, ep_A42_0, rfl, hb⟩; have n0_ := Aside0.mk (below_step (by repeat (first | (with_reducible first | exact HB.out | apply below_alloc | apply pw_below_drewN | apply below_drew1) | exact HB.out)) hb); clear HB; have HB := n0_; clear n0_; (try clear hb); (try clear hb2); (try clear hk); (try clear hi); (try simp only [errW_none, errW_some, errX_none, errX_some]))); try go_wp2_with (first | (go_at_call 87; (with_reducible refine (strings_IndexByte.calls js39 34 t170 _ A40.out).mono ?_); rintro e w' ⟨rfl, ⟨nd, rfl⟩⟩; (try first | exact ⟨rfl, _, World.drewN_drewN _ _ _⟩ | exact ⟨rfl, _, Eq.trans (World.drewN_drewN _ _ _) (congrArg (World.drewN _) (Nat.add_assoc _ _ _))⟩)) | (go_at_call 41; (with_reducible refine (errors_New.calls (⟨#[109, 105, 115, 115, 105, 110, 103, 32, 99, 108, 111, 115, 105, 110, 103]⟩ : ByteArray) t171 _ A42.out).mono ?_); rintro e w44 ⟨et_A42_0, ep_A42_0, rfl, hb⟩; have n0_ := Aside0.mk (below_step (by repeat (first | (with_reducible first | exact HB.out | apply below_alloc | apply pw_below_drewN | apply below_drew1) | exact HB.out)) hb); clear HB; have HB := n0_; clear n0_; (try clear hb); (try clear hb2); (try clear hk); (try clear hi); (try simp only [errW_none, errW_some, errX_none, errX_some]))))
          go_ret3
          first | exact ⟨et_A42_0, ep_A42_0, by first | rfl | (simp [errW_none, errW_some] <;> rfl) | (simp only [← hji36]; first | rfl | (simp [errW_none, errW_some] <;> rfl)) | (simp [*, errW_none, errW_some] <;> rfl) | (simp [errW_none, errW_some] <;> exact ⟨rfl, rfl⟩) | (simp [*, errW_none, errW_some] <;> exact ⟨rfl, rfl⟩), by repeat (first | (with_reducible first | exact HB.out | apply below_alloc | apply pw_below_drewN | apply below_drew1) | exact HB.out)⟩ | exact ⟨⟨et_A42_0, ep_A42_0, by first | rfl | (simp [errW_none, errW_some] <;> rfl) | (simp only [← hji36]; first | rfl | (simp [errW_none, errW_some] <;> rfl)) | (simp [*, errW_none, errW_some] <;> rfl) | (simp [errW_none, errW_some] <;> exact ⟨rfl, rfl⟩) | (simp [*, errW_none, errW_some] <;> exact ⟨rfl, rfl⟩)⟩, by repeat (first | (with_reducible first | exact HB.out | apply below_alloc | apply pw_below_drewN | apply below_drew1) | exact HB.out)⟩
         rw [if_neg c41] at H
         have c41b0 : decide (t170 < 0) = false := decide_eq_false c41
         clear c41
         by_cases c45 : t170 = 0
         ·rw [if_pos c45] at H
          have c45b0 : (t170 == 0) = true := beq_iff_eq.mpr c45
          have c45b1 : (t170 != 0) = false := bne_eq_false_iff_eq.mpr c45
          clear c45
          obtain ⟨ji46, hji46⟩ : ∃ j_ : Int, (wrap64 ((wrap64 ((a0.size : Int) - (js39.size : Int))) + t170)) = j_ := ⟨_, rfl⟩
          replace H : (if 0 ≤ (ji46) then (if (ji46) ≤ (a0.size : Int) then (if 0 ≤ (wrap64 (t170 + 1)) then (if (wrap64 (t170 + 1)) ≤ (js39.size : Int) then (some (a0.extract 0 ((ji46) : Int).toNat, js39.extract ((wrap64 (t170 + 1)) : Int).toNat js39.size, none)) else (none)) else (none)) else (none)) else (none)) = some (r1, r2, r3) := by first | (rw [hji46] at H; exact H) | (simp only [hji46] at H ⊢; exact H)
          (try rw [hji46] at hjs39)
          (try rw [hji46] at A40)
          have hji46w : (IntKind.i64.wrap ((wrap64 ((a0.size : Int) - (js39.size : Int))) + t170)) = ji46 := (i64_w _).trans hji46
          by_cases c47 : 0 ≤ (ji46)
          ·rw [if_pos c47] at H
           have c47b0 := eq_true c47
           have c47b1 : decide (0 ≤ (ji46)) = true := decide_eq_true c47
           clear c47
           by_cases c48 : (ji46) ≤ (a0.size : Int)
           ·rw [if_pos c48] at H
            have c48b0 := eq_true c48
            have c48b1 : decide ((ji46) ≤ (a0.size : Int)) = true := decide_eq_true c48
            clear c48
            obtain ⟨ji49, hji49⟩ : ∃ j_ : Int, (wrap64 (t170 + 1)) = j_ := ⟨_, rfl⟩
            replace H : (if 0 ≤ (ji49) then (if (ji49) ≤ (js39.size : Int) then (some (a0.extract 0 ((ji46) : Int).toNat, js39.extract ((ji49) : Int).toNat js39.size, none)) else (none)) else (none)) = some (r1, r2, r3) := by first | (rw [hji49] at H; exact H) | (simp only [hji49] at H ⊢; exact H)
            (try rw [hji49] at hjs39)
            (try rw [hji49] at A40)
            have hji49w : (IntKind.i64.wrap (t170 + 1)) = ji49 := (i64_w _).trans hji49
            by_cases c50 : 0 ≤ (ji49)
            ·rw [if_pos c50] at H
             have c50b0 := eq_true c50
             have c50b1 : decide (0 ≤ (ji49)) = true := decide_eq_true c50
             clear c50
             by_cases c51 : (ji49) ≤ (js39.size : Int)
             ·rw [if_pos c51] at H
              have c51b0 := eq_true c51
              have c51b1 : decide ((ji49) ≤ (js39.size : Int)) = true := decide_eq_true c51
              clear c51
              simp only [Option.some.injEq, Prod.mk.injEq] at H
              obtain ⟨rfl, rfl, rfl⟩ := H
              try have hcs52 := fun W_ : World => run_slice_string_l (P := Tryd.prog) W_ 9 x0_2 Tryd.underlying9 .i64 (ji36) (of_decide_eq_true (by assumption)) (of_decide_eq_true (by assumption))
              (try simp only [hjs39] at hcs52)
              go_wp2_with (first | (go_at_call 87; (with_reducible refine (strings_IndexByte.calls js39 34 t170 _ A40.out).mono ?_); rintro e w' ⟨rfl, ⟨nd, rfl⟩⟩; (try first | exact ⟨rfl, _, World.drewN_drewN _ _ _⟩ | exact ⟨rfl, _, Eq.trans (World.drewN_drewN _ _ _) (congrArg (World.drewN _) (Nat.add_assoc _ _ _))⟩); try have hcs53 := fun W_ : World => run_slice_string_h (P := Tryd.prog) W_ 9 a0 Tryd.underlying9 .i64 (ji46) (of_decide_eq_true (by assumption)) (of_decide_eq_true (by assumption)); try have hcs54 := fun W_ : World => run_slice_string_l (P := Tryd.prog) W_ 9 js39 Tryd.underlying9 .i64 (ji49) (of_decide_eq_true (by assumption)) (of_decide_eq_true (by assumption))))
              repeat (go_quiet (first | (go_at_call 87; (with_reducible refine (strings_IndexByte.calls js39 34 t170 _ A40.out).mono ?_); rintro e w' ⟨rfl, ⟨nd, rfl⟩⟩; (try first | exact ⟨rfl, _, World.drewN_drewN _ _ _⟩ | exact ⟨rfl, _, Eq.trans (World.drewN_drewN _ _ _) (congrArg (World.drewN _) (Nat.add_assoc _ _ _))⟩); try have hcs53 := fun W_ : World => run_slice_string_h (P := Tryd.prog) W_ 9 a0 Tryd.underlying9 .i64 (ji46) (of_decide_eq_true (by assumption)) (of_decide_eq_true (by assumption)); try have hcs54 := fun W_ : World => run_slice_string_l (P := Tryd.prog) W_ 9 js39 Tryd.underlying9 .i64 (ji49) (of_decide_eq_true (by assumption)) (of_decide_eq_true (by assumption)))); try go_wp2_with (first | (go_at_call 87; (with_reducible refine (strings_IndexByte.calls js39 34 t170 _ A40.out).mono ?_); rintro e w' ⟨rfl, ⟨nd, rfl⟩⟩; (try first | exact ⟨rfl, _, World.drewN_drewN _ _ _⟩ | exact ⟨rfl, _, Eq.trans (World.drewN_drewN _ _ _) (congrArg (World.drewN _) (Nat.add_assoc _ _ _))⟩); try have hcs53 := fun W_ : World => run_slice_string_h (P := Tryd.prog) W_ 9 a0 Tryd.underlying9 .i64 (ji46) (of_decide_eq_true (by assumption)) (of_decide_eq_true (by assumption)); try have hcs54 := fun W_ : World => run_slice_string_l (P := Tryd.prog) W_ 9 js39 Tryd.underlying9 .i64 (ji49) (of_decide_eq_true (by assumption)) (of_decide_eq_true (by assumption)))))
              go_ret3
              first | exact ⟨0, .nilIface, by first | rfl | (simp [errW_none, errW_some] <;> rfl) | (simp only [← hji36, ← hji46, ← hji49]; first | rfl | (simp [errW_none, errW_some] <;> rfl)) | (simp [*, errW_none, errW_some] <;> rfl) | (simp [errW_none, errW_some] <;> exact ⟨rfl, rfl⟩) | (simp [*, errW_none, errW_some] <;> exact ⟨rfl, rfl⟩), by repeat (first | (with_reducible first | exact HB.out | apply below_alloc | apply pw_below_drewN | apply below_drew1) | exact HB.out)⟩ | exact ⟨⟨0, .nilIface, by first | rfl | (simp [errW_none, errW_some] <;> rfl) | (simp only [← hji36, ← hji46, ← hji49]; first | rfl | (simp [errW_none, errW_some] <;> rfl)) | (simp [*, errW_none, errW_some] <;> rfl) | (simp [errW_none, errW_some] <;> exact ⟨rfl, rfl⟩) | (simp [*, errW_none, errW_some] <;> exact ⟨rfl, rfl⟩)⟩, by repeat (first | (with_reducible first | exact HB.out | apply below_alloc | apply pw_below_drewN | apply below_drew1) | exact HB.out)⟩
             rw [if_neg c51] at H
             exact absurd H (by simp)
            rw [if_neg c50] at H
            exact absurd H (by simp)
           rw [if_neg c48] at H
           exact absurd H (by simp)
          rw [if_neg c47] at H
          exact absurd H (by simp)
         rw [if_neg c45] at H
         have c45b0 : (t170 == 0) = false := beq_eq_false_iff_ne.mpr c45
         have c45b1 : (t170 != 0) = true := bne_iff_ne.mpr c45
         obtain ⟨ji55, hji55⟩ : ∃ j_ : Int, (wrap64 (t170 - 1)) = j_ := ⟨_, rfl⟩
         replace H : (if 0 ≤ (ji55) then (if (ji55) < (js39.size : Int) then (if (bt js39 (ji55)) = 92 then (fastjson_parseRawString.l0 kj19 js39 t170 a0) else (if 0 ≤ (wrap64 ((wrap64 ((a0.size : Int) - (js39.size : Int))) + t170)) then (if (wrap64 ((wrap64 ((a0.size : Int) - (js39.size : Int))) + t170)) ≤ (a0.size : Int) then (if 0 ≤ (wrap64 (t170 + 1)) then (if (wrap64 (t170 + 1)) ≤ (js39.size : Int) then (some (a0.extract 0 ((wrap64 ((wrap64 ((a0.size : Int) - (js39.size : Int))) + t170)) : Int).toNat, js39.extract ((wrap64 (t170 + 1)) : Int).toNat js39.size, none)) else (none)) else (none)) else (none)) else (none))) else (none)) else (none)) = some (r1, r2, r3) := by first | (rw [hji55] at H; exact H) | (simp only [hji55] at H ⊢; exact H)
         (try rw [hji55] at hjs39)
         (try rw [hji55] at A40)
         have hji55w : (IntKind.i64.wrap (t170 - 1)) = ji55 := (i64_w _).trans hji55
         by_cases c56 : 0 ≤ (ji55)
         ·rw [if_pos c56] at H
          have c56b0 : decide (0 ≤ (ji55)) = true := decide_eq_true c56
          clear c56
          by_cases c57 : (ji55) < (js39.size : Int)
          ·rw [if_pos c57] at H
           have c57b0 : decide ((ji55) < (js39.size : Int)) = true := decide_eq_true c57
           clear c57
           by_cases c59 : (bt js39 (ji55)) = 92
           ·rw [if_pos c59] at H
            have c59b0 : ((bt js39 (ji55)) == 92) = true := beq_iff_eq.mpr c59
            have c59b1 : ((bt js39 (ji55)) != 92) = false := bne_eq_false_iff_eq.mpr c59
            clear c59
            have H' := Aside0.mk H
            clear H
            try have hcs60 := fun W_ : World => run_slice_string_l (P := Tryd.prog) W_ 9 x0_2 Tryd.underlying9 .i64 (ji36) (of_decide_eq_true (by assumption)) (of_decide_eq_true (by assumption))
            (try simp only [hjs39] at hcs60)
            go_wp2_with (first | (go_at_call 87; (with_reducible refine (strings_IndexByte.calls js39 34 t170 _ A40.out).mono ?_); rintro e w' ⟨rfl, ⟨nd, rfl⟩⟩; (try first | exact ⟨rfl, _, World.drewN_drewN _ _ _⟩ | exact ⟨rfl, _, Eq.trans (World.drewN_drewN _ _ _) (congrArg (World.drewN _) (Nat.add_assoc _ _ _))⟩); have p58 : 0 ≤ ((ji55) : Int) := of_decide_eq_true (by assumption); have q58 : (ji55) < (js39.size : Int) := of_decide_eq_true (by assumption); have hx58 := bt_at js39 (ji55); replace p58 := eq_true p58; replace q58 := eq_true q58))
            repeat (go_quiet (first | (go_at_call 87; (with_reducible refine (strings_IndexByte.calls js39 34 t170 _ A40.out).mono ?_); rintro e w' ⟨rfl, ⟨nd, rfl⟩⟩; (try first | exact ⟨rfl, _, World.drewN_drewN _ _ _⟩ | exact ⟨rfl, _, Eq.trans (World.drewN_drewN _ _ _) (congrArg (World.drewN _) (Nat.add_assoc _ _ _))⟩); have p58 : 0 ≤ ((ji55) : Int) := of_decide_eq_true (by assumption); have q58 : (ji55) < (js39.size : Int) := of_decide_eq_true (by assumption); have hx58 := bt_at js39 (ji55); replace p58 := eq_true p58; replace q58 := eq_true q58)); try go_wp2_with (first | (go_at_call 87; (with_reducible refine (strings_IndexByte.calls js39 34 t170 _ A40.out).mono ?_); rintro e w' ⟨rfl, ⟨nd, rfl⟩⟩; (try first | exact ⟨rfl, _, World.drewN_drewN _ _ _⟩ | exact ⟨rfl, _, Eq.trans (World.drewN_drewN _ _ _) (congrArg (World.drewN _) (Nat.add_assoc _ _ _))⟩); have p58 : 0 ≤ ((ji55) : Int) := of_decide_eq_true (by assumption); have q58 : (ji55) < (js39.size : Int) := of_decide_eq_true (by assumption); have hx58 := bt_at js39 (ji55); replace p58 := eq_true p58; replace q58 := eq_true q58)))
            go_roundg kj19
            case measure => have := HJ5.out; have := HK2.out; have := HJ19.out; omega
            case rel => exact ⟨(js39), (t170), (by first | rfl | (simp; done) | (simp [*]; done)), (by first | rfl | (simp; done) | (simp [*]; done)), H', ⟨by have := HJ5.out; have := HK2.out; have := HJ19.out; omega⟩, ⟨by repeat (first | (with_reducible first | exact HB.out | apply below_alloc | apply pw_below_drewN | apply below_drew1) | exact HB.out)⟩⟩
           rw [if_neg c59] at H
           have c59b0 : ((bt js39 (ji55)) == 92) = false := beq_eq_false_iff_ne.mpr c59
           have c59b1 : ((bt js39 (ji55)) != 92) = true := bne_iff_ne.mpr c59
           obtain ⟨ji61, hji61⟩ : ∃ j_ : Int, (wrap64 ((wrap64 ((a0.size : Int) - (js39.size : Int))) + t170)) = j_ := ⟨_, rfl⟩
           replace H : (if 0 ≤ (ji61) then (if (ji61) ≤ (a0.size : Int) then (if 0 ≤ (wrap64 (t170 + 1)) then (if (wrap64 (t170 + 1)) ≤ (js39.size : Int) then (some (a0.extract 0 ((ji61) : Int).toNat, js39.extract ((wrap64 (t170 + 1)) : Int).toNat js39.size, none)) else (none)) else (none)) else (none)) else (none)) = some (r1, r2, r3) := by first | (rw [hji61] at H; exact H) | (simp only [hji61] at H ⊢; exact H)
           (try rw [hji61] at hjs39)
           (try rw [hji61] at A40)
           have hji61w : (IntKind.i64.wrap ((wrap64 ((a0.size : Int) - (js39.size : Int))) + t170)) = ji61 := (i64_w _).trans hji61
           by_cases c62 : 0 ≤ (ji61)
           ·rw [if_pos c62] at H
            have c62b0 := eq_true c62
            have c62b1 : decide (0 ≤ (ji61)) = true := decide_eq_true c62
            clear c62
            by_cases c63 : (ji61) ≤ (a0.size : Int)
            ·rw [if_pos c63] at H
             have c63b0 := eq_true c63
             have c63b1 : decide ((ji61) ≤ (a0.size : Int)) = true := decide_eq_true c63
             clear c63
             obtain ⟨ji64, hji64⟩ : ∃ j_ : Int, (wrap64 (t170 + 1)) = j_ := ⟨_, rfl⟩
             replace H : (if 0 ≤ (ji64) then (if (ji64) ≤ (js39.size : Int) then (some (a0.extract 0 ((ji61) : Int).toNat, js39.extract ((ji64) : Int).toNat js39.size, none)) else (none)) else (none)) = some (r1, r2, r3) := by first | (rw [hji64] at H; exact H) | (simp only [hji64] at H ⊢; exact H)
             (try rw [hji64] at hjs39)
             (try rw [hji64] at A40)
             have hji64w : (IntKind.i64.wrap (t170 + 1)) = ji64 := (i64_w _).trans hji64
             by_cases c65 : 0 ≤ (ji64)
             ·rw [if_pos c65] at H
              have c65b0 := eq_true c65
              have c65b1 : decide (0 ≤ (ji64)) = true := decide_eq_true c65
              clear c65
              by_cases c66 : (ji64) ≤ (js39.size : Int)
              ·rw [if_pos c66] at H
               have c66b0 := eq_true c66
               have c66b1 : decide ((ji64) ≤ (js39.size : Int)) = true := decide_eq_true c66
               clear c66
               simp only [Option.some.injEq, Prod.mk.injEq] at H
               obtain ⟨rfl, rfl, rfl⟩ := H
               try have hcs67 := fun W_ : World => run_slice_string_l (P := Tryd.prog) W_ 9 x0_2 Tryd.underlying9 .i64 (ji36) (of_decide_eq_true (by assumption)) (of_decide_eq_true (by assumption))
               (try simp only [hjs39] at hcs67)
               go_wp2_with (first | (go_at_call 87; (with_reducible refine (strings_IndexByte.calls js39 34 t170 _ A40.out).mono ?_); rintro e w' ⟨rfl, ⟨nd, rfl⟩⟩; (try first | exact ⟨rfl, _, World.drewN_drewN _ _ _⟩ | exact ⟨rfl, _, Eq.trans (World.drewN_drewN _ _ _) (congrArg (World.drewN _) (Nat.add_assoc _ _ _))⟩); have p58 : 0 ≤ ((ji55) : Int) := of_decide_eq_true (by assumption); have q58 : (ji55) < (js39.size : Int) := of_decide_eq_true (by assumption); have hx58 := bt_at js39 (ji55); replace p58 := eq_true p58; replace q58 := eq_true q58; try have hcs68 := fun W_ : World => run_slice_string_h (P := Tryd.prog) W_ 9 a0 Tryd.underlying9 .i64 (ji61) (of_decide_eq_true (by assumption)) (of_decide_eq_true (by assumption)); try have hcs69 := fun W_ : World => run_slice_string_l (P := Tryd.prog) W_ 9 js39 Tryd.underlying9 .i64 (ji64) (of_decide_eq_true (by assumption)) (of_decide_eq_true (by assumption))))
               repeat (go_quiet (first | (go_at_call 87; (with_reducible refine (strings_IndexByte.calls js39 34 t170 _ A40.out).mono ?_); rintro e w' ⟨rfl, ⟨nd, rfl⟩⟩; (try first | exact ⟨rfl, _, World.drewN_drewN _ _ _⟩ | exact ⟨rfl, _, Eq.trans (World.drewN_drewN _ _ _) (congrArg (World.drewN _) (Nat.add_assoc _ _ _))⟩); have p58 : 0 ≤ ((ji55) : Int) := of_decide_eq_true (by assumption); have q58 : (ji55) < (js39.size : Int) := of_decide_eq_true (by assumption); have hx58 := bt_at js39 (ji55); replace p58 := eq_true p58; replace q58 := eq_true q58; try have hcs68 := fun W_ : World => run_slice_string_h (P := Tryd.prog) W_ 9 a0 Tryd.underlying9 .i64 (ji61) (of_decide_eq_true (by assumption)) (of_decide_eq_true (by assumption)); try have hcs69 := fun W_ : World => run_slice_string_l (P := Tryd.prog) W_ 9 js39 Tryd.underlying9 .i64 (ji64) (of_decide_eq_true (by assumption)) (of_decide_eq_true (by assumption)))); try go_wp2_with (first | (go_at_call 87; (with_reducible refine (strings_IndexByte.calls js39 34 t170 _ A40.out).mono ?_); rintro e w' ⟨rfl, ⟨nd, rfl⟩⟩; (try first | exact ⟨rfl, _, World.drewN_drewN _ _ _⟩ | exact ⟨rfl, _, Eq.trans (World.drewN_drewN _ _ _) (congrArg (World.drewN _) (Nat.add_assoc _ _ _))⟩); have p58 : 0 ≤ ((ji55) : Int) := of_decide_eq_true (by assumption); have q58 : (ji55) < (js39.size : Int) := of_decide_eq_true (by assumption); have hx58 := bt_at js39 (ji55); replace p58 := eq_true p58; replace q58 := eq_true q58; try have hcs68 := fun W_ : World => run_slice_string_h (P := Tryd.prog) W_ 9 a0 Tryd.underlying9 .i64 (ji61) (of_decide_eq_true (by assumption)) (of_decide_eq_true (by assumption)); try have hcs69 := fun W_ : World => run_slice_string_l (P := Tryd.prog) W_ 9 js39 Tryd.underlying9 .i64 (ji64) (of_decide_eq_true (by assumption)) (of_decide_eq_true (by assumption)))))
               go_ret3
               first | exact ⟨0, .nilIface, by first | rfl | (simp [errW_none, errW_some] <;> rfl) | (simp only [← hji36, ← hji55, ← hji61, ← hji64]; first | rfl | (simp [errW_none, errW_some] <;> rfl)) | (simp [*, errW_none, errW_some] <;> rfl) | (simp [errW_none, errW_some] <;> exact ⟨rfl, rfl⟩) | (simp [*, errW_none, errW_some] <;> exact ⟨rfl, rfl⟩), by repeat (first | (with_reducible first | exact HB.out | apply below_alloc | apply pw_below_drewN | apply below_drew1) | exact HB.out)⟩ | exact ⟨⟨0, .nilIface, by first | rfl | (simp [errW_none, errW_some] <;> rfl) | (simp only [← hji36, ← hji55, ← hji61, ← hji64]; first | rfl | (simp [errW_none, errW_some] <;> rfl)) | (simp [*, errW_none, errW_some] <;> rfl) | (simp [errW_none, errW_some] <;> exact ⟨rfl, rfl⟩) | (simp [*, errW_none, errW_some] <;> exact ⟨rfl, rfl⟩)⟩, by repeat (first | (with_reducible first | exact HB.out | apply below_alloc | apply pw_below_drewN | apply below_drew1) | exact HB.out)⟩
              rw [if_neg c66] at H
              exact absurd H (by simp)
             rw [if_neg c65] at H
             exact absurd H (by simp)
            rw [if_neg c63] at H
            exact absurd H (by simp)
           rw [if_neg c62] at H
           exact absurd H (by simp)
          rw [if_neg c57] at H
          exact absurd H (by simp)
         rw [if_neg c56] at H
         exact absurd H (by simp)
        rw [if_neg c38] at H
        exact absurd H (by simp)
       rw [if_neg c37] at H
       exact absurd H (by simp)
end Go.Proofs.YtnajijaachgipaaDoor.PT
end
