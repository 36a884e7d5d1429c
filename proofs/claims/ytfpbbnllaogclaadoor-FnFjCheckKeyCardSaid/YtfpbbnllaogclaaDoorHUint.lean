import Derived.Test.YtfpbbnllaogclaaDoorHErrs
import Derived.WalkLawsBesides
namespace Go.Proofs.YtfpbbnllaogclaaDoor.H
open Go.RowKit Go.Proofs.YtfpbbnllaogclaaDoorW.PrintWords Go.Proofs.YtfpbbnllaogclaaDoorW.PrintLast Go.Proofs.YtfpbbnllaogclaaDoorW.PrintMore
def lowI (b : Int) : Int := Go.bits .or .u8 b 32
/-- A byte's value as a digit, as ParseUint takes it. -/
def dig (b : Int) : Option Int := if 48 ≤ b ∧ b ≤ 57 then some (b - 48) else if 97 ≤ lowI b ∧ lowI b ≤ 122 then some (lowI b - 97 + 10) else none
/-- What ParseUint(s, 16, 16) gives, from a place of the text on. -/
def hx : List UInt8 → Int → Int × Option Int
  | [], n => (n, none)
  | c :: l, n => match dig c.toNat with
    | none => (0, some 2)
    | some d => if 16 ≤ d then (0, some 2) else if n * 16 + d > 65535 then (65535, some 1) else hx l (n * 16 + d)
theorem d_none {b : Int} (h1 : ¬ (48 ≤ b ∧ b ≤ 57)) (h2 : ¬ (97 ≤ lowI b ∧ lowI b ≤ 122)) : dig b = none := by unfold dig; rw [if_neg h1, if_neg h2]
theorem d_dec {b : Int} (h1 : 48 ≤ b ∧ b ≤ 57) : dig b = some (b - 48) := by unfold dig; rw [if_pos h1]
theorem d_hex {b : Int} (h1 : ¬ (48 ≤ b ∧ b ≤ 57)) (h2 : 97 ≤ lowI b ∧ lowI b ≤ 122) : dig b = some (lowI b - 97 + 10) := by unfold dig; rw [if_neg h1, if_pos h2]
def step (o : Option Int) (n : Int) (r : Int → Int × Option Int) : Int × Option Int := match o with
  | none => (0, some 2)
  | some d => if 16 ≤ d then (0, some 2) else if n * 16 + d > 65535 then (65535, some 1) else r (n * 16 + d)
theorem step_none {n : Int} {r : Int → Int × Option Int} : step none n r = (0, some 2) := rfl
theorem step_big {d n : Int} {r : Int → Int × Option Int} (h : 16 ≤ d) : step (some d) n r = (0, some 2) := if_pos h
theorem step_out {d n : Int} {r : Int → Int × Option Int} (h : ¬ 16 ≤ d) (k : n * 16 + d > 65535) : step (some d) n r = (65535, some 1) := (if_neg h).trans (if_pos k)
theorem step_on {d n : Int} {r : Int → Int × Option Int} (h : ¬ 16 ≤ d) (k : ¬ n * 16 + d > 65535) : step (some d) n r = r (n * 16 + d) := (if_neg h).trans (if_neg k)
theorem low95 : ¬ (97 ≤ lowI 95 ∧ lowI 95 ≤ 122) := by decide
def errI : Option Int → Value
  | none => .nilIface
  | some c => .iface 148 (.int .i64 c)
set_option maxHeartbeats 4000000 in
set_option maxRecDepth 100000 in
theorem parseUint (s : ByteArray) (w : World) (hne : s.toList ≠ []) (hsz : s.size ≤ 140737488351232) :
    Calls Tryd.prog 114 #[.string s, .int .i64 16, .int .i64 16] w fun e w' => e = .returned (.tuple #[.int .u64 (hx s.data.toList 0).1, errI (hx s.data.toList 0).2]) ∧ Below w.heap.size w w' := by
  obtain ⟨cap, hcap⟩ : ∃ c, c = grownCap w s.size 0 5 := ⟨_, rfl⟩
  have hconv := run_bytes_of_string (P := Tryd.prog) w 9 53 5 s Tryd.underlying9 Tryd.underlying53 Tryd.underlying5
  rw [← hcap] at hconv
  obtain ⟨C, hC⟩ : ∃ C, C = bytesRow s cap := ⟨_, rfl⟩
  have hCa : ∀ j (hj : j < s.data.size), C[j]? = some (.int .u8 (s.data[j].toNat : Int)) := fun j hj => by rw [hC]; exact bytesRow_at s cap j hj
  rw [← hC] at hconv
  clear hC hcap
  obtain ⟨W0, hW0⟩ : ∃ W, W = w.drew.alloc (.cells C 5 (C.size, C.size + 1)) := ⟨_, rfl⟩
  rw [← hW0] at hconv
  have hB0 : Below w.heap.size w W0 := by rw [hW0]; exact ((Below.refl _ w).drew).alloc (Nat.le_refl _) _
  have hc0 : ∀ j (hj : j < s.data.size), W0.cell? ⟨w.heap.size, j, none⟩ = some (.int .u8 (s.data[j].toNat : Int)) := fun j hj => by
    rw [hW0]; exact (World.cell?_alloc_mark w.drew C 5 _ j).trans (hCa j hj)
  clear hW0 hCa
  have HB0 := Aside0.mk hB0
  have HC0 := Aside0.mk hc0
  clear hB0 hc0
  have hem : s.toList.isEmpty = false := by
    cases h : s.toList with
    | nil => exact absurd h hne
    | cons _ _ => rfl
  clear hne
  go_enter Tryd.func114, Tryd.ntmps114
  go_wp2
  go_loopg [12, 13, 101] s.size (fun kq v12 v13 v101 wr => ∃ (i : Nat) (n : Int), v12 = .bool false ∧ kq = s.size - i ∧ i ≤ s.size ∧ 0 ≤ n ∧ n ≤ 65535 ∧ v101 = .int .i64 (i : Int) ∧ v13 = .int .u64 n ∧ Aside0 (Below w.heap.size w wr) ∧ Aside0 (∀ j (hj : j < s.data.size), wr.cell? ⟨w.heap.size, j, none⟩ = some (.int .u8 (s.data[j].toNat : Int))) ∧ Aside0 (hx s.data.toList 0 = hx (s.data.toList.drop i) n))
  case atStart => exact ⟨0, 0, rfl, by omega, by omega, by omega, by omega, rfl, rfl, HB0, HC0, ⟨rfl⟩⟩
  case round =>
    clear HB0 HC0
    obtain ⟨i, n, rfl, hk, hle, hn0, hn1, rfl, rfl, HB, HC, HX⟩ := hrel
    by_cases hi : i < s.size
    · have hi' : i < s.data.size := hi
      have hc : wr.cell? ⟨w.heap.size, i, none⟩ = some (.int .u8 (s.data[i].toNat : Int)) := HC.out i hi'
      have hlt : (i : Int) < (s.size : Int) := by omega
      obtain ⟨b, hb⟩ : ∃ b, b = s.data[i] := ⟨_, rfl⟩
      rw [← hb] at hc
      have HI := Aside0.mk hi
      have HI' := Aside0.mk hb
      have HL := Aside0.mk hle
      have HK := Aside0.mk hk
      clear hi hle hk hb
      have hd : s.data.toList.drop i = b :: s.data.toList.drop (i + 1) := by
        rw [List.drop_eq_getElem_cons (by rw [Array.length_toList]; exact hi'), HI'.out]; rfl
      have hst : hx s.data.toList 0 = step (dig b.toNat) n (hx (s.data.toList.drop (i + 1))) := by
        rw [HX.out, hd, hx]; rfl
      have S := Aside0.mk hst
      clear hst hd HX
      go_wp2
      all_goals first
        | (have e : hx s.data.toList 0 = (0, some 2) := S.out.trans (by
             first
               | (rw [d_none (by omega) (by unfold lowI; omega)]; rfl)
               | (rw [show (b.toNat : Int) = 95 from by assumption, d_none (by omega) low95]; rfl)
               | (rw [d_hex (by omega) (by unfold lowI; omega), step_big (by unfold lowI; omega)]))
           go_ret2
           exact ⟨by rw [e]; rfl, HB.out⟩)
        | (have e : hx s.data.toList 0 = (65535, some 1) := S.out.trans (by
             first
               | (rw [d_dec (by omega), step_out (by omega) (by omega)])
               | (rw [d_hex (by omega) (by unfold lowI; omega), step_out (by unfold lowI; omega) (by unfold lowI; omega)]))
           go_ret2
           exact ⟨by rw [e]; rfl, HB.out⟩)
        | (have e : hx s.data.toList 0 = hx (s.data.toList.drop (i + 1)) (n * 16 + ((b.toNat : Int) - 48)) := S.out.trans (by rw [d_dec (by omega), step_on (by omega) (by omega)])
           have E := Aside0.mk e
           clear e
           go_roundg (s.size - (i + 1))
           case measure => have := HI.out; have := HK.out; omega
           case rel => exact ⟨i + 1, _, rfl, rfl, HI.out, by omega, by omega, congrArg (Value.int .i64) (by omega), rfl, HB, HC, E⟩)
        | (have e : hx s.data.toList 0 = hx (s.data.toList.drop (i + 1)) (n * 16 + (lowI b.toNat - 97 + 10)) := S.out.trans (by rw [d_hex (by omega) (by unfold lowI; omega), step_on (by unfold lowI; omega) (by unfold lowI; omega)])
           have E := Aside0.mk e
           clear e
           go_roundg (s.size - (i + 1))
           case measure => have := HI.out; have := HK.out; omega
           case rel => exact ⟨i + 1, _, rfl, rfl, HI.out, by omega, by omega, congrArg (Value.int .i64) (by omega), rfl, HB, HC, E⟩)
        | skip
    · have hx0 : hx s.data.toList 0 = (n, none) := by
        rw [HX.out, List.drop_of_length_le (by rw [Array.length_toList]; have : s.size = s.data.size := rfl; omega), hx]
      have hn : ¬ (i : Int) < (s.size : Int) := by omega
      have E := Aside0.mk hx0
      clear hk hle hi hx0 HX
      go_wp2
      go_ret2
      exact ⟨by rw [E.out]; rfl, HB.out⟩
/-- The errors are two. -/
theorem hx_err : ∀ (l : List UInt8) (n c : Int), (hx l n).2 = some c → c = 2 ∨ c = 1
  | [], n, c, h => by simp [hx] at h
  | b :: l, n, c, h => by
    rw [hx] at h
    split at h
    · left; simpa using h.symm
    · split at h
      · left; simpa using h.symm
      · split at h
        · right; simpa using h.symm
        · exact hx_err l _ c h
set_option maxHeartbeats 4000000 in
set_option maxRecDepth 100000 in
theorem pu_none (s : ByteArray) (m : Int) (w : World)
    (hI : Calls Tryd.prog 114 #[.string s, .int .i64 16, .int .i64 16] w fun e w' => e = .returned (.tuple #[.int .u64 m, .nilIface]) ∧ Below w.heap.size w w') :
    Calls Tryd.prog 100 #[.string s, .int .i64 16, .int .i64 16] w fun e w' => e = .returned (.tuple #[.int .u64 m, .nilIface]) ∧ Below w.heap.size w w' := by
  have HI := Aside0.mk hI
  clear hI
  go_enter Tryd.func100, Tryd.ntmps100
  go_wp2_with (go_at_call 114; refine HI.out.mono ?_; rintro e W1 ⟨rfl, hb1⟩)
  go_wp2
  go_ret2
  exact ⟨rfl, hb1⟩
set_option maxHeartbeats 4000000 in
set_option maxRecDepth 100000 in
theorem pu_syntax (s : ByteArray) (m : Int) (te : TypeId) (pe : Value) (w : World) (hlim : s.size ≤ 281474976710656) (hv : w.cell? ⟨6, 0, none⟩ = some (.iface te pe))
    (hI : Calls Tryd.prog 114 #[.string s, .int .i64 16, .int .i64 16] w fun e w' => e = .returned (.tuple #[.int .u64 m, .iface 148 (.int .i64 2)]) ∧ Below w.heap.size w w') :
    Calls Tryd.prog 100 #[.string s, .int .i64 16, .int .i64 16] w fun e w' => ∃ p : Value, e = .returned (.tuple #[.int .u64 m, .iface 149 p]) ∧ Below w.heap.size w w' := by
  have hG : 6 < w.heap.size := Lib.lt_of_cell hv
  have HI := Aside0.mk hI
  clear hI
  go_enter Tryd.func100, Tryd.ntmps100
  go_wp2_with (go_at_call 114; refine HI.out.mono ?_)
  rintro e W1 ⟨rfl, hb1⟩
  have hv1 : W1.cell? ⟨6, 0, none⟩ = some (.iface te pe) := (hb1.cell (show (⟨6, 0, none⟩ : Addr).block < w.heap.size from hG)).trans hv
  go_wp2_with (go_at_call 94; refine (toError_syntax _ s 16 16 te pe _ hlim ?_).mono ?_)
  · exact hv1
  rintro e W2 ⟨p, rfl, h3⟩
  go_wp2
  go_ret2
  exact ⟨p, rfl, hb1.trans (h3.mono hb1.size)⟩
set_option maxHeartbeats 4000000 in
set_option maxRecDepth 100000 in
theorem pu_range (s : ByteArray) (m : Int) (te : TypeId) (pe : Value) (w : World) (hlim : s.size ≤ 281474976710656) (hv : w.cell? ⟨7, 0, none⟩ = some (.iface te pe))
    (hI : Calls Tryd.prog 114 #[.string s, .int .i64 16, .int .i64 16] w fun e w' => e = .returned (.tuple #[.int .u64 m, .iface 148 (.int .i64 1)]) ∧ Below w.heap.size w w') :
    Calls Tryd.prog 100 #[.string s, .int .i64 16, .int .i64 16] w fun e w' => ∃ p : Value, e = .returned (.tuple #[.int .u64 m, .iface 149 p]) ∧ Below w.heap.size w w' := by
  have hG : 7 < w.heap.size := Lib.lt_of_cell hv
  have HI := Aside0.mk hI
  clear hI
  go_enter Tryd.func100, Tryd.ntmps100
  go_wp2_with (go_at_call 114; refine HI.out.mono ?_)
  rintro e W1 ⟨rfl, hb1⟩
  have hv1 : W1.cell? ⟨7, 0, none⟩ = some (.iface te pe) := (hb1.cell (show (⟨7, 0, none⟩ : Addr).block < w.heap.size from hG)).trans hv
  go_wp2_with (go_at_call 94; refine (toError_range _ s 16 16 te pe _ hlim ?_).mono ?_)
  · exact hv1
  rintro e W2 ⟨p, rfl, h3⟩
  go_wp2
  go_ret2
  exact ⟨p, rfl, hb1.trans (h3.mono hb1.size)⟩
end Go.Proofs.YtfpbbnllaogclaaDoor.H
