import Derived.Test.YtfpbbnllaogclaaDoorHErr
import Derived.Test.YtfpbbnllaogclaaDoorPEx2
import Derived.WalkLawsBesides
import Derived.Laws.Cover2
import Derived.Deep.WholeRow
namespace Go.Proofs.YtfpbbnllaogclaaDoor.H
set_option linter.unusedVariables false
set_option linter.unusedSimpArgs false
open Go.RowKit Go.Proofs.YtfpbbnllaogclaaDoorW.PrintWords Go.Proofs.YtfpbbnllaogclaaDoorW.PrintLast Go.Proofs.YtfpbbnllaogclaaDoorW.PrintMore Go.Proofs.YtfpbbnllaogclaaDoor.PE

set_option maxHeartbeats 4000000 in
set_option maxRecDepth 100000 in
theorem fits (k : Int) (r s : ByteArray) (f : Nat) (b : Bool) (w : World) :
    Calls Tryd.prog 20 #[.agg #[.int .i64 k, .string r, .string s, .float .f64 f, .bool b]] w fun e w' => e = .returned (.bool (decide ((r.size : Int) ≤ 2147483647) && decide ((s.size : Int) ≤ 2147483647))) ∧ Below w.heap.size w w' := by
  have hb : Below w.heap.size w (w.alloc (.cells #[.int .i64 k, .string r, .string s, .float .f64 f, .bool b] 47)) := (Below.refl _ w).alloc (Nat.le_refl _) _
  have HB := Aside0.mk hb
  clear hb
  go_enter Tryd.func20, Tryd.ntmps20
  go_wp2
  · rename_i h
    go_ret
    exact ⟨by rw [decide_eq_false (by omega : ¬ (r.size : Int) ≤ 2147483647)]; rfl, HB.out⟩
  · rename_i h1 h2
    go_ret
    exact ⟨by rw [decide_eq_false (by omega : ¬ (s.size : Int) ≤ 2147483647), Bool.and_false]; rfl, HB.out⟩
  · rename_i h1 h2
    go_ret
    exact ⟨by rw [decide_eq_true h1, decide_eq_true h2]; rfl, HB.out⟩

set_option maxHeartbeats 4000000 in
set_option maxRecDepth 100000 in
theorem gjOf (k : Int) (r s : ByteArray) (n : Nat) (b : Bool) (w : World) :
    Calls Tryd.prog 41 #[.agg #[.int .i64 k, .string r, .string s, .float .f64 n, .bool b]] w fun e w' => e = .returned (.agg #[.int .i64 k, .string r, .string s, .float .f64 n, .int .i64 0, .slice none 0 0]) ∧ Below w.heap.size w w' := by
  have hb : Below w.heap.size w ((w.alloc (.cells #[.int .i64 k, .string r, .string s, .float .f64 n, .bool b] 47)).alloc (.cells #[.int .i64 k, .string r, .string s, .float .f64 n, .int .i64 0, .slice none 0 0] 65)) := ((Below.refl _ w).alloc (Nat.le_refl _) _).alloc (by simp) _
  have HB := Aside0.mk hb
  clear hb
  have hst := run_storeAt_new (P := Tryd.prog) (w.alloc (.cells #[.int .i64 k, .string r, .string s, .float .f64 n, .bool b] 47)) 65 #[.int .i64 0, .string ⟨#[]⟩, .string ⟨#[]⟩, .float .f64 0, .int .i64 0, .slice none 0 0] #[.int .i64 k, .string r, .string s, .float .f64 n, .int .i64 0, .slice none 0 0] (by kernel_rfl) rfl (by simp [Value.oneCell'])
  have HS := Aside0.mk hst
  clear hst
  go_enter Tryd.func41, Tryd.ntmps41
  go_wp2_with ((with_reducible refine gate_store (t := 65) (p := 2) rfl ?_); refine store_event (t := 65) (p := 2) (v := .tmp 11) (w1 := (w.alloc (.cells #[.int .i64 k, .string r, .string s, .float .f64 n, .bool b] 47)).alloc (.cells #[.int .i64 k, .string r, .string s, .float .f64 n, .int .i64 0, .slice none 0 0] 65)) rfl rfl rfl ?hr ?_; (case hr => (have hs := HS.out; rw [show (w.alloc (.cells #[.int .i64 k, .string r, .string s, .float .f64 n, .bool b] 47)).heap.size = w.heap.size + 1 from by simp] at hs; unfold execOp; simp only [Sem.run_bind]; exact (congrArg (Result.andThen · _) hs).trans rfl)); rintro _ rfl)
  refine bodyPost_ret (results_cell_row rfl _ _ (w.heap.size + 1) 65 #[.int .i64 k, .string r, .string s, .float .f64 n, .int .i64 0, .slice none 0 0] (0, 0) _ rfl (by have h := heap_alloc_last (w.alloc (.cells #[.int .i64 k, .string r, .string s, .float .f64 n, .bool b] 47)) (.cells #[.int .i64 k, .string r, .string s, .float .f64 n, .int .i64 0, .slice none 0 0] 65); simpa using h) Tryd.underlying65 rfl (by kernel_rfl)) rfl ?_
  exact ⟨rfl, HB.out⟩

/-- What falseish answers. -/
def says (T : Int) (r : ByteArray) (f : Nat) : Bool := if T = 0 then true else if T = 1 then true else if T = 3 then (match Lib.parseBool r.data.toList with | some b => !b | none => false) else if T = 2 then (FloatKind.f64.format.order f 0 == some .eq) else false

set_option maxHeartbeats 4000000 in
set_option maxRecDepth 100000 in
theorem falseish (T : Int) (raw s : ByteArray) (n : Nat) (w : World) (k : Nat) (r : ByteArray) (h : gjson_zzLower.f k s = some r) (hr : r.size ≤ 281474976710656) (te : TypeId) (pe : Value) (hv : w.cell? ⟨6, 0, none⟩ = some (.iface te pe)) :
    Calls Tryd.prog 61 #[.agg #[.int .i64 T, .string raw, .string s, .float .f64 n, .int .i64 0, .slice none 0 0]] w fun e w' => e = .returned (.bool (says T r n)) ∧ Below w.heap.size w w' := by
  have hG : 6 < w.heap.size := Lib.lt_of_cell hv
  have hb : Below w.heap.size w (w.alloc (.cells #[.int .i64 T, .string raw, .string s, .float .f64 n, .int .i64 0, .slice none 0 0] 65)) := (Below.refl _ w).alloc (Nat.le_refl _) _
  have hv1 : (w.alloc (.cells #[.int .i64 T, .string raw, .string s, .float .f64 n, .int .i64 0, .slice none 0 0] 65)).cell? ⟨6, 0, none⟩ = some (.iface te pe) := (hb.cell (p := ⟨6, 0, none⟩) hG).trans hv
  have HB := Aside0.mk hb
  have HV := Aside0.mk hv1
  clear hb hv1 hv
  by_cases h3 : T = 3
  · subst h3
    rcases hp : Lib.parseBool r.data.toList with _ | b
    · go_enter Tryd.func61, Tryd.ntmps61
      go_wp2_with (first
        | (go_at_call 77; refine (gjson_zzLower.calls k s r _ h).mono ?_; rintro e w' ⟨rfl, hz⟩)
        | (go_at_call 76; refine (parseBool_err r hp te pe _ hr ?_).mono ?_))
      · exact (hz.cell (p := ⟨6, 0, none⟩) (show (6 : Nat) < _ from Nat.lt_of_lt_of_le hG (by simp))).trans HV.out
      rintro e w2 ⟨p, rfl, hz2⟩
      go_wp2
      go_ret
      exact ⟨by unfold says; simp [hp], HB.out.trans ((hz.mono (by simp)).trans (hz2.mono (Nat.le_trans (by simp) hz.size)))⟩
    · go_enter Tryd.func61, Tryd.ntmps61
      go_wp2_with (first
        | (go_at_call 77; refine (gjson_zzLower.calls k s r _ h).mono ?_; rintro e w' ⟨rfl, hz⟩)
        | (go_at_call 76; refine (parseBool r b hp _).mono ?_; rintro e w' ⟨rfl, rfl⟩))
      go_ret
      exact ⟨by unfold says; simp [hp], HB.out.trans (hz.mono (by simp))⟩
  · go_enter Tryd.func61, Tryd.ntmps61
    go_wp2
    · rename_i h0
      go_ret
      exact ⟨by unfold says; rw [if_pos (by simpa using h0)]; rfl, HB.out⟩
    · rename_i h0 h1
      go_ret
      exact ⟨by unfold says; rw [if_neg (by simpa using h0), if_pos (by simpa using h1)]; rfl, HB.out⟩
    · rename_i h0 h1 h3 h2
      go_ret
      exact ⟨by unfold says; rw [if_neg (by simpa using h0), if_neg (by simpa using h1), if_neg (by simpa using h3), if_pos (by simpa using h2)]; rfl, HB.out⟩
    · rename_i h0 h1 h3 h2
      go_ret
      exact ⟨by unfold says; rw [if_neg (by simpa using h0), if_neg (by simpa using h1), if_neg (by simpa using h3), if_neg (by simpa using h2)]; rfl, HB.out⟩

set_option maxHeartbeats 4000000 in
set_option maxRecDepth 100000 in
theorem door (T : Int) (raw s : ByteArray) (n : Nat) (w : World) (k : Nat) (r : ByteArray) (h : gjson_zzLower.f k s = some r) (hr : r.size ≤ 281474976710656) (te : TypeId) (pe : Value) (hv : w.cell? ⟨6, 0, none⟩ = some (.iface te pe)) :
    Calls Tryd.prog 40 #[.agg #[.int .i64 T, .string raw, .string s, .float .f64 n, .int .i64 0, .slice none 0 0]] w fun e w' => e = .returned (.bool (says T r n)) ∧ Below w.heap.size w w' := by
  have hG : 6 < w.heap.size := Lib.lt_of_cell hv
  have hb : Below w.heap.size w (w.alloc (.cells #[.int .i64 T, .string raw, .string s, .float .f64 n, .int .i64 0, .slice none 0 0] 65)) := (Below.refl _ w).alloc (Nat.le_refl _) _
  have hv1 : (w.alloc (.cells #[.int .i64 T, .string raw, .string s, .float .f64 n, .int .i64 0, .slice none 0 0] 65)).cell? ⟨6, 0, none⟩ = some (.iface te pe) := (hb.cell (p := ⟨6, 0, none⟩) hG).trans hv
  have HB := Aside0.mk hb
  have HV := Aside0.mk hv1
  clear hb hv1 hv
  go_enter Tryd.func40, Tryd.ntmps40
  go_wp2_with (go_at_call 61; refine (falseish T raw s n _ k r h hr te pe HV.out).mono ?_; rintro e w' ⟨rfl, hz⟩)
  go_ret
  exact ⟨rfl, HB.out.trans (hz.mono (by simp))⟩

set_option maxHeartbeats 4000000 in
set_option maxRecDepth 100000 in
theorem impl (T : Int) (raw s : ByteArray) (n : Nat) (b : Bool) (w : World) (k : Nat) (r : ByteArray) (h : gjson_zzLower.f k s = some r) (hr : r.size ≤ 281474976710656) (te : TypeId) (pe : Value) (hv : w.cell? ⟨6, 0, none⟩ = some (.iface te pe)) :
    Calls Tryd.prog 21 #[.agg #[.int .i64 T, .string raw, .string s, .float .f64 n, .bool b]] w fun e w' => e = .returned (.bool (says T r n)) ∧ Below w.heap.size w w' := by
  have hG : 6 < w.heap.size := Lib.lt_of_cell hv
  have hb : Below w.heap.size w (w.alloc (.cells #[.int .i64 T, .string raw, .string s, .float .f64 n, .bool b] 47)) := (Below.refl _ w).alloc (Nat.le_refl _) _
  have hv1 : (w.alloc (.cells #[.int .i64 T, .string raw, .string s, .float .f64 n, .bool b] 47)).cell? ⟨6, 0, none⟩ = some (.iface te pe) := (hb.cell (p := ⟨6, 0, none⟩) hG).trans hv
  have HB := Aside0.mk hb
  have HV := Aside0.mk hv1
  clear hb hv1 hv
  go_enter Tryd.func21, Tryd.ntmps21
  go_wp2_with (first
    | (go_at_call 41; refine (gjOf T raw s n b _).mono ?_; rintro e w2 ⟨rfl, hz⟩; have HZ := Aside0.mk hz; clear hz)
    | (go_at_call 40; refine (door T raw s n _ k r h hr te pe ?_).mono ?_))
  · exact (HZ.out.cell (p := ⟨6, 0, none⟩) (show (6 : Nat) < _ from Nat.lt_of_lt_of_le hG (by simp))).trans HV.out
  rintro e w3 ⟨rfl, hz2⟩
  go_wp2
  go_ret
  exact ⟨rfl, HB.out.trans ((HZ.out.mono (by simp)).trans (hz2.mono (Nat.le_trans (by simp) HZ.out.size)))⟩

theorem says0 {T : Int} {r : ByteArray} {n : Nat} (q : (T == 0) = true) : says T r n = true := by unfold says; rw [if_pos (by simpa using q)]
theorem says1 {T : Int} {r : ByteArray} {n : Nat} (q : (T == 1) = true) : says T r n = true := by
  have : T = 1 := by simpa using q
  subst this; rfl
theorem says2 {T : Int} {r : ByteArray} {n : Nat} (q : (T == 2) = true) : (says T r n == (FloatKind.f64.format.order n 0 == some .eq)) = true := by
  have : T = 2 := by simpa using q
  subst this; unfold says; rw [if_neg (by decide), if_neg (by decide), if_neg (by decide), if_pos rfl]; exact beq_self_eq_true _
/-- What falseish answers at a string that is `r` in small letters. -/
def no (r : ByteArray) : Bool := match Lib.parseBool r.data.toList with | some b => !b | none => false
theorem says3 {T : Int} {r : ByteArray} {n : Nat} (q : (T == 3) = true) : says T r n = no r := by
  have : T = 3 := by simpa using q
  subst this; unfold says no; rw [if_neg (by decide), if_neg (by decide), if_pos rfl]
theorem says4 {T : Int} {r : ByteArray} {n : Nat} (q : (T == 4) = true) : (!says T r n) = true := by
  have : T = 4 := by simpa using q
  subst this; unfold says; rw [if_neg (by decide), if_neg (by decide), if_neg (by decide), if_neg (by decide)]; rfl

/-- A variable's cells, as they stand. -/
def Lies (g : Nat) (cs : List Value) (w : World) : Prop := g < w.heap.size ∧ ∀ j v, cs[j]? = some v → w.cell? ⟨g, j, none⟩ = some v
theorem Lies.step {g : Nat} {cs : List Value} {w w' : World} (h : Lies g cs w) (hb : Below w.heap.size w w') : Lies g cs w' := ⟨Nat.lt_of_lt_of_le h.1 hb.size, fun j v hj => (hb.cell (p := ⟨g, j, none⟩) h.1).trans (h.2 j v hj)⟩
theorem Lies.new (w : World) (cs : Array Value) (t : TypeId) : Lies w.heap.size cs.toList (w.alloc (.cells cs t)) := ⟨by simp, fun j v hj => by
  rw [World.cell?_alloc_mark w cs t (0, 0) j]; simpa using hj⟩

set_option maxHeartbeats 8000000 in
set_option maxRecDepth 100000 in
theorem law (T : Int) (raw s : ByteArray) (n : Nat) (b : Bool) (w : World) (k : Nat) (r : ByteArray) (h : gjson_zzLower.f k s = some r) (hr : r.size ≤ 281474976710656) (hs : s.size ≤ 140737488351232) (hP : no r = ((low s).toList == [48] || (low s).toList == [102] || (low s).toList == [102, 97, 108, 115, 101])) (te : TypeId) (pe : Value) (hv : w.cell? ⟨6, 0, none⟩ = some (.iface te pe)) :
    Calls Tryd.prog 6 #[.agg #[.int .i64 T, .string raw, .string s, .float .f64 n, .bool b]] w fun e w' => e = .returned (.bool true) ∧ Below w.heap.size w w' := by
  have hG : 6 < w.heap.size := Lib.lt_of_cell hv
  have hb : Below w.heap.size w (w.alloc (.cells #[.int .i64 T, .string raw, .string s, .float .f64 n, .bool b] 47)) := (Below.refl _ w).alloc (Nat.le_refl _) _
  have hL : Lies w.heap.size [.int .i64 T, .string raw, .string s, .float .f64 n, .bool b] (w.alloc (.cells #[.int .i64 T, .string raw, .string s, .float .f64 n, .bool b] 47)) := Lies.new w _ 47
  have hv1 : Lies 6 [.iface te pe] w := ⟨hG, fun j v hj => by
    rcases j with _ | j
    · simp at hj; subst hj; exact hv
    · simp at hj⟩
  have hV : Lies 6 [.iface te pe] (w.alloc (.cells #[.int .i64 T, .string raw, .string s, .float .f64 n, .bool b] 47)) := hv1.step hb
  have HB := Aside0.mk hb
  have HV := Aside0.mk hV
  have HL := Aside0.mk hL
  have HP := Aside0.mk hP
  clear hb hv1 hv hV hL hP
  go_enter Tryd.func6, Tryd.ntmps6
  go_wp2_with (first
    | (go_at_call 20; refine (fits T raw s n b _).mono ?_; rintro e w2 ⟨rfl, hz⟩; have HL2 := Aside0.mk (HL.out.step hz); have HV2 := Aside0.mk (HV.out.step hz); have HB2 := Aside0.mk (HB.out.trans (hz.mono (by simp))); clear hz HL HV HB; have c0 := HL2.out.2 0 _ rfl; have c1 := HL2.out.2 1 _ rfl; have c2 := HL2.out.2 2 _ rfl; have c3 := HL2.out.2 3 _ rfl; have c4 := HL2.out.2 4 _ rfl))
  · go_ret
    exact ⟨rfl, HB2.out⟩
  · go_ret
    exact ⟨rfl, HB2.out⟩
  · have d0 : w2.drew.cell? ⟨w.heap.size, 0, none⟩ = some _ := c0
    have d1 : w2.drew.cell? ⟨w.heap.size, 1, none⟩ = some _ := c1
    have d2 : w2.drew.cell? ⟨w.heap.size, 2, none⟩ = some _ := c2
    have d3 : w2.drew.cell? ⟨w.heap.size, 3, none⟩ = some _ := c3
    have d4 : w2.drew.cell? ⟨w.heap.size, 4, none⟩ = some _ := c4
    have HD : Aside0 (Below w2.heap.size w2 w2.drew) := ⟨(Below.refl _ w2).drew⟩
    go_region_with (first
      | (go_at_call 21
         refine (impl T raw s n b _ k r h hr te pe ?_).mono ?_
         exact (HD.out.cell HV2.out.1).trans (HV2.out.2 0 _ rfl)
         rintro e w3 ⟨rfl, hz3⟩
         have HL3 := Aside0.mk ((HL2.out.step HD.out).step hz3)
         have c5 := HL3.out.2 2 _ rfl
         have c6 := HL3.out.2 0 _ rfl)
      | (go_at_call 22
         refine (small s _ hs).mono ?_
         rintro e w4 ⟨rfl, hz4⟩))
    all_goals (
      have HL4 := HL3.out.step hz4
      have e0 := HL4.2 0 _ rfl
      have e3 := HL4.2 3 _ rfl
      have hbel := ((HB2.out.trans (HD.out.mono (HB2.out.size))).trans (hz3.mono HB2.out.size)).trans (hz4.mono (Nat.le_trans HB2.out.size hz3.size))
      have HBE := Aside0.mk hbel
      clear hbel HL4 HL3 hz3 hz4 HD HB2 HL2 HV2 c0 c1 c2 c3 c4 d0 d1 d2 d3 d4 c5 c6
      go_wp2)
    all_goals first
      | (have q : (T == 0) = true := by assumption
         go_ret
         exact ⟨congrArg (fun z => Ending.returned (.bool z)) (says0 q), HBE.out⟩)
      | (have q : (T == 1) = true := by assumption
         go_ret
         exact ⟨congrArg (fun z => Ending.returned (.bool z)) (says1 q), HBE.out⟩)
      | (have q : (T == 2) = true := by assumption
         go_ret
         exact ⟨congrArg (fun z => Ending.returned (.bool z)) (says2 q), HBE.out⟩)
      | (have q : (T == 3) = true := by assumption
         have hQ := (says3 (r := r) (n := n) q).trans HP.out
         go_ret
         refine ⟨?_, HBE.out⟩
         first
           | (have e : (low s).toList = [48] := by assumption
              rw [e] at hQ
              exact congrArg (fun z => Ending.returned (.bool z)) (show says T r n = true from hQ.trans rfl))
           | (have e : (low s).toList = [102] := by assumption
              rw [e] at hQ
              exact congrArg (fun z => Ending.returned (.bool z)) (show says T r n = true from hQ.trans rfl))
           | exact congrArg (fun z => Ending.returned (.bool z)) (show (says T r n == ((low s).toList == [48] || (low s).toList == [102] || (low s).toList == [102, 97, 108, 115, 101])) = true from by rw [hQ]; exact beq_self_eq_true _))
      | (have q : (T == 4) = true := by assumption
         go_ret
         exact ⟨congrArg (fun z => Ending.returned (.bool z)) (says4 q), HBE.out⟩)
      | (go_ret
         exact ⟨rfl, HBE.out⟩)
end Go.Proofs.YtfpbbnllaogclaaDoor.H
