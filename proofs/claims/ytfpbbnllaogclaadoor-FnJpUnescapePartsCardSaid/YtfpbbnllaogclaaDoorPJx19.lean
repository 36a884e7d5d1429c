-- Written by a program of this session out of the translation (a changed copy of the kit's print); Lean checks it.
import Derived.Test.YtfpbbnllaogclaaDoorPJx0
import Derived.Test.YtfpbbnllaogclaaDoorPJx1
import Derived.Test.YtfpbbnllaogclaaDoorPJx2
import Derived.Test.YtfpbbnllaogclaaDoorPJx18
namespace Go.Proofs.YtfpbbnllaogclaaDoor.PJ
open Go.RowKit Go.Proofs.YtfpbbnllaogclaaDoorW.PrintWords Go.Proofs.YtfpbbnllaogclaaDoorW.PrintLast Go.Proofs.YtfpbbnllaogclaaDoorW.PrintMore
attribute [local go_sem] max2_int min2_int max_two min_two max_three min_three max_four min_four   -- for this text's walks alone
set_option linter.unusedVariables false
set_option linter.unusedSimpArgs false

/-! ### impl_JpUnescape: function 25, by hand -/
namespace UN
open Go.Proofs.YtfpbbnllaogclaaDoor.H
set_option linter.unusedVariables false
/-- The bytes of a slice. -/
def Rd (w : World) (b p : Nat) (l : List Int) : Prop := ∀ j, j < l.length → w.cell? ⟨b, p + j, none⟩ = some (.int .u8 (l.getD j 0))
/-- Block G is a row of n bytes of which the first ones are known. -/
def Done (w : World) (G n : Nat) (d : List Int) : Prop := ∃ f : Nat → Value, w.rowIs G 5 n f ∧ d.length ≤ n ∧ ∀ j, j < d.length → f j = .int .u8 (d.getD j 0)
theorem add_at (b p j : Nat) : (⟨b, p, none⟩ : Addr).add j = ⟨b, p + j, none⟩ := by
  unfold Addr.add
  split <;> simp_all
theorem Rd.lt {w : World} {b p : Nat} {l : List Int} (h : Rd w b p l) (hl : 0 < l.length) : b < w.heap.size := Lib.lt_of_cell (h 0 hl)
theorem Rd.take {w : World} {b p : Nat} {l : List Int} (h : Rd w b p l) (k : Nat) : Rd w b p (l.take k) := fun j hj => by
  rw [List.length_take] at hj
  rw [h j (by omega), List.getD_eq_getElem?_getD, List.getD_eq_getElem?_getD, List.getElem?_take_of_lt (by omega)]
theorem Rd.drop {w : World} {b p a : Nat} {l : List Int} (h : Rd w b p l) {k : Nat} (ha : k < l.length → a = p + k) : Rd w b a (l.drop k) := fun j hj => by
  rw [List.length_drop] at hj
  rw [ha (by omega), Nat.add_assoc, h (k + j) (by omega), List.getD_eq_getElem?_getD, List.getD_eq_getElem?_getD, List.getElem?_drop]
theorem Rd.keep {w w' : World} {b p G : Nat} {l : List Int} (h : Rd w b p l) (hg : w.grownBy w' (some G)) (hne : b ≠ G) : Rd w' b p l := fun j hj => by
  have hc := h j hj
  exact hg.cell hc (fun e => hne (Option.some.inj e))
theorem Rd.reads {w : World} {b p : Nat} {l : List Int} (h : Rd w b p l) (hl : l.length ≤ 9223372036854775807) : Kd.C (Kd.int .u8) w (some ⟨b, p, none⟩) l.length l :=
  Kd.C_of_reads (enc := Value.int .u8) (d := (0 : Int)) (h1 := fun _ => rfl) ⟨rfl, hl, fun _ => ⟨_, rfl, fun j hj => by rw [add_at]; exact h j hj⟩⟩
theorem Done.lt {w : World} {G n : Nat} {d : List Int} (h : Done w G n d) : G < w.heap.size := by
  obtain ⟨f, h, _⟩ := h; exact h.lt
theorem Done.alloc {w : World} {G n : Nat} {d : List Int} (h : Done w G n d) (o : Obj) : Done (w.alloc o) G n d := by
  obtain ⟨f, h, a⟩ := h; exact ⟨f, h.alloc o, a⟩
theorem Done.drewN {w : World} {G n : Nat} {d : List Int} (h : Done w G n d) (k : Nat) : Done (w.drewN k) G n d := h
theorem Done.cell {w : World} {G n : Nat} {d : List Int} (h : Done w G n d) {j : Nat} (hj : j < n) : (w.cell? ⟨G, j, none⟩).isSome = true := by
  obtain ⟨f, h, _⟩ := h
  rw [h.cell hj]; rfl
theorem Done.frozen {w : World} {G n : Nat} {d : List Int} (h : Done w G n d) (j : Nat) : w.frozen? ⟨G, j, none⟩ = false := by
  obtain ⟨f, h, _⟩ := h; exact h.frozen j
theorem Done.read {w : World} {G n : Nat} {d : List Int} (h : Done w G n d) : Rd w G 0 d := fun j hj => by
  obtain ⟨f, h, hl, hf⟩ := h
  rw [Nat.zero_add, h.cell (by omega), hf j hj]
theorem Done.put {w : World} {G n : Nat} {d : List Int} (h : Done w G n d) (bs : List Int) (hl : d.length + bs.length ≤ n) : Done (w.setCells G d.length (nums .u8 bs)) G n (d ++ bs) := by
  obtain ⟨f, hr, hd, hf⟩ := h
  refine ⟨_, rowIs_setCells _ _ _ _ hr, by rw [List.length_append]; exact hl, fun j hj => ?_⟩
  rw [List.length_append] at hj
  have hn : (nums .u8 bs).length = bs.length := by simp [nums]
  rw [hn]
  by_cases h1 : j < d.length
  · rw [if_neg (by omega), hf j h1, List.getD_eq_getElem?_getD, List.getD_eq_getElem?_getD, List.getElem?_append_left h1]
  · rw [if_pos (by omega), List.getD_eq_getElem?_getD, List.getElem?_append_right (by omega)]
    simp only [nums, List.getElem?_map]
    rw [List.getElem?_eq_getElem (by omega)]
    rfl
theorem grown_setCells (w : World) (G : Nat) (vs : List Value) : ∀ (o : Nat), w.grownBy (w.setCells G o vs) (some G) := by
  have key : ∀ (vs : List Value) (o : Nat) (W : World), w.grownBy W (some G) → w.grownBy (W.setCells G o vs) (some G) := by
    intro vs
    induction vs with
    | nil => intro o W h; exact h
    | cons v r ih =>
      intro o W h
      refine ih (o + 1) _ ⟨h.os, h.tape, h.output, ?_, fun k hk hne => ?_⟩
      · have := h.size; simp; omega
      · rw [Go.Deep.blk_setCell_other _ _ _ _ (fun e => hne (by rw [e]))]
        exact h.block k hk hne
  exact fun o => key vs o w (World.grownBy.refl w _)
theorem grown_alloc (w : World) (o : Obj) (G : Option Nat) : w.grownBy (w.alloc o) G := World.grownBy_alloc w o G
theorem grown_drewN {w w' : World} {G : Option Nat} (h : w.grownBy w' G) (k : Nat) : w.grownBy (w'.drewN k) G := ⟨h.os, h.tape, h.output, h.size, h.block⟩
theorem grown_alloc_r {w w' : World} {G : Option Nat} (h : w.grownBy w' G) (o : Obj) : w.grownBy (w'.alloc o) G :=
  ⟨h.os, h.tape, h.output, Nat.le_trans h.size (by simp), fun k hk hne => (Below.heap_alloc w' o k (Nat.lt_of_lt_of_le hk h.size)).trans (h.block k hk hne)⟩
/-- A cut of a slice behind its k-th byte. -/
theorem cut_l (b p len cap k : Nat) (hk : k ≤ len) (hc : len ≤ cap) : ∃ a, (k < len → a = p + k) ∧ ∀ W, (Instr.slice 53 (.slice (some ⟨b, p, none⟩) len cap) (some (.int .i64 (k : Int))) none none).run Tryd.prog W = .ok (.slice (some ⟨b, a, none⟩) (len - k) (cap - k)) W := by
  refine ⟨if cap = k then p else p + k, fun h => by rw [if_neg (by omega)], fun W => ?_⟩
  rw [run_slice_l (P := Tryd.prog) W 53 (some ⟨b, p, none⟩) len cap (by kernel_rfl) .i64 (k : Int) (by omega) (by omega)]
  rw [show (sizeOf (Tryd.prog.elem 53)).run Tryd.prog W = .ok 1 W from by kernel_rfl]
  simp only [Result.andThen, sliced, Int.toNat_natCast, Nat.mul_one, Option.map_some, add_at]
  split <;> rfl
theorem cut_h (b p len cap k : Nat) (hk : k ≤ cap) (W : World) : (Instr.slice 53 (.slice (some ⟨b, p, none⟩) len cap) none (some (.int .i64 (k : Int))) none).run Tryd.prog W = .ok (.slice (some ⟨b, p, none⟩) k cap) W := by
  rw [run_slice_h (P := Tryd.prog) W 53 (some ⟨b, p, none⟩) len cap (by kernel_rfl) .i64 (k : Int) (by omega) (by omega)]
  rw [show (sizeOf (Tryd.prog.elem 53)).run Tryd.prog W = .ok 1 W from by kernel_rfl]
  simp only [Result.andThen, sliced, Int.toNat_natCast, Nat.sub_zero, Option.map_some, add_at]
  split <;> rfl
theorem cut_0h (b p len cap k : Nat) (hk : k ≤ cap) (W : World) : (Instr.slice 53 (.slice (some ⟨b, p, none⟩) len cap) (some (.int .i64 0)) (some (.int .i64 (k : Int))) none).run Tryd.prog W = .ok (.slice (some ⟨b, p, none⟩) k cap) W := by
  rw [run_slice_lh (P := Tryd.prog) W 53 (some ⟨b, p, none⟩) len cap (by kernel_rfl) .i64 .i64 0 (k : Int) (by omega) (by omega) (by omega)]
  rw [show (sizeOf (Tryd.prog.elem 53)).run Tryd.prog W = .ok 1 W from by kernel_rfl]
  simp only [Result.andThen, sliced, Int.toNat_natCast, Nat.sub_zero, Option.map_some, add_at, Int.toNat_zero, Nat.zero_mul, Nat.add_zero]
  split <;> rfl
theorem nums_one {k : IntKind} {cs : List Int} : ∀ v ∈ nums k cs, v.oneCell' = true := by
  intro v hv
  simp only [nums, List.mem_map] at hv
  obtain ⟨x, _, rfl⟩ := hv
  rfl
/-- A copy to behind what is done. -/
theorem copy_on {w : World} {G n ao b a : Nat} {d cs : List Int} (dl dc c : Nat) (hD : Done w G n d) (hR : Rd w b a cs) (hdl : cs.length ≤ dl) (hn : d.length + cs.length ≤ n) (ho : 0 < cs.length → ao = d.length) :
    ∃ w', (Builtin.copy_ #[53, 53] 3 #[.slice (some ⟨G, ao, none⟩) dl dc, .slice (some ⟨b, a, none⟩) cs.length c]).run Tryd.prog w = .ok (goInt cs.length) w' ∧ Done w' G n (d ++ cs) ∧ w.grownBy w' (some G) := by
  by_cases h0 : cs.length = 0
  · have he : cs = [] := List.eq_nil_of_length_eq_zero h0
    subst he
    refine ⟨w, run_copy_none (P := Tryd.prog) w 53 53 3 5 _ _ dl dc 0 c Tryd.underlying53 (by kernel_rfl) (by simp), by rw [List.append_nil]; exact hD, World.grownBy.refl w _⟩
  · rw [ho (by omega)]
    have hnl : (nums .u8 cs).length = cs.length := by simp [nums]
    have hr := run_copy_cells (P := Tryd.prog) w 53 53 3 5 G d.length dl dc ⟨b, a, none⟩ cs.length c (nums .u8 cs) Tryd.underlying53 (by kernel_rfl) (by rw [hnl]; exact (Nat.min_eq_left hdl).symm)
      (fun j v hv => by
        have hj : j < cs.length := by rw [← hnl]; exact (List.getElem?_eq_some_iff.1 hv).1
        rw [add_at, hR j hj, ← hv]
        simp only [nums, List.getElem?_map, List.getElem?_eq_getElem hj, List.getD_eq_getElem?_getD]
        rfl)
      (fun j hj => hD.cell (by rw [hnl] at hj; omega)) (fun j hj => hD.frozen _) nums_one
    rw [hnl] at hr
    exact ⟨_, hr, hD.put cs hn, grown_setCells w G _ _⟩
/-- What the table has for the letter of a short escape. -/
def tb (e : Int) : Int := rd tabG2 e
def shortE (e : Int) : Prop := e = 34 ∨ e = 92 ∨ e = 47 ∨ e = 98 ∨ e = 102 ∨ e = 110 ∨ e = 114 ∨ e = 116
/-- An escape that begins a text: how many bytes it has, what it stands for. -/
def Esc (l : List Int) (m : Nat) (bs : List Int) : Prop := l.getD 0 0 = 92 ∧ m ≤ l.length ∧ 2 ≤ m ∧
  ((shortE (l.getD 1 0) ∧ m = 2 ∧ bs = [tb (l.getD 1 0)]) ∨ (l.getD 1 0 = 117 ∧ 6 ≤ m ∧ ∃ (k : Nat) (r : Int), jsonparser_decodeUnicodeEscape.f k l = some (r, (m : Int)) ∧ bs = Lib.encodeRuneZ r ∧ -2147483648 ≤ r ∧ r ≤ 2147483647))
theorem Esc.le {l : List Int} {m : Nat} {bs : List Int} (h : Esc l m bs) : bs.length ≤ m := by
  obtain ⟨_, _, _, h⟩ := h
  rcases h with ⟨_, rfl, rfl⟩ | ⟨_, h6, k, r, _, rfl, _, _⟩
  · simp
  · have := (Lib.encodeRuneZ_length r).2; omega
set_option maxHeartbeats 1000000 in
set_option maxRecDepth 100000 in
theorem escShort {b p inl inc G n cap : Nat} {d : List Int} (e : Int) (t : Int) (w : World) (he : shortE e) (ht : w.cell? ⟨2, e.toNat, none⟩ = some (.int .u8 t))
    (h0 : w.cell? ⟨b, p, none⟩ = some (.int .u8 92)) (h1 : w.cell? ⟨b, p + 1, none⟩ = some (.int .u8 e)) (hl : 2 ≤ inl) (hD : Done w G n d) (hn : d.length + 1 ≤ n) :
    Calls Tryd.prog 79 #[.agg #[.bool false, .bool false, .int .i64 0], .slice (some ⟨b, p, none⟩) inl inc, .slice (some ⟨G, d.length, none⟩) (n - d.length) cap] w fun e w' => e = .returned (.tuple #[.int .i64 2, .int .i64 1]) ∧ w' = (w.setCell ⟨G, d.length, none⟩ (.int .u8 t)).alloc (.cells #[.bool false, .bool false, .int .i64 0] 108) := by
  obtain ⟨c0, hc⟩ := Option.isSome_iff_exists.1 (hD.cell (j := d.length) (by omega))
  have hf := hD.frozen d.length
  have hlG := hD.lt
  clear hD
  have hlb : b < w.heap.size := Lib.lt_of_cell h0
  have hl2 : 2 < w.heap.size := Lib.lt_of_cell ht
  have hlen : 1 ≤ n - d.length := by omega
  rcases he with rfl | rfl | rfl | rfl | rfl | rfl | rfl | rfl
  · have ht : w.cell? ⟨2, 34, none⟩ = some (.int .u8 t) := ht
    go_enter Tryd.func79, Tryd.ntmps79
    go_wp2
    go_ret2
    exact ⟨rfl, rfl⟩
  · have ht : w.cell? ⟨2, 92, none⟩ = some (.int .u8 t) := ht
    go_enter Tryd.func79, Tryd.ntmps79
    go_wp2
    go_ret2
    exact ⟨rfl, rfl⟩
  · have ht : w.cell? ⟨2, 47, none⟩ = some (.int .u8 t) := ht
    go_enter Tryd.func79, Tryd.ntmps79
    go_wp2
    go_ret2
    exact ⟨rfl, rfl⟩
  · have ht : w.cell? ⟨2, 98, none⟩ = some (.int .u8 t) := ht
    go_enter Tryd.func79, Tryd.ntmps79
    go_wp2
    go_ret2
    exact ⟨rfl, rfl⟩
  · have ht : w.cell? ⟨2, 102, none⟩ = some (.int .u8 t) := ht
    go_enter Tryd.func79, Tryd.ntmps79
    go_wp2
    go_ret2
    exact ⟨rfl, rfl⟩
  · have ht : w.cell? ⟨2, 110, none⟩ = some (.int .u8 t) := ht
    go_enter Tryd.func79, Tryd.ntmps79
    go_wp2
    go_ret2
    exact ⟨rfl, rfl⟩
  · have ht : w.cell? ⟨2, 114, none⟩ = some (.int .u8 t) := ht
    go_enter Tryd.func79, Tryd.ntmps79
    go_wp2
    go_ret2
    exact ⟨rfl, rfl⟩
  · have ht : w.cell? ⟨2, 116, none⟩ = some (.int .u8 t) := ht
    go_enter Tryd.func79, Tryd.ntmps79
    go_wp2
    go_ret2
    exact ⟨rfl, rfl⟩
set_option maxHeartbeats 2000000 in
set_option maxRecDepth 100000 in
theorem escU {b p inc G n cap : Nat} {l d : List Int} (k : Nat) (r : Int) (m : Nat) (w : World) (hdec : jsonparser_decodeUnicodeEscape.f k l = some (r, (m : Int))) (hr0 : -2147483648 ≤ r) (hr1 : r ≤ 2147483647)
    (hin : Rd w b p l) (hll : l.length ≤ 9223372036854775807) (h92 : l.getD 0 0 = 92) (h117 : l.getD 1 0 = 117) (hl : 2 ≤ l.length) (hinc : l.length ≤ inc) (hD : Done w G n d) (hbG : b ≠ G) (hn : d.length + (Lib.encodeRuneZ r).length ≤ n) :
    Calls Tryd.prog 79 #[.agg #[.bool false, .bool false, .int .i64 0], .slice (some ⟨b, p, none⟩) l.length inc, .slice (some ⟨G, d.length, none⟩) (n - d.length) cap] w fun e w' => e = .returned (.tuple #[.int .i64 (m : Int), .int .i64 ((Lib.encodeRuneZ r).length : Int)]) ∧ Done w' G n (d ++ Lib.encodeRuneZ r) ∧ w.grownBy w' (some G) := by
  have h0 : w.cell? ⟨b, p, none⟩ = some (.int .u8 92) := by have := hin 0 (by omega); rwa [h92] at this
  have h1 : w.cell? ⟨b, p + 1, none⟩ = some (.int .u8 117) := by have := hin 1 (by omega); rwa [h117] at this
  have hlb : b < w.heap.size := Lib.lt_of_cell h0
  have hm : ((m : Int) == -1) = false := by rw [beq_eq_false_iff_ne]; omega
  have hne : (Lib.encodeRuneZ r).length = (Lib.runeCells r).length := by simp [Lib.runeCells]
  have hD1 : Done (w.alloc (.cells #[.bool false, .bool false, .int .i64 0] 108)) G n d := hD.alloc _
  have hin1 : Rd (w.alloc (.cells #[.bool false, .bool false, .int .i64 0] 108)) b p l := fun j hj => by
    have hk := World.grownBy_alloc w (.cells #[.bool false, .bool false, .int .i64 0] 108) (some G)
    exact hin.keep hk hbG j hj
  have HR := Aside0.mk (hin1.reads hll)
  have HD1 := Aside0.mk hD1
  have HD := Aside0.mk hdec
  have HN := Aside0.mk hn
  have HE := Aside0.mk hne
  have HL := Aside0.mk h92
  clear hin hin1 hD hD1 hdec hn hne h92 h117 hll
  go_enter Tryd.func79, Tryd.ntmps79
  go_wp2_with (go_at_call 96; refine (jsonparser_decodeUnicodeEscape.calls k _ _ l r m _ HR.out hinc HD.out).mono ?_)
  rintro e w1 ⟨rfl, ⟨nd, rfl⟩⟩
  have HD2 := Aside0.mk (HD1.out.drewN nd)
  go_wp2_with (go_at_call 97; refine (encRune G d.length (n - d.length) cap r hr0 hr1 _ ?c1 ?c2 ?c3).mono ?_)
  case c1 => have := HN.out; have := HE.out; omega
  case c2 => intro j hj; have := HN.out; have := HE.out; exact HD2.out.cell (by omega)
  case c3 => intro j hj; exact HD2.out.frozen _
  rintro e w2 ⟨rfl, rfl⟩
  go_wp2
  go_ret2

  refine ⟨by rw [HE.out]; rfl, ?_, ?_⟩
  · have := HD2.out.put (Lib.encodeRuneZ r) HN.out
    exact this
  · refine World.grownBy.trans (b := (w.alloc (.cells #[.bool false, .bool false, .int .i64 0] 108)).drewN nd) (grown_drewN (World.grownBy_alloc w _ _) nd) (grown_setCells _ G _ _)
/-- One escape, undone. -/
theorem escTo {b p inc G n cap : Nat} {l d bs : List Int} {m : Nat} (w : World) (hE : Esc l m bs) (hin : Rd w b p l) (hll : l.length ≤ 9223372036854775807) (hinc : l.length ≤ inc) (hD : Done w G n d) (hbG : b ≠ G) (hn : d.length + bs.length ≤ n)
    (ht : ∀ e : Nat, e < 117 → w.cell? ⟨2, e, none⟩ = some (.int .u8 (tb e))) :
    Calls Tryd.prog 79 #[.agg #[.bool false, .bool false, .int .i64 0], .slice (some ⟨b, p, none⟩) l.length inc, .slice (some ⟨G, d.length, none⟩) (n - d.length) cap] w fun e w' => e = .returned (.tuple #[.int .i64 (m : Int), .int .i64 (bs.length : Int)]) ∧ Done w' G n (d ++ bs) ∧ w.grownBy w' (some G) := by
  obtain ⟨h92, hml, h2, h⟩ := hE
  rcases h with ⟨hs, rfl, rfl⟩ | ⟨h117, h6, k, r, hdec, rfl, hr0, hr1⟩
  · have h0 : w.cell? ⟨b, p, none⟩ = some (.int .u8 92) := by have := hin 0 (by omega); rwa [h92] at this
    have h1 := hin 1 (by omega)
    have he : 0 ≤ l.getD 1 0 ∧ l.getD 1 0 < 117 := by rcases hs with h | h | h | h | h | h | h | h <;> rw [h] <;> decide
    have ht1 := ht (l.getD 1 0).toNat (by omega)
    rw [Int.toNat_of_nonneg he.1] at ht1
    refine (escShort (l.getD 1 0) _ w hs ht1 h0 h1 (by omega) hD (by simpa using hn)).mono ?_
    rintro e w' ⟨rfl, rfl⟩
    refine ⟨rfl, (hD.put [tb (l.getD 1 0)] hn).alloc _, grown_alloc_r (grown_setCells w G [.int .u8 (tb (l.getD 1 0))] d.length) _⟩
  · exact escU k r m w hdec hr0 hr1 hin hll h92 h117 (by omega) hinc hD hbG hn
/-- The place of the first backslash. -/
def ixB (c : Int) : List Int → Option Nat
  | [] => none
  | b :: l => if b = c then some 0 else (ixB c l).map (· + 1)
def toIB : Option Nat → Int
  | none => -1
  | some n => n
theorem indexB_list (c : Int) (h0 : 0 ≤ c) (h1 : c ≤ 255) : ∀ l : List Int, (∀ x ∈ l, 0 ≤ x ∧ x ≤ 255) → Lib.indexByte (Lib.bytesOf l) c.toNat.toUInt8 = toIB (ixB c l)
  | [], _ => rfl
  | b :: l, hb => by
    have ih := indexB_list c h0 h1 l (fun x hx => hb x (List.mem_cons_of_mem _ hx))
    have hb0 := hb b (List.mem_cons_self ..)
    have e : (b.toNat.toUInt8 == c.toNat.toUInt8) = decide (b = c) := by
      rw [Bool.eq_iff_iff, beq_iff_eq, decide_eq_true_iff]
      constructor
      · intro h
        have := congrArg UInt8.toNat h
        simp only [Nat.toUInt8, UInt8.toNat_ofNat'] at this
        omega
      · rintro rfl; rfl
    show Lib.indexByte (b.toNat.toUInt8 :: Lib.bytesOf l) c.toNat.toUInt8 = _
    rw [Lib.indexByte, e, ixB, ih]
    by_cases h : b = c
    · rw [decide_eq_true h, if_pos rfl, if_pos h]; rfl
    · rw [decide_eq_false h, if_neg (by decide), if_neg h]
      cases ixB c l with
      | none => rfl
      | some n =>
        have : ((n : Int) == -1) = false := by rw [beq_eq_false_iff_ne]; omega
        simp only [toIB, Option.map_some, this, Bool.false_eq_true, if_false]
        omega
set_option maxHeartbeats 1000000 in
set_option maxRecDepth 100000 in
/-- bytes.IndexByte. -/
theorem indexB {b p c : Nat} {l : List Int} (w : World) (hin : Rd w b p l) (hl : ∀ x ∈ l, 0 ≤ x ∧ x ≤ 255) :
    Calls Tryd.prog 78 #[.slice (some ⟨b, p, none⟩) l.length c, .int .u8 92] w fun e w' => e = .returned (.int .i64 (toIB (ixB 92 l))) ∧ w' = w := by
  have hx := Lib.run_indexByteSlice (P := Tryd.prog) w b p l.length c l rfl hin 92
  rw [indexB_list 92 (by omega) (by omega) l hl] at hx
  clear hin hl
  go_enter Tryd.func78, Tryd.ntmps78
  go_wp2
  rw [run_callFunc_extern Tryd.func95 (by kernel_rfl) (by kernel_rfl) (by kernel_rfl) (e := Extern.BytealgIndexByte.indexByte) (by kernel_rfl), hx]
  simp only [Result.andThen]
  rw [Oper.upon_value]
  go_wp2
  go_ret
  exact ⟨rfl, rfl⟩
/-- What a text's escapes stand for. -/
inductive Un : List Int → List Int → Prop
  | nil : Un [] []
  | char {c : Int} {l r : List Int} : c ≠ 92 → Un l r → Un (c :: l) (c :: r)
  | esc {l r bs : List Int} {m : Nat} : Esc l m bs → Un (l.drop m) r → Un l (bs ++ r)
theorem ixB_none {c : Int} : ∀ {l : List Int}, ixB c l = none → ∀ x ∈ l, x ≠ c
  | [], _, x, h => by cases h
  | b :: l, hn, x, hx => by
    rw [ixB] at hn
    by_cases hb : b = c
    · rw [if_pos hb] at hn; cases hn
    · rw [if_neg hb, Option.map_eq_none_iff] at hn
      rcases List.mem_cons.1 hx with rfl | h
      · exact hb
      · exact ixB_none hn x h
theorem ixB_some {c : Int} : ∀ {l : List Int} {n : Nat}, ixB c l = some n → n < l.length ∧ (l.drop n).getD 0 0 = c ∧ ∀ x ∈ l.take n, x ≠ c
  | [], n, h => by cases h
  | b :: l, n, h => by
    rw [ixB] at h
    by_cases hb : b = c
    · rw [if_pos hb] at h
      obtain rfl := Option.some.inj h
      exact ⟨by simp, by simpa using hb, fun x hx => by cases hx⟩
    · rw [if_neg hb] at h
      obtain ⟨m, hm, rfl⟩ := Option.map_eq_some_iff.1 h
      obtain ⟨a, b', d⟩ := ixB_some hm
      refine ⟨by simp; omega, by simpa using b', fun x hx => ?_⟩
      rw [List.take_succ_cons] at hx
      rcases List.mem_cons.1 hx with rfl | h
      · exact hb
      · exact d x h
theorem Un.plain {p l r : List Int} (hp : ∀ x ∈ p, x ≠ 92) (h : Un (p ++ l) r) : ∃ t, r = p ++ t ∧ Un l t := by
  induction p generalizing r with
  | nil => exact ⟨r, rfl, h⟩
  | cons c p ih =>
    have hc := hp c (List.mem_cons_self ..)
    rw [List.cons_append] at h
    cases h with
    | char _ h =>
      obtain ⟨t, rfl, ht⟩ := ih (fun x hx => hp x (List.mem_cons_of_mem _ hx)) h
      exact ⟨t, rfl, ht⟩
    | esc hE _ => exact absurd hE.1 (by simpa using hc)
theorem Un.escaped {l r : List Int} (h92 : l.getD 0 0 = 92) (h : Un l r) : ∃ m bs t, Esc l m bs ∧ r = bs ++ t ∧ Un (l.drop m) t := by
  cases h with
  | nil => simp at h92
  | char hc _ => exact absurd (by simpa using h92) hc
  | esc hE h => exact ⟨_, _, _, hE, rfl, h⟩
theorem Un.all_plain {l r : List Int} (hp : ∀ x ∈ l, x ≠ 92) (h : Un l r) : r = l := by
  have h' : Un (l ++ []) r := by rw [List.append_nil]; exact h
  obtain ⟨t, rfl, ht⟩ := Un.plain hp h'
  cases ht with
  | nil => rw [List.append_nil]
  | esc hE _ => have := hE.1; simp at this
set_option maxHeartbeats 1000000 in
set_option maxRecDepth 100000 in
/-- No backslash: the text itself. -/
theorem unescPlain {b p c : Nat} {l : List Int} (w : World) (out : Value) (hR : Rd w b p l) (hl : ∀ x ∈ l, 0 ≤ x ∧ x ≤ 255) (hn : ixB 92 l = none) :
    Calls Tryd.prog 66 #[.agg #[.bool false, .bool false, .int .i64 0], .slice (some ⟨b, p, none⟩) l.length c, out] w fun e w' => e = .returned (.tuple #[.slice (some ⟨b, p, none⟩) l.length c, .nilIface]) ∧ w' = w.alloc (.cells #[.bool false, .bool false, .int .i64 0] 108) := by
  have hR1 : Rd (w.alloc (.cells #[.bool false, .bool false, .int .i64 0] 108)) b p l := fun j hj => by
    have hc := hR j hj
    exact (World.grownBy_alloc w _ none).cell hc (by simp)
  have hi := indexB (c := c) (w.alloc (.cells #[.bool false, .bool false, .int .i64 0] 108)) hR1 hl
  rw [hn] at hi
  have HI := Aside0.mk hi
  clear hR hR1 hl hn hi
  go_enter Tryd.func66, Tryd.ntmps66
  go_wp2_with (go_at_call 78; refine HI.out.mono ?_)
  rintro e w1 ⟨rfl, rfl⟩
  simp only [toIB]
  go_wp2
  go_ret2
  exact ⟨rfl, rfl⟩
/-- What stands at the head of a round. -/
structure LoopI (w wr : World) (b G N : Nat) (r rest d t : List Int) (a : Nat) : Prop where
  read : Rd wr b a rest
  first : rest.getD 0 0 = 92
  pos : 0 < rest.length
  bytes : ∀ x ∈ rest, 0 ≤ x ∧ x ≤ 255
  un : Un rest t
  out : r = d ++ t
  done : Done wr G N d
  room : d.length + rest.length ≤ N
  grown : w.grownBy wr (some G)
  box : wr.heap[w.heap.size]? = some (.cells #[.bool false, .bool false, .int .i64 0] 108 (0, 0))
  table : ∀ e : Nat, e < 117 → wr.cell? ⟨2, e, none⟩ = some (.int .u8 (tb e))
set_option maxHeartbeats 4000000 in
set_option maxRecDepth 100000 in
/-- A row that has the room. -/
theorem unescRoom {b p c G : Nat} {l r : List Int} (w : World) (hR : Rd w b p l) (hl : ∀ x ∈ l, 0 ≤ x ∧ x ≤ 255) (hll : l.length ≤ 1000000) (hc : l.length ≤ c) (hD : Done w G l.length []) (hbG : b ≠ G) (q : Nat) (hq : ixB 92 l = some q) (hU : Un l r)
    (ht : ∀ e : Nat, e < 117 → w.cell? ⟨2, e, none⟩ = some (.int .u8 (tb e))) (htG : 2 ≠ G) :
    Calls Tryd.prog 66 #[.agg #[.bool false, .bool false, .int .i64 0], .slice (some ⟨b, p, none⟩) l.length c, .slice (some ⟨G, 0, none⟩) l.length l.length] w fun e w' => e = .returned (.tuple #[.slice (some ⟨G, 0, none⟩) r.length l.length, .nilIface]) ∧ Rd w' G 0 r ∧ w.grownBy w' (some G) := by
  have hG := hD.lt
  obtain ⟨N, hN⟩ : ∃ N, N = l.length := ⟨_, rfl⟩
  obtain ⟨hql, hq92, hqp⟩ := ixB_some hq
  have hg0 : w.grownBy (w.alloc (.cells #[.bool false, .bool false, .int .i64 0] 108)) (some G) := World.grownBy_alloc w _ _
  have hR1 : Rd (w.alloc (.cells #[.bool false, .bool false, .int .i64 0] 108)) b p l := hR.keep hg0 hbG
  have hD1 : Done (w.alloc (.cells #[.bool false, .bool false, .int .i64 0] 108)) G l.length [] := hD.alloc _
  have hbx : (w.alloc (.cells #[.bool false, .bool false, .int .i64 0] 108)).heap[w.heap.size]? = some (.cells #[.bool false, .bool false, .int .i64 0] 108 (0, 0)) := heap_alloc_new w _
  have hi := indexB (c := c) (w.alloc (.cells #[.bool false, .bool false, .int .i64 0] 108)) hR1 hl
  rw [hq] at hi
  -- the first stretch
  obtain ⟨t, hrt, hUt⟩ := Un.plain (p := l.take q) (l := l.drop q) hqp (by rw [List.take_append_drop]; exact hU)
  have htk : (l.take q).length = q := by rw [List.length_take]; omega
  obtain ⟨w1, hcp, hD2, hg1⟩ := copy_on (ao := 0) (cs := l.take q) (a := p) (b := b) l.length l.length c hD1 (hR1.take q) (by omega) (by simp only [List.length_nil]; omega) (fun _ => rfl)
  rw [htk] at hcp
  rw [List.nil_append] at hD2
  obtain ⟨a1, ha1, hs1⟩ := cut_l b p l.length c q (by omega) hc
  obtain ⟨o1, ho1, hs2⟩ := cut_l G 0 l.length l.length q (by omega) (Nat.le_refl _)
  obtain rfl : a1 = p + q := ha1 hql
  obtain rfl : o1 = 0 + q := ho1 hql
  rw [Nat.zero_add] at hs2
  have hs3 := fun W_ => cut_0h G 0 l.length l.length l.length (Nat.le_refl _) W_
  have hs4 := fun W_ => cut_h b p l.length c q (by omega) W_
  have hq1 : ((q : Int) == -1) = false := by rw [beq_eq_false_iff_ne]; omega
  have hgw : w.grownBy w1 (some G) := hg0.trans hg1
  have hRq : Rd w1 b (p + q) (l.drop q) := (hR1.keep hg1 hbG).drop (fun _ => rfl)
  have hq0 : (l.drop q).length = l.length - q := by rw [List.length_drop]
  have hbx1 : w1.heap[w.heap.size]? = some (.cells #[.bool false, .bool false, .int .i64 0] 108 (0, 0)) := (hg1.block w.heap.size (by simp) (fun e => by have := Option.some.inj e; omega)).trans hbx
  have hst : LoopI w w1 b G l.length r (l.drop q) (l.take q) t (p + q) := ⟨hRq, hq92, by omega, fun x hx => hl x (List.mem_of_mem_drop hx), hUt, hrt, hD2, by omega, hgw, hbx1, fun e he => hgw.cell (ht e he) (fun e => htG (Option.some.inj e))⟩
  have HI := Aside0.mk hi
  have HST := Aside0.mk hst
  have HG := Aside0.mk hG
  have HTK := Aside0.mk htk
  have HQ0 := Aside0.mk hq0
  have HLL := Aside0.mk hll
  clear hR hR1 hl hD hD1 hbx hi hrt hUt htk hD2 hgw hRq hg0 hg1 hU hq ht ha1 ho1 hq92 hqp hG hq0 hbx1 hst
  go_enter Tryd.func66, Tryd.ntmps66
  go_wp2_with (go_at_call 78; refine HI.out.mono ?_)
  rintro e w2 ⟨rfl, rfl⟩
  simp only [toIB]
  go_wp2
  clear hcp hs1 hs2 hs3 hs4 hq1 HI
  go_loopg [1, 9] (l.drop q).length (fun kq v1 v9 wr => ∃ (rest d t : List Int) (a ci cb : Nat), kq = rest.length ∧ v1 = .slice (some ⟨b, a, none⟩) rest.length ci ∧ v9 = .slice (some ⟨G, d.length, none⟩) (l.length - d.length) cb ∧ rest.length ≤ ci ∧ l.length - d.length ≤ cb ∧ Aside0 (LoopI w wr b G l.length r rest d t a))
  case atStart => exact ⟨l.drop q, l.take q, t, p + q, c - q, l.length - q, rfl, by rw [HQ0.out], by rw [HTK.out], by have := HQ0.out; omega, by have := HTK.out; omega, HST⟩
  case round =>
    clear HST
    obtain ⟨rest, d, t1, a, ci, cb, hk, rfl, rfl, hci, hcb, HR⟩ := hrel
    have hL := HR.out
    obtain ⟨m, bs, t2, hE, ht1, hU2⟩ := Un.escaped hL.first hL.un
    have hml := hE.2.1
    have hm2 := hE.2.2.1
    have hbl := hE.le
    have hroom := hL.room
    have hlll := HLL.out
    have hc0 : wr.cell? ⟨w.heap.size, 0, none⟩ = some (.bool false) := by simp [World.cell?, hL.box]
    have hc1 : wr.cell? ⟨w.heap.size, 1, none⟩ = some (.bool false) := by simp [World.cell?, hL.box]
    have hc2 : wr.cell? ⟨w.heap.size, 2, none⟩ = some (.int .i64 0) := by simp [World.cell?, hL.box]
    have HC := Aside0.mk (escTo (cap := cb) wr hE hL.read (by omega) hci hL.done hbG (by omega) hL.table)
    have hm1 : ((m : Int) == -1) = false := by rw [beq_eq_false_iff_ne]; omega
    obtain ⟨L1, hL1⟩ : ∃ L, L = rest.drop m := ⟨_, rfl⟩
    have hlen : L1.length = rest.length - m := by rw [hL1]; exact List.length_drop
    rw [← hL1] at hU2
    have HL1 := Aside0.mk hL1
    clear hL1
    obtain ⟨a2, ha2, hs1⟩ := cut_l b a rest.length ci m hml hci
    obtain ⟨o2, ho2, hs2⟩ := cut_l G d.length (l.length - d.length) cb bs.length (by omega) hcb
    rw [← hlen] at hs1
    have HE := Aside0.mk hE
    have HA2 := Aside0.mk ha2
    have HO2 := Aside0.mk ho2
    have HT1 := Aside0.mk ht1
    have HU2 := Aside0.mk hU2
    have HK := Aside0.mk hk
    have HLEN := Aside0.mk hlen
    have HM := Aside0.mk (And.intro hml (And.intro hm2 (And.intro hbl hroom)))
    have HCI := Aside0.mk (And.intro hci hcb)
    clear hE ha2 ho2 ht1 hU2 hL hk hlen hml hm2 hbl hroom hlll hci hcb
    go_wp2_with (go_at_call 79; refine HC.out.mono ?_)
    rintro e w3 ⟨rfl, hD3, hg3⟩
    have hL := HR.out
    have hR3 : Rd w3 b a2 L1 := by rw [HL1.out]; exact (hL.read.keep hg3 hbG).drop HA2.out
    have hby : ∀ x ∈ L1, 0 ≤ x ∧ x ≤ 255 := fun x hx => hL.bytes x (List.mem_of_mem_drop (by rw [← HL1.out]; exact hx))
    have hi := indexB (c := ci - m) w3 hR3 hby
    have hlbs : (d ++ bs).length = d.length + bs.length := List.length_append
    obtain ⟨hml, hm2, hbl, hroom⟩ := HM.out
    obtain ⟨hci, hcb⟩ := HCI.out
    have hlen := HLEN.out
    cases hx : ixB 92 L1 with
    | none =>
      rw [hx] at hi
      have ht2 : t2 = L1 := Un.all_plain (ixB_none hx) HU2.out
      obtain ⟨w4, hcp, hD4, hg4⟩ := copy_on (ao := o2) (a := a2) (b := b) (cs := L1) (l.length - d.length - bs.length) (cb - bs.length) (ci - m) hD3 hR3 (by omega) (by omega) (fun h => by rw [hlbs]; exact HO2.out (by omega))
      obtain ⟨o3, _, hs3⟩ := cut_l G o2 (l.length - d.length - bs.length) (cb - bs.length) L1.length (by omega) (by omega)
      have hrl : r.length = d.length + bs.length + L1.length := by rw [hL.out, HT1.out, ht2]; simp [List.length_append]; omega
      have hs4 := fun W_ => cut_h G 0 l.length l.length r.length (by omega) W_
      have hfin : Rd w4 G 0 r := by
        have := hD4.read
        rw [hL.out, HT1.out, ht2, ← List.append_assoc]
        exact this
      have hgf : w.grownBy w4 (some G) := hL.grown.trans (hg3.trans hg4)
      have hsub : ((l.length : Int) - ((l.length - d.length - bs.length - L1.length : Nat) : Int)) = (r.length : Int) := by omega
      have HI := Aside0.mk hi
      have HF := Aside0.mk (And.intro hfin hgf)
      clear hi hfin hgf hD3 hD4 hg3 hg4 hR3 hby hL ht2 hx hlen hrl hlbs
      go_wp2_with (go_at_call 78; refine HI.out.mono ?_)
      rintro e w5 ⟨rfl, rfl⟩
      simp only [toIB]
      go_wp2
      go_ret2
      exact ⟨rfl, HF.out.1, HF.out.2⟩
    | some q2 =>
      rw [hx] at hi
      obtain ⟨hq2l, hq292, hq2p⟩ := ixB_some hx
      obtain ⟨t3, ht3, hU3⟩ := Un.plain (p := L1.take q2) (l := L1.drop q2) hq2p (by rw [List.take_append_drop]; exact HU2.out)
      have htk2 : (L1.take q2).length = q2 := by rw [List.length_take]; omega
      obtain ⟨w4, hcp, hD4, hg4⟩ := copy_on (ao := o2) (a := a2) (b := b) (cs := L1.take q2) (l.length - d.length - bs.length) (cb - bs.length) (ci - m) hD3 (hR3.take q2) (by omega) (by omega) (fun h => by rw [hlbs]; exact HO2.out (by omega))
      rw [htk2] at hcp
      obtain ⟨o3, ho3, hs3⟩ := cut_l G o2 (l.length - d.length - bs.length) (cb - bs.length) q2 (by omega) (by omega)
      obtain ⟨a3, ha3, hs4⟩ := cut_l b a2 L1.length (ci - m) q2 (by omega) (by omega)
      have hs5 := fun W_ => cut_h b a2 L1.length (ci - m) q2 (by omega) W_
      have hq1 : ((q2 : Int) == -1) = false := by rw [beq_eq_false_iff_ne]; omega
      have hl4 : (d ++ bs ++ L1.take q2).length = d.length + bs.length + q2 := by rw [List.length_append, hlbs, htk2]
      have hl5 : (L1.drop q2).length = L1.length - q2 := List.length_drop
      have hgw4 : wr.grownBy w4 (some G) := hg3.trans hg4
      have hG := HG.out
      have hbxw : w4.heap[w.heap.size]? = some (.cells #[.bool false, .bool false, .int .i64 0] 108 (0, 0)) := (hgw4.block w.heap.size (Array.getElem?_eq_some_iff.1 hL.box).1 (fun e => by have := Option.some.inj e; omega)).trans hL.box
      have hnew : LoopI w w4 b G l.length r (L1.drop q2) (d ++ bs ++ L1.take q2) t3 a3 :=
        ⟨((hR3.keep hg4 hbG).drop ha3), hq292, by omega, fun x hx => hby x (List.mem_of_mem_drop hx), hU3, by rw [hL.out, HT1.out, ht3]; simp [List.append_assoc], hD4, by omega, hL.grown.trans hgw4, hbxw, fun e he => hgw4.cell (hL.table e he) (fun e => htG (Option.some.inj e))⟩
      have HI := Aside0.mk hi
      have HN := Aside0.mk hnew
      have HO3 := Aside0.mk ho3
      have HL4 := Aside0.mk hl4
      have HL5 := Aside0.mk hl5
      have HQ2 := Aside0.mk hq2l
      clear hi hnew hD3 hD4 hg3 hg4 hR3 hby hL hx ht3 hU3 htk2 hq292 hq2p hgw4 hbxw ha3 ho3 hl4 hl5 hG hlen hlbs
      go_wp2_with (go_at_call 78; refine HI.out.mono ?_)
      rintro e w5 ⟨rfl, rfl⟩
      simp only [toIB]
      go_wp2
      go_roundg (L1.drop q2).length
      case measure => have := HK.out; have := HL5.out; have := HLEN.out; have := HM.out; have := HQ2.out; omega
      case rel =>
        obtain ⟨hml, hm2, hbl, hroom⟩ := HM.out
        obtain ⟨hci, hcb⟩ := HCI.out
        have hlen := HLEN.out
        have hq2 := HQ2.out
        refine ⟨L1.drop q2, d ++ bs ++ L1.take q2, t3, a3, ci - m - q2, cb - bs.length - q2, rfl, by rw [HL5.out], ?_, by rw [HL5.out]; omega, by rw [HL4.out]; omega, HN⟩
        rw [HL4.out, HO3.out (by omega), HO2.out (by omega), show l.length - d.length - bs.length - q2 = l.length - (d.length + bs.length + q2) by omega]
set_option maxHeartbeats 4000000 in
set_option maxRecDepth 100000 in
/-- A row that lacks the room: a new one. -/
theorem unescNew {b p c : Nat} {l r : List Int} (w : World) (oa : Option Addr) (ol oc : Nat) (hoc : oc < l.length) (hR : Rd w b p l) (hl : ∀ x ∈ l, 0 ≤ x ∧ x ≤ 255) (hll : l.length ≤ 1000000) (hc : l.length ≤ c) (hb0 : b < w.heap.size) (q : Nat) (hq : ixB 92 l = some q) (hU : Un l r)
    (ht : ∀ e : Nat, e < 117 → w.cell? ⟨2, e, none⟩ = some (.int .u8 (tb e))) :
    Calls Tryd.prog 66 #[.agg #[.bool false, .bool false, .int .i64 0], .slice (some ⟨b, p, none⟩) l.length c, .slice oa ol oc] w fun e w' => e = .returned (.tuple #[.slice (some ⟨w.heap.size + 1, 0, none⟩) r.length l.length, .nilIface]) ∧ Rd w' (w.heap.size + 1) 0 r ∧ w.grownBy w' (some (w.heap.size + 1)) := by
  obtain ⟨G, hGe⟩ : ∃ G, G = w.heap.size + 1 := ⟨_, rfl⟩
  have hbG : b ≠ G := by omega
  have htl : 2 < w.heap.size := Lib.lt_of_cell (ht 0 (by omega))
  have htG : 2 ≠ G := by omega
  rw [← hGe]
  obtain ⟨N, hN⟩ : ∃ N, N = l.length := ⟨_, rfl⟩
  obtain ⟨hql, hq92, hqp⟩ := ixB_some hq
  have hg00 : w.grownBy (w.alloc (.cells #[.bool false, .bool false, .int .i64 0] 108)) (some G) := World.grownBy_alloc w _ _
  have hR0 : Rd (w.alloc (.cells #[.bool false, .bool false, .int .i64 0] 108)) b p l := hR.keep hg00 hbG
  have hg0 : w.grownBy ((w.alloc (.cells #[.bool false, .bool false, .int .i64 0] 108)).alloc (.cells (madeCells #[.int .u8 0] l.length) 5)) (some G) := hg00.trans (World.grownBy_alloc _ _ _)
  have hR1 : Rd ((w.alloc (.cells #[.bool false, .bool false, .int .i64 0] 108)).alloc (.cells (madeCells #[.int .u8 0] l.length) 5)) b p l := hR.keep hg0 hbG
  have hD1 : Done ((w.alloc (.cells #[.bool false, .bool false, .int .i64 0] 108)).alloc (.cells (madeCells #[.int .u8 0] l.length) 5)) G l.length [] := by
    have hsz : (w.alloc (.cells #[.bool false, .bool false, .int .i64 0] 108)).heap.size = w.heap.size + 1 := by simp
    have := World.rowIs_made (w.alloc (.cells #[.bool false, .bool false, .int .i64 0] 108)) (.int .u8 0) l.length 5
    rw [hsz, ← hGe] at this
    exact ⟨_, this, by simp, fun j hj => by cases hj⟩
  have hmk := fun W_ => run_make_row' (P := Tryd.prog) 53 5 (.int .u8 0) 1 Tryd.underlying53 (by kernel_rfl) rfl .i64 .i64 l.length (by omega) (by omega) W_
  have hbx : ((w.alloc (.cells #[.bool false, .bool false, .int .i64 0] 108)).alloc (.cells (madeCells #[.int .u8 0] l.length) 5)).heap[w.heap.size]? = some (.cells #[.bool false, .bool false, .int .i64 0] 108 (0, 0)) := blk_alloc (heap_alloc_new w _) _
  have hi := indexB (c := c) (w.alloc (.cells #[.bool false, .bool false, .int .i64 0] 108)) hR0 hl
  rw [hq] at hi
  -- the first stretch
  obtain ⟨t, hrt, hUt⟩ := Un.plain (p := l.take q) (l := l.drop q) hqp (by rw [List.take_append_drop]; exact hU)
  have htk : (l.take q).length = q := by rw [List.length_take]; omega
  have hGsz : w.heap.size < G := by omega
  obtain ⟨w1, hcp, hD2, hg1⟩ := copy_on (ao := 0) (cs := l.take q) (a := p) (b := b) l.length l.length c hD1 (hR1.take q) (by omega) (by simp only [List.length_nil]; omega) (fun _ => rfl)
  rw [htk] at hcp
  rw [List.nil_append] at hD2
  obtain ⟨a1, ha1, hs1⟩ := cut_l b p l.length c q (by omega) hc
  obtain ⟨o1, ho1, hs2⟩ := cut_l G 0 l.length l.length q (by omega) (Nat.le_refl _)
  obtain rfl : a1 = p + q := ha1 hql
  obtain rfl : o1 = 0 + q := ho1 hql
  rw [Nat.zero_add] at hs2
  have hoc1 : decide (oc < l.length) = true := decide_eq_true hoc
  have hs4 := fun W_ => cut_h b p l.length c q (by omega) W_
  have hq1 : ((q : Int) == -1) = false := by rw [beq_eq_false_iff_ne]; omega
  have hgw : w.grownBy w1 (some G) := hg0.trans hg1
  have hRq : Rd w1 b (p + q) (l.drop q) := (hR1.keep hg1 hbG).drop (fun _ => rfl)
  have hq0 : (l.drop q).length = l.length - q := by rw [List.length_drop]
  have hbx1 : w1.heap[w.heap.size]? = some (.cells #[.bool false, .bool false, .int .i64 0] 108 (0, 0)) := (hg1.block w.heap.size (by simp; omega) (fun e => by have := Option.some.inj e; omega)).trans hbx
  have hst : LoopI w w1 b G l.length r (l.drop q) (l.take q) t (p + q) := ⟨hRq, hq92, by omega, fun x hx => hl x (List.mem_of_mem_drop hx), hUt, hrt, hD2, by omega, hgw, hbx1, fun e he => hgw.cell (ht e he) (fun e => htG (Option.some.inj e))⟩
  have HI := Aside0.mk hi
  have HST := Aside0.mk hst
  have HMK := Aside0.mk hmk
  have HTK := Aside0.mk htk
  have HQ0 := Aside0.mk hq0
  have HLL := Aside0.mk hll
  clear hR hR0 hg00 hR1 hl hD1 htl hbx hi hrt hUt htk hD2 hgw hRq hg0 hg1 hU hq ht ha1 ho1 hq92 hqp hq0 hbx1 hst
  subst hGe
  go_enter Tryd.func66, Tryd.ntmps66
  go_wp2_with (go_at_call 78; refine HI.out.mono ?_)
  rintro e w2 ⟨rfl, rfl⟩
  simp only [toIB]
  go_wp2
  clear hcp hs1 hs2 hs4 hq1 HI
  go_loopg [1, 9] (l.drop q).length (fun kq v1 v9 wr => ∃ (rest d t : List Int) (a ci cb : Nat), kq = rest.length ∧ v1 = .slice (some ⟨b, a, none⟩) rest.length ci ∧ v9 = .slice (some ⟨(w.heap.size + 1), d.length, none⟩) (l.length - d.length) cb ∧ rest.length ≤ ci ∧ l.length - d.length ≤ cb ∧ Aside0 (LoopI w wr b (w.heap.size + 1) l.length r rest d t a))
  case atStart => exact ⟨l.drop q, l.take q, t, p + q, c - q, l.length - q, rfl, by rw [HQ0.out], by rw [HTK.out], by have := HQ0.out; omega, by have := HTK.out; omega, HST⟩
  case round =>
    clear HST
    obtain ⟨rest, d, t1, a, ci, cb, hk, rfl, rfl, hci, hcb, HR⟩ := hrel
    have hL := HR.out
    obtain ⟨m, bs, t2, hE, ht1, hU2⟩ := Un.escaped hL.first hL.un
    have hml := hE.2.1
    have hm2 := hE.2.2.1
    have hbl := hE.le
    have hroom := hL.room
    have hlll := HLL.out
    have hc0 : wr.cell? ⟨w.heap.size, 0, none⟩ = some (.bool false) := by simp [World.cell?, hL.box]
    have hc1 : wr.cell? ⟨w.heap.size, 1, none⟩ = some (.bool false) := by simp [World.cell?, hL.box]
    have hc2 : wr.cell? ⟨w.heap.size, 2, none⟩ = some (.int .i64 0) := by simp [World.cell?, hL.box]
    have HC := Aside0.mk (escTo (cap := cb) wr hE hL.read (by omega) hci hL.done hbG (by omega) hL.table)
    have hm1 : ((m : Int) == -1) = false := by rw [beq_eq_false_iff_ne]; omega
    obtain ⟨L1, hL1⟩ : ∃ L, L = rest.drop m := ⟨_, rfl⟩
    have hlen : L1.length = rest.length - m := by rw [hL1]; exact List.length_drop
    rw [← hL1] at hU2
    have HL1 := Aside0.mk hL1
    clear hL1
    obtain ⟨a2, ha2, hs1⟩ := cut_l b a rest.length ci m hml hci
    obtain ⟨o2, ho2, hs2⟩ := cut_l (w.heap.size + 1) d.length (l.length - d.length) cb bs.length (by omega) hcb
    rw [← hlen] at hs1
    have HE := Aside0.mk hE
    have HA2 := Aside0.mk ha2
    have HO2 := Aside0.mk ho2
    have HT1 := Aside0.mk ht1
    have HU2 := Aside0.mk hU2
    have HK := Aside0.mk hk
    have HLEN := Aside0.mk hlen
    have HM := Aside0.mk (And.intro hml (And.intro hm2 (And.intro hbl hroom)))
    have HCI := Aside0.mk (And.intro hci hcb)
    clear hE ha2 ho2 ht1 hU2 hL hk hlen hml hm2 hbl hroom hlll hci hcb
    go_wp2_with (go_at_call 79; refine HC.out.mono ?_)
    rintro e w3 ⟨rfl, hD3, hg3⟩
    have hL := HR.out
    have hR3 : Rd w3 b a2 L1 := by rw [HL1.out]; exact (hL.read.keep hg3 hbG).drop HA2.out
    have hby : ∀ x ∈ L1, 0 ≤ x ∧ x ≤ 255 := fun x hx => hL.bytes x (List.mem_of_mem_drop (by rw [← HL1.out]; exact hx))
    have hi := indexB (c := ci - m) w3 hR3 hby
    have hlbs : (d ++ bs).length = d.length + bs.length := List.length_append
    obtain ⟨hml, hm2, hbl, hroom⟩ := HM.out
    obtain ⟨hci, hcb⟩ := HCI.out
    have hlen := HLEN.out
    cases hx : ixB 92 L1 with
    | none =>
      rw [hx] at hi
      have ht2 : t2 = L1 := Un.all_plain (ixB_none hx) HU2.out
      obtain ⟨w4, hcp, hD4, hg4⟩ := copy_on (ao := o2) (a := a2) (b := b) (cs := L1) (l.length - d.length - bs.length) (cb - bs.length) (ci - m) hD3 hR3 (by omega) (by omega) (fun h => by rw [hlbs]; exact HO2.out (by omega))
      obtain ⟨o3, _, hs3⟩ := cut_l (w.heap.size + 1) o2 (l.length - d.length - bs.length) (cb - bs.length) L1.length (by omega) (by omega)
      have hrl : r.length = d.length + bs.length + L1.length := by rw [hL.out, HT1.out, ht2]; simp [List.length_append]; omega
      have hs4 := fun W_ => cut_h (w.heap.size + 1) 0 l.length l.length r.length (by omega) W_
      have hfin : Rd w4 (w.heap.size + 1) 0 r := by
        have := hD4.read
        rw [hL.out, HT1.out, ht2, ← List.append_assoc]
        exact this
      have hgf : w.grownBy w4 (some (w.heap.size + 1)) := hL.grown.trans (hg3.trans hg4)
      have hsub : ((l.length : Int) - ((l.length - d.length - bs.length - L1.length : Nat) : Int)) = (r.length : Int) := by omega
      have HI := Aside0.mk hi
      have HF := Aside0.mk (And.intro hfin hgf)
      clear hi hfin hgf hD3 hD4 hg3 hg4 hR3 hby hL ht2 hx hlen hrl hlbs
      go_wp2_with (go_at_call 78; refine HI.out.mono ?_)
      rintro e w5 ⟨rfl, rfl⟩
      simp only [toIB]
      go_wp2
      go_ret2
      exact ⟨rfl, HF.out.1, HF.out.2⟩
    | some q2 =>
      rw [hx] at hi
      obtain ⟨hq2l, hq292, hq2p⟩ := ixB_some hx
      obtain ⟨t3, ht3, hU3⟩ := Un.plain (p := L1.take q2) (l := L1.drop q2) hq2p (by rw [List.take_append_drop]; exact HU2.out)
      have htk2 : (L1.take q2).length = q2 := by rw [List.length_take]; omega
      obtain ⟨w4, hcp, hD4, hg4⟩ := copy_on (ao := o2) (a := a2) (b := b) (cs := L1.take q2) (l.length - d.length - bs.length) (cb - bs.length) (ci - m) hD3 (hR3.take q2) (by omega) (by omega) (fun h => by rw [hlbs]; exact HO2.out (by omega))
      rw [htk2] at hcp
      obtain ⟨o3, ho3, hs3⟩ := cut_l (w.heap.size + 1) o2 (l.length - d.length - bs.length) (cb - bs.length) q2 (by omega) (by omega)
      obtain ⟨a3, ha3, hs4⟩ := cut_l b a2 L1.length (ci - m) q2 (by omega) (by omega)
      have hs5 := fun W_ => cut_h b a2 L1.length (ci - m) q2 (by omega) W_
      have hq1 : ((q2 : Int) == -1) = false := by rw [beq_eq_false_iff_ne]; omega
      have hl4 : (d ++ bs ++ L1.take q2).length = d.length + bs.length + q2 := by rw [List.length_append, hlbs, htk2]
      have hl5 : (L1.drop q2).length = L1.length - q2 := List.length_drop
      have hgw4 : wr.grownBy w4 (some (w.heap.size + 1)) := hg3.trans hg4
      have hbxw : w4.heap[w.heap.size]? = some (.cells #[.bool false, .bool false, .int .i64 0] 108 (0, 0)) := (hgw4.block w.heap.size (Array.getElem?_eq_some_iff.1 hL.box).1 (fun e => by have := Option.some.inj e; omega)).trans hL.box
      have hnew : LoopI w w4 b (w.heap.size + 1) l.length r (L1.drop q2) (d ++ bs ++ L1.take q2) t3 a3 :=
        ⟨((hR3.keep hg4 hbG).drop ha3), hq292, by omega, fun x hx => hby x (List.mem_of_mem_drop hx), hU3, by rw [hL.out, HT1.out, ht3]; simp [List.append_assoc], hD4, by omega, hL.grown.trans hgw4, hbxw, fun e he => hgw4.cell (hL.table e he) (fun e => htG (Option.some.inj e))⟩
      have HI := Aside0.mk hi
      have HN := Aside0.mk hnew
      have HO3 := Aside0.mk ho3
      have HL4 := Aside0.mk hl4
      have HL5 := Aside0.mk hl5
      have HQ2 := Aside0.mk hq2l
      clear hi hnew hD3 hD4 hg3 hg4 hR3 hby hL hx ht3 hU3 htk2 hq292 hq2p hgw4 hbxw ha3 ho3 hl4 hl5 hlen hlbs
      go_wp2_with (go_at_call 78; refine HI.out.mono ?_)
      rintro e w5 ⟨rfl, rfl⟩
      simp only [toIB]
      go_wp2
      go_roundg (L1.drop q2).length
      case measure => have := HK.out; have := HL5.out; have := HLEN.out; have := HM.out; have := HQ2.out; omega
      case rel =>
        obtain ⟨hml, hm2, hbl, hroom⟩ := HM.out
        obtain ⟨hci, hcb⟩ := HCI.out
        have hlen := HLEN.out
        have hq2 := HQ2.out
        refine ⟨L1.drop q2, d ++ bs ++ L1.take q2, t3, a3, ci - m - q2, cb - bs.length - q2, rfl, by rw [HL5.out], ?_, by rw [HL5.out]; omega, by rw [HL4.out]; omega, HN⟩
        rw [HL4.out, HO3.out (by omega), HO2.out (by omega), show l.length - d.length - bs.length - q2 = l.length - (d.length + bs.length + q2) by omega]
theorem tb_byte : ∀ e : Nat, e < 117 → 0 ≤ tb e ∧ tb e ≤ 255 := by decide +kernel
theorem Un.bytes {l r : List Int} (h : Un l r) (hl : ∀ x ∈ l, 0 ≤ x ∧ x ≤ 255) : ∀ x ∈ r, 0 ≤ x ∧ x ≤ 255 := by
  induction h with
  | nil => intro x hx; cases hx
  | char hc h ih =>
    intro x hx
    rcases List.mem_cons.1 hx with rfl | hx
    · exact hl _ (List.mem_cons_self ..)
    · exact ih (fun y hy => hl y (List.mem_cons_of_mem _ hy)) x hx
  | esc hE h ih =>
    intro x hx
    rcases List.mem_append.1 hx with hx | hx
    · obtain ⟨_, hml, h2, hc⟩ := hE
      rcases hc with ⟨hs, _, rfl⟩ | ⟨_, _, k, q, _, rfl, _, _⟩
      · rw [List.mem_singleton] at hx
        rw [hx]
        rcases hs with e | e | e | e | e | e | e | e <;> rw [e]
        · exact tb_byte 34 (by omega)
        · exact tb_byte 92 (by omega)
        · exact tb_byte 47 (by omega)
        · exact tb_byte 98 (by omega)
        · exact tb_byte 102 (by omega)
        · exact tb_byte 110 (by omega)
        · exact tb_byte 114 (by omega)
        · exact tb_byte 116 (by omega)
      · have := Lib.encodeRuneZ_byte q x hx; omega
    · exact ih (fun y hy => hl y (List.mem_of_mem_drop hy)) x hx
set_option maxHeartbeats 1000000 in
set_option maxRecDepth 100000 in
theorem wrap47 (i o : Value) (R : Value → World → Prop) (w : World) (h0 : w.cell? ⟨0, 0, none⟩ = some (.bool false)) (h1 : w.cell? ⟨0, 1, none⟩ = some (.bool false)) (h2 : w.cell? ⟨0, 2, none⟩ = some (.int .i64 0))
    (h : Calls Tryd.prog 66 #[.agg #[.bool false, .bool false, .int .i64 0], i, o] w fun e w' => ∃ v, e = .returned (.tuple #[v, .nilIface]) ∧ R v w') :
    Calls Tryd.prog 47 #[i, o] w fun e w' => ∃ v, e = .returned (.tuple #[v, .nilIface]) ∧ R v w' := by
  have H := Aside0.mk h
  clear h
  go_enter Tryd.func47, Tryd.ntmps47
  go_wp2_with (go_at_call 66; refine H.out.mono ?_)
  rintro e w1 ⟨v, rfl, hR⟩
  have HR := Aside0.mk hR
  clear hR
  go_wp2
  refine bodyPost_ret (v := .tuple #[v, .nilIface]) (by simp [results, Tryd.results47, go_sem]) rfl ⟨v, rfl, HR.out⟩
theorem back_str {w : World} {A c : Nat} {r : List Int} (hR : Rd w A 0 r) (hb : ∀ x ∈ r, 0 ≤ x ∧ x ≤ 255) : (convert 53 9 (.slice (some ⟨A, 0, none⟩) r.length c)).run Tryd.prog w = .ok (.string (strOfNums r)) w := by
  have hl : (r.map fun x => UInt8.ofNat x.toNat).length = r.length := List.length_map _
  have h := run_convert_bytes_back (P := Tryd.prog) w 53 9 5 ⟨A, 0, none⟩ c (r.map fun x => UInt8.ofNat x.toNat) Tryd.underlying53 Tryd.underlying5 Tryd.underlying9 (fun j hj => by
    rw [hl] at hj
    rw [add_at, hR j hj, List.getElem_map, List.getD_eq_getElem?_getD, List.getElem?_eq_getElem hj]
    have := hb _ (List.getElem_mem hj)
    simp only [Option.getD_some]
    congr 2
    rw [UInt8.toNat_ofNat']
    omega)
  rw [hl] at h
  exact h
set_option maxHeartbeats 2000000 in
set_option maxRecDepth 100000 in
/-- The door: Unescape into room for all of the text. -/
theorem jpUn (s : ByteArray) (r : List Int) (w : World) (hs : s.size ≤ 131072) (hU : Un (bytesOf s) r) (h0 : w.cell? ⟨0, 0, none⟩ = some (.bool false)) (h1 : w.cell? ⟨0, 1, none⟩ = some (.bool false)) (h2 : w.cell? ⟨0, 2, none⟩ = some (.int .i64 0))
    (ht : ∀ e : Nat, e < 117 → w.cell? ⟨2, e, none⟩ = some (.int .u8 (tb e))) :
    Calls Tryd.prog 25 #[.string s, .int .i64 s.size] w fun e w' => e = .returned (.tuple #[.string (strOfNums r), .bool true]) ∧ Below w.heap.size w w' := by
  have hby : ∀ x ∈ bytesOf s, 0 ≤ x ∧ x ≤ 255 := by
    intro x hx
    simp only [bytesOf, List.mem_map] at hx
    obtain ⟨c, _, rfl⟩ := hx
    have := c.toNat_lt
    omega
  have hrb := Un.bytes hU hby
  have hlen : (bytesOf s).length = s.size := bytesOf_length s
  obtain ⟨cap, hcap⟩ : ∃ c, c = grownCap w s.size 0 5 := ⟨_, rfl⟩
  have hcg : s.size ≤ cap := by rw [hcap]; exact grownCap_ge ..
  have hconv := run_bytes_of_string (P := Tryd.prog) w 9 53 5 s Tryd.underlying9 Tryd.underlying53 Tryd.underlying5
  rw [← hcap] at hconv
  obtain ⟨C, hC⟩ : ∃ C, C = bytesRow s cap := ⟨_, rfl⟩
  have hCa : ∀ j (hj : j < s.data.size), C[j]? = some (.int .u8 (s.data[j].toNat : Int)) := fun j hj => by rw [hC]; exact bytesRow_at s cap j hj
  rw [← hC] at hconv
  clear hC hcap
  obtain ⟨W0, hW0⟩ : ∃ W, W = w.drew.alloc (.cells C 5 (C.size, C.size + 1)) := ⟨_, rfl⟩
  rw [← hW0] at hconv
  have hsz0 : W0.heap.size = w.heap.size + 1 := by rw [hW0]; simp
  have hB0 : Below w.heap.size w W0 := by rw [hW0]; exact ((Below.refl _ w).drew).alloc (Nat.le_refl _) _
  have hR0 : Rd W0 w.heap.size 0 (bytesOf s) := fun j hj => by
    rw [hlen] at hj
    have hj' : j < s.data.size := hj
    rw [hW0, Nat.zero_add]
    refine (World.cell?_alloc_mark w.drew C 5 _ j).trans ((hCa j hj').trans ?_)
    rw [bytesOf, List.getD_eq_getElem?_getD, List.getElem?_map, List.getElem?_eq_getElem (by rw [Array.length_toList]; exact hj')]
    simp
  clear hW0 hCa
  obtain ⟨M, hM⟩ : ∃ M, M = s.size % 65536 := ⟨_, rfl⟩
  have hmk := fun W_ => run_make_row' (P := Tryd.prog) 53 5 (.int .u8 0) 1 Tryd.underlying53 (by kernel_rfl) rfl .i64 .i64 M (by omega) (by omega) W_
  obtain ⟨W2, hW2⟩ : ∃ W, W = W0.alloc (.cells (madeCells #[.int .u8 0] M) 5) := ⟨_, rfl⟩
  have hB2 : Below w.heap.size w W2 := by rw [hW2]; exact hB0.alloc (by omega) _
  have hg02 : W0.grownBy W2 none := by rw [hW2]; exact World.grownBy_alloc _ _ _
  have hR2 : Rd W2 w.heap.size 0 (bytesOf s) := fun j hj => hg02.cell (hR0 j hj) (by simp)
  have hrow : W2.rowIs (w.heap.size + 1) 5 M (fun _ => .int .u8 0) := by
    have := World.rowIs_made W0 (.int .u8 0) M 5
    rw [hsz0] at this
    rw [hW2]; exact this
  have hsz2 : W2.heap.size = w.heap.size + 2 := by rw [hW2]; simp; omega
  have hk : ∀ (a : Addr) v, w.cell? a = some v → W2.cell? a = some v := fun a v hv => (hB2.cell (Lib.lt_of_cell hv)).trans hv
  have ht2 := fun e he => hk _ _ (ht e he)
  have hout : ∀ (G : Nat) (w' : World), w.heap.size < G → W2.grownBy w' (some G) → Below w.heap.size w w' := fun G w' hG hg =>
    ⟨hg.os.trans hB2.os, hg.tape.trans hB2.tape, hg.output.trans hB2.output, Nat.le_trans hB2.size hg.size, fun k hk => (hg.block k (by omega) (fun e => by have := Option.some.inj e; omega)).trans (hB2.block k hk)⟩
  -- the call, in its three cases
  have hcall : Calls Tryd.prog 47 #[.slice (some ⟨w.heap.size, 0, none⟩) s.size cap, .slice (some ⟨w.heap.size + 1, 0, none⟩) M M] W2 fun e w' => ∃ v, e = .returned (.tuple #[v, .nilIface]) ∧ (∃ A c, v = .slice (some ⟨A, 0, none⟩) r.length c ∧ Rd w' A 0 r ∧ Below w.heap.size w w') := by
    refine wrap47 _ _ (fun v w' => ∃ A c, v = .slice (some ⟨A, 0, none⟩) r.length c ∧ Rd w' A 0 r ∧ Below w.heap.size w w') W2 (hk _ _ h0) (hk _ _ h1) (hk _ _ h2) ?_
    cases hq : ixB 92 (bytesOf s) with
    | none =>
      have hr : r = bytesOf s := Un.all_plain (ixB_none hq) hU
      have h := unescPlain (c := cap) W2 (.slice (some ⟨w.heap.size + 1, 0, none⟩) M M) hR2 hby hq
      rw [hlen] at h
      refine h.mono ?_
      rintro e w' ⟨rfl, rfl⟩
      refine ⟨_, rfl, w.heap.size, cap, by rw [hr, hlen], ?_, hB2.alloc (by omega) _⟩
      rw [hr]
      exact fun j hj => (World.grownBy_alloc W2 _ none).cell (hR2 j hj) (by simp)
    | some q =>
      by_cases hroom : M = s.size
      · have hD : Done W2 (w.heap.size + 1) (bytesOf s).length [] := by
          rw [hlen, ← hroom]
          exact ⟨_, hrow, by simp, fun j hj => by cases hj⟩
        have h := unescRoom (c := cap) W2 hR2 hby (by omega) (by omega) hD (by omega) q hq hU ht2 (by have := Lib.lt_of_cell (ht 0 (by omega)); simp at this; omega)
        rw [hlen] at h
        rw [hroom]
        refine h.mono ?_
        rintro e w' ⟨rfl, hRr, hg⟩
        exact ⟨_, rfl, _, _, rfl, hRr, hout _ w' (by omega) hg⟩
      · have h := unescNew (c := cap) W2 (some ⟨w.heap.size + 1, 0, none⟩) M M (by omega) hR2 hby (by omega) (by omega) (by omega) q hq hU ht2
        rw [hlen] at h
        refine h.mono ?_
        rintro e w' ⟨rfl, hRr, hg⟩
        exact ⟨_, rfl, _, _, rfl, hRr, hout _ w' (by omega) hg⟩
  have hmx : max (s.size : Int) 0 = s.size := by omega
  have HC := Aside0.mk hcall
  have HRB := Aside0.mk hrb
  have hmod : (s.size : Int).tmod 65536 = (M : Int) := by rw [hM]; rfl
  have hmod2 : (s.size : Int) % 65536 = (M : Int) := by rw [hM]; rfl
  clear hcall hrb hout ht2 hk hrow hR2 hg02 hB2 hR0 hB0 hU hby ht h0 h1 h2 hlen hM
  subst hW2
  go_enter Tryd.func25, Tryd.ntmps25
  go_wp2_with (go_at_call 47; refine HC.out.mono ?_)
  rintro e w3 ⟨v, rfl, A, c, rfl, hR3, hB3⟩
  have hback := back_str (c := c) hR3 HRB.out
  have HB3 := Aside0.mk hB3
  clear hR3 hB3 HRB HC hconv hmk hsz0 hsz2
  go_wp2
  go_ret2
  exact ⟨rfl, HB3.out⟩
end UN
/-- What an escape stands for, computed. -/
def escF (k : Nat) (l : List Int) : Option (Nat × List Int) :=
  if l.getD 0 0 = 92 ∧ 2 ≤ l.length then
    (if (l.getD 1 0 = 34 ∨ l.getD 1 0 = 92 ∨ l.getD 1 0 = 47 ∨ l.getD 1 0 = 98 ∨ l.getD 1 0 = 102 ∨ l.getD 1 0 = 110 ∨ l.getD 1 0 = 114 ∨ l.getD 1 0 = 116) then some (2, [UN.tb (l.getD 1 0)])
     else (if l.getD 1 0 = 117 then (jsonparser_decodeUnicodeEscape.f k l).bind fun x => (if 6 ≤ x.2 ∧ x.2 ≤ l.length ∧ -2147483648 ≤ x.1 ∧ x.1 ≤ 2147483647 then some (x.2.toNat, Lib.encodeRuneZ x.1) else none) else none)) else none
def unF (k : Nat) : Nat → List Int → Option (List Int)
  | 0, _ => none
  | _ + 1, [] => some []
  | n + 1, c :: l => if c = 92 then (escF k (c :: l)).bind fun x => (unF k n ((c :: l).drop x.1)).bind fun r => some (x.2 ++ r) else (unF k n l).bind fun r => some (c :: r)
theorem escF.mono (l : List Int) (k : Nat) : LeO (escF k l) (escF (k + 1) l) := by
  unfold escF
  exact LeO.ite (LeO.ite (LeO.refl _) (LeO.ite (LeO.bind (jsonparser_decodeUnicodeEscape.mono _ _) (fun _ => LeO.refl _)) (LeO.refl _))) (LeO.refl _)
theorem unF.mono (k : Nat) : ∀ (n : Nat) (l : List Int), LeO (unF k n l) (unF (k + 1) n l)
  | 0, _ => LeO.none _
  | _ + 1, [] => LeO.refl _
  | n + 1, c :: l => by
    unfold unF
    exact LeO.ite (LeO.bind (escF.mono _ _) (fun x => LeO.bind (unF.mono k n _) (fun _ => LeO.refl _))) (LeO.bind (unF.mono k n _) (fun _ => LeO.refl _))
theorem escF.sound {k : Nat} {l : List Int} {m : Nat} {bs : List Int} (h : escF k l = some (m, bs)) : UN.Esc l m bs := by
  unfold escF at h
  split at h
  · rename_i h0
    split at h
    · rename_i hs
      simp only [Option.some.injEq, Prod.mk.injEq] at h
      obtain ⟨rfl, rfl⟩ := h
      exact ⟨h0.1, h0.2, Nat.le_refl _, .inl ⟨hs, rfl, rfl⟩⟩
    · split at h
      · rename_i hu
        obtain ⟨⟨r, x⟩, hd, hx⟩ := Option.bind_eq_some_iff.mp h
        simp only at hx
        split at hx
        · rename_i hc
          simp only [Option.some.injEq, Prod.mk.injEq] at hx
          obtain ⟨rfl, rfl⟩ := hx
          refine ⟨h0.1, by omega, by omega, .inr ⟨hu, by omega, k, r, ?_, rfl, hc.2.2.1, hc.2.2.2⟩⟩
          rw [hd, Int.toNat_of_nonneg (by omega)]
        · cases hx
      · cases h
  · cases h
theorem unF.sound {k : Nat} : ∀ {n : Nat} {l r : List Int}, unF k n l = some r → UN.Un l r
  | 0, _, _, h => by cases h
  | _ + 1, [], r, h => by
    obtain rfl := Option.some.inj h
    exact .nil
  | n + 1, c :: l, r, h => by
    unfold unF at h
    by_cases hc : c = 92
    · rw [if_pos hc] at h
      obtain ⟨⟨m, bs⟩, he, h2⟩ := Option.bind_eq_some_iff.mp h
      obtain ⟨t, ht, h3⟩ := Option.bind_eq_some_iff.mp h2
      obtain rfl := Option.some.inj h3
      exact .esc (escF.sound he) (unF.sound ht)
    · rw [if_neg hc] at h
      obtain ⟨t, ht, h3⟩ := Option.bind_eq_some_iff.mp h
      obtain rfl := Option.some.inj h3
      exact .char hc (unF.sound ht)
def impl_JpUnescape.f (k : Nat) (a0 : ByteArray) (a1 : Int) : Option (ByteArray × Bool) := if a1 = (a0.size : Int) then (if a0.size ≤ 131072 then (unF k (a0.size + 1) (bytesOf a0)).bind fun r => some (strOfNums r, true) else none) else none
theorem impl_JpUnescape.mono : ∀ a0 a1 k, LeO (impl_JpUnescape.f k a0 a1) (impl_JpUnescape.f (k + 1) a0 a1) := by
  intro a0 a1 k
  unfold impl_JpUnescape.f
  exact LeO.ite (LeO.ite (LeO.bind (unF.mono _ _ _) (fun _ => LeO.refl _)) (LeO.refl _)) (LeO.refl _)
theorem impl_JpUnescape.calls (k : Nat) (a0 : ByteArray) (a1 : Int) (r1 : ByteArray) (r2 : Bool) (w : World) (hT0 : Kd.C Kd.cfgk w (some ⟨0, 0, none⟩) tabG0.length tabG0) (hT2 : Kd.C (Kd.int .u8) w (some ⟨2, 0, none⟩) tabG2.length tabG2) (h : impl_JpUnescape.f k a0 a1 = some (r1, r2)) :
    Calls Tryd.prog 25 #[.string a0, .int .i64 a1] w fun e w' => e = .returned (.tuple #[.string r1, .bool r2]) ∧ Below w.heap.size w w' := by
  obtain ⟨h0, h1, h2⟩ := cfgk_cells hT0
  have ht : ∀ e : Nat, e < 117 → w.cell? ⟨2, e, none⟩ = some (.int .u8 (UN.tb e)) := fun e he => by
    obtain ⟨_, _, hr⟩ := Kd.reads_of_C (enc := Value.int .u8) (d := (0 : Int)) (h1 := fun _ => rfl) hT2
    obtain ⟨ad, hA, hc⟩ := hr (by decide)
    obtain rfl := Option.some.inj hA
    have := hc e (by simpa [tabG2] using he)
    rw [cfgk_add] at this
    rw [this]
    unfold UN.tb rd
    rw [Int.toNat_natCast]
  unfold impl_JpUnescape.f at h
  by_cases ha : a1 = (a0.size : Int)
  · by_cases hs : a0.size ≤ 131072
    · rw [if_pos ha, if_pos hs] at h
      subst ha
      obtain ⟨r, hu, hr⟩ := Option.bind_eq_some_iff.mp h
      simp only [Option.some.injEq, Prod.mk.injEq] at hr
      obtain ⟨rfl, rfl⟩ := hr
      exact UN.jpUn a0 r w hs (unF.sound hu) h0 h1 h2 ht
    · rw [if_pos ha, if_neg hs] at h
      cases h
  · rw [if_neg ha] at h
    cases h

end Go.Proofs.YtfpbbnllaogclaaDoor.PJ
