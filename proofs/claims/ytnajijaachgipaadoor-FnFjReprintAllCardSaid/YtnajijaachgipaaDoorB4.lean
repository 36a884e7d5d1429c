/- Texts of this claim put together: PRx23, PRx24, PRx25. -/
import Derived.Test.YtnajijaachgipaaDoorB0
import Derived.Test.YtnajijaachgipaaDoorB3
import Derived.Test.YtnajijaachgipaaDoorB2
section
namespace Go.Proofs.YtnajijaachgipaaDoor.PR
open Go.RowKit Go.Proofs.YtnajijaachgipaaDoorW.PrintWords Go.Proofs.YtnajijaachgipaaDoorW.PrintLast Go.Proofs.YtnajijaachgipaaDoorW.PrintMore
attribute [local go_sem] max2_int min2_int max_two min_two max_three min_three max_four min_four   -- for this text's walks alone
set_option linter.unusedVariables false
set_option linter.unusedSimpArgs false
/-! ### spec_FjVal_textTo: function 29 -/
mutual
def spec_FjVal_textTo.j0 : Nat → List Int → Int → Int → ByteArray → List ByteArray → Bool → List (S30) → Option (List Int)
 | 0, _, _, _, _, _, _, _ => none
 | k + 1, x1, x5, x181000, x181001, x181002, x181003, x181004 => (some (([x5] : List Int) : List Int)).bind fun y208 => (if x1.length + y208.length < 140737488355328 then (spec_FjVal_textTo.l0 k (x1 ++ y208) x5 0 x181000 x181001 x181002 x181003 x181004) else (none))
def spec_FjVal_textTo.l0 : Nat → List Int → Int → Int → Int → ByteArray → List ByteArray → Bool → List (S30) → Option (List Int)
 | 0, _, _, _, _, _, _, _, _ => none
 | k + 1, x1, x5, x6, x181000, x181001, x181002, x181003, x181004 => if x6 < (x181004.length : Int) then (if x6 > 0 then ((some (([44] : List Int) : List Int)).bind fun y220 => (if x1.length + y220.length < 140737488355328 then (spec_FjVal_textTo.j2 k (x1 ++ y220) x5 x6 x181000 x181001 x181002 x181003 x181004) else (none))) else (spec_FjVal_textTo.j2 k x1 x5 x6 x181000 x181001 x181002 x181003 x181004)) else ((some (([(x5 + 2) % 256] : List Int) : List Int)).bind fun y214 => (if x1.length + y214.length < 140737488355328 then (some (x1 ++ y214)) else (none)))
def spec_FjVal_textTo.j2 : Nat → List Int → Int → Int → Int → ByteArray → List ByteArray → Bool → List (S30) → Option (List Int)
 | 0, _, _, _, _, _, _, _, _ => none
 | k + 1, x1, x5, x6, x181000, x181001, x181002, x181003, x181004 => if x181000 = 6 then (if 0 ≤ x6 then (if x6 < (x181002.length : Int) then (if 1 + (rdOf ByteArray.empty x181002 x6).size ≤ 9223372036854775807 then (if 1 + (rdOf ByteArray.empty x181002 x6).size + 1 ≤ 9223372036854775807 then (if x181003 = true then ((spec_Anew.f (rdOf ByteArray.empty x181002 x6)).bind fun t228 => (if x1.length + t228.size < 140737488355328 then ((some (x1 ++ bytesOf t228 : List Int)).bind fun y229 => ((some (([58] : List Int) : List Int)).bind fun y232 => (if y229.length + y232.length < 140737488355328 then (if x6 < (x181004.length : Int) then ((spec_FjVal_textTo.f k ((rd_T30 x181004 x6).f0) ((rd_T30 x181004 x6).f1) ((rd_T30 x181004 x6).f2) ((rd_T30 x181004 x6).f3) ((rd_T30 x181004 x6).f4) (y229 ++ y232)).bind fun t239 => (spec_FjVal_textTo.l0 k t239 x5 (wrap64 (x6 + 1)) x181000 x181001 x181002 x181003 x181004)) else (none)) else (none)))) else (none))) else (if x1.length + 1 + (rdOf ByteArray.empty x181002 x6).size + 1 < 140737488355328 then ((some (x1 ++ bytesOf (((⟨#[34]⟩ : ByteArray) ++ (rdOf ByteArray.empty x181002 x6)) ++ (⟨#[34]⟩ : ByteArray)) : List Int)).bind fun y242 => ((some (([58] : List Int) : List Int)).bind fun y245 => (if y242.length + y245.length < 140737488355328 then (if x6 < (x181004.length : Int) then ((spec_FjVal_textTo.f k ((rd_T30 x181004 x6).f0) ((rd_T30 x181004 x6).f1) ((rd_T30 x181004 x6).f2) ((rd_T30 x181004 x6).f3) ((rd_T30 x181004 x6).f4) (y242 ++ y245)).bind fun t252 => (spec_FjVal_textTo.l0 k t252 x5 (wrap64 (x6 + 1)) x181000 x181001 x181002 x181003 x181004)) else (none)) else (none)))) else (none))) else (none)) else (none)) else (none)) else (none)) else (if 0 ≤ x6 then (if x6 < (x181004.length : Int) then ((spec_FjVal_textTo.f k ((rd_T30 x181004 x6).f0) ((rd_T30 x181004 x6).f1) ((rd_T30 x181004 x6).f2) ((rd_T30 x181004 x6).f3) ((rd_T30 x181004 x6).f4) x1).bind fun t256 => (spec_FjVal_textTo.l0 k t256 x5 (wrap64 (x6 + 1)) x181000 x181001 x181002 x181003 x181004)) else (none)) else (none))
def spec_FjVal_textTo.f : Nat → Int → ByteArray → List ByteArray → Bool → List (S30) → List Int → Option (List Int)
 | 0, _, _, _, _, _, _ => none
 | k + 1, a0_0, a0_1, l0_2, a0_3, l0_4, l1 => if a0_0 = 0 then (if l1.length + 4 < 140737488355328 then (some (l1 ++ bytesOf (⟨#[110, 117, 108, 108]⟩ : ByteArray))) else (none)) else (if a0_0 = 1 then (if l1.length + 5 < 140737488355328 then (some (l1 ++ bytesOf (⟨#[102, 97, 108, 115, 101]⟩ : ByteArray))) else (none)) else (if a0_0 = 2 then (if l1.length + 4 < 140737488355328 then (some (l1 ++ bytesOf (⟨#[116, 114, 117, 101]⟩ : ByteArray))) else (none)) else (if a0_0 = 3 then (if l1.length + a0_1.size < 140737488355328 then (some (l1 ++ bytesOf a0_1)) else (none)) else (if a0_0 = 4 then ((some (([34] : List Int) : List Int)).bind fun y193 => (if l1.length + y193.length < 140737488355328 then ((some (l1 ++ y193 : List Int)).bind fun y196 => (if y196.length + a0_1.size < 140737488355328 then ((some (y196 ++ bytesOf a0_1 : List Int)).bind fun y199 => ((some (([34] : List Int) : List Int)).bind fun y202 => (if y199.length + y202.length < 140737488355328 then (some (y199 ++ y202)) else (none)))) else (none))) else (none))) else (if a0_0 = 6 then (spec_FjVal_textTo.j0 k l1 123 a0_0 a0_1 l0_2 a0_3 l0_4) else (spec_FjVal_textTo.j0 k l1 91 a0_0 a0_1 l0_2 a0_3 l0_4))))))
end
theorem spec_FjVal_textTo.mono_l : ∀ k, (∀ y0 y1 y2 y3 y4 y5, LeO (spec_FjVal_textTo.f k y0 y1 y2 y3 y4 y5) (spec_FjVal_textTo.f (k + 1) y0 y1 y2 y3 y4 y5)) ∧ (∀ y0 y1 y2 y3 y4 y5 y6, LeO (spec_FjVal_textTo.j0 k y0 y1 y2 y3 y4 y5 y6) (spec_FjVal_textTo.j0 (k + 1) y0 y1 y2 y3 y4 y5 y6)) ∧ (∀ y0 y1 y2 y3 y4 y5 y6 y7, LeO (spec_FjVal_textTo.l0 k y0 y1 y2 y3 y4 y5 y6 y7) (spec_FjVal_textTo.l0 (k + 1) y0 y1 y2 y3 y4 y5 y6 y7)) ∧ (∀ y0 y1 y2 y3 y4 y5 y6 y7, LeO (spec_FjVal_textTo.j2 k y0 y1 y2 y3 y4 y5 y6 y7) (spec_FjVal_textTo.j2 (k + 1) y0 y1 y2 y3 y4 y5 y6 y7))
 | 0 => ⟨fun _ _ _ _ _ _ r h => by simp [spec_FjVal_textTo.f] at h, fun _ _ _ _ _ _ _ r h => by simp [spec_FjVal_textTo.j0] at h, fun _ _ _ _ _ _ _ _ r h => by simp [spec_FjVal_textTo.l0] at h, fun _ _ _ _ _ _ _ _ r h => by simp [spec_FjVal_textTo.j2] at h⟩
 | k + 1 => by
  obtain ⟨ih0, ih1, ih2, ih3⟩ := spec_FjVal_textTo.mono_l k
  refine ⟨?_, ?_, ?_, ?_⟩
  ·intro y0 y1 y2 y3 y4 y5
   unfold spec_FjVal_textTo.f
   repeat' first
   | (with_reducible exact ih0 _ _ _ _ _ _)
   | (with_reducible exact ih1 _ _ _ _ _ _ _)
   | (with_reducible exact ih2 _ _ _ _ _ _ _ _)
   | (with_reducible exact ih3 _ _ _ _ _ _ _ _)
   | (with_reducible exact LeO.refl _)
   | (with_reducible exact LeO.none _)
   | (with_reducible refine LeO.ite ?_ ?_)
   | (with_reducible refine LeO.bind ?_ (fun _ => ?_))
   | exact ih0 _ _ _ _ _ _
   | exact ih1 _ _ _ _ _ _ _
   | exact ih2 _ _ _ _ _ _ _ _
   | exact ih3 _ _ _ _ _ _ _ _
   | exact LeO.none _
   | refine LeO.ite ?_ ?_
   | refine LeO.bind ?_ (fun _ => ?_)
  ·intro y0 y1 y2 y3 y4 y5 y6
   unfold spec_FjVal_textTo.j0
   repeat' first
   | (with_reducible exact ih0 _ _ _ _ _ _)
   | (with_reducible exact ih1 _ _ _ _ _ _ _)
   | (with_reducible exact ih2 _ _ _ _ _ _ _ _)
   | (with_reducible exact ih3 _ _ _ _ _ _ _ _)
   | (with_reducible exact LeO.refl _)
   | (with_reducible exact LeO.none _)
   | (with_reducible refine LeO.ite ?_ ?_)
   | (with_reducible refine LeO.bind ?_ (fun _ => ?_))
   | exact ih0 _ _ _ _ _ _
   | exact ih1 _ _ _ _ _ _ _
   | exact ih2 _ _ _ _ _ _ _ _
   | exact ih3 _ _ _ _ _ _ _ _
   | exact LeO.none _
   | refine LeO.ite ?_ ?_
   | refine LeO.bind ?_ (fun _ => ?_)
  ·intro y0 y1 y2 y3 y4 y5 y6 y7
   unfold spec_FjVal_textTo.l0
   repeat' first
   | (with_reducible exact ih0 _ _ _ _ _ _)
   | (with_reducible exact ih1 _ _ _ _ _ _ _)
   | (with_reducible exact ih2 _ _ _ _ _ _ _ _)
   | (with_reducible exact ih3 _ _ _ _ _ _ _ _)
   | (with_reducible exact LeO.refl _)
   | (with_reducible exact LeO.none _)
   | (with_reducible refine LeO.ite ?_ ?_)
   | (with_reducible refine LeO.bind ?_ (fun _ => ?_))
   | exact ih0 _ _ _ _ _ _
   | exact ih1 _ _ _ _ _ _ _
   | exact ih2 _ _ _ _ _ _ _ _
   | exact ih3 _ _ _ _ _ _ _ _
   | exact LeO.none _
   | refine LeO.ite ?_ ?_
   | refine LeO.bind ?_ (fun _ => ?_)
  intro y0 y1 y2 y3 y4 y5 y6 y7
  unfold spec_FjVal_textTo.j2
  repeat' first
  | (with_reducible exact ih0 _ _ _ _ _ _)
  | (with_reducible exact ih1 _ _ _ _ _ _ _)
  | (with_reducible exact ih2 _ _ _ _ _ _ _ _)
  | (with_reducible exact ih3 _ _ _ _ _ _ _ _)
  | (with_reducible exact LeO.refl _)
  | (with_reducible exact LeO.none _)
  | (with_reducible refine LeO.ite ?_ ?_)
  | (with_reducible refine LeO.bind ?_ (fun _ => ?_))
  | exact ih0 _ _ _ _ _ _
  | exact ih1 _ _ _ _ _ _ _
  | exact ih2 _ _ _ _ _ _ _ _
  | exact ih3 _ _ _ _ _ _ _ _
  | exact LeO.none _
  | refine LeO.ite ?_ ?_
  | refine LeO.bind ?_ (fun _ => ?_)
theorem spec_FjVal_textTo.mono : ∀ a0 a1 a2 a3 a4 a5 k, LeO (spec_FjVal_textTo.f k a0 a1 a2 a3 a4 a5) (spec_FjVal_textTo.f (k + 1) a0 a1 a2 a3 a4 a5) := by
 intro a0 a1 a2 a3 a4 a5 k
 obtain ⟨ih0, ih1, ih2, ih3⟩ := spec_FjVal_textTo.mono_l k
 exact ih0 a0 a1 a2 a3 a4 a5
def spec_FjVal_textTo.T11 : Bool × List (List Nat × List Nat) := (true, [([], []), ([], []), ([0, 1], [0, 1]), ([], []), ([3], [3]), ([2, 4, 2], [2, 4]), ([], []), ([5, 6, 5], [5, 6]), ([7, 7, 0, 1, 2, 3, 4, 5, 6, 7], [7])])
def spec_FjVal_textTo.B11 : List Nat := [0, 0, 3, 0, 8, 31, 0, 127, 255]
theorem spec_FjVal_textTo.tab11 : rtab .any (opsOf Tryd.f29 11) = spec_FjVal_textTo.T11 := by kernel_rfl
theorem spec_FjVal_textTo.bits11 : waitsOk spec_FjVal_textTo.T11.2 spec_FjVal_textTo.B11 = true := by kernel_rfl
set_option maxHeartbeats 8000000 in
set_option maxRecDepth 100000 in
theorem spec_FjVal_textTo.calls (k : Nat) : ∀ (a0_0 : Int) (a0_1 : ByteArray) (A0_2 : Option Addr) (c0_2 : Nat) (l0_2 : List ByteArray) (a0_3 : Bool) (A0_4 : Option Addr) (c0_4 : Nat) (l0_4 : List (S30)) (P1_ : Nat → Prop) (u9000_ : Value) (l1 : List Int) (r : List Int) (w0 w : World) (hB : Below w0.heap.size w0 w) (hr0_2 : ∀ W_, Kept w W_ (fun k_ => P1_ k_) → Kd.C Kd.string W_ A0_2 l0_2.length l0_2) (hc0_2 : l0_2.length ≤ c0_2) (hr0_4 : ∀ W_, Kept w W_ (fun k_ => P1_ k_) → Kd.C k30 W_ A0_4 l0_4.length l0_4) (hc0_4 : l0_4.length ≤ c0_4) (ho1 : Kd.R (Kd.int .u8) 5 w w0.heap.size P1_ u9000_ l1) (h : spec_FjVal_textTo.f k a0_0 a0_1 l0_2 a0_3 l0_4 l1 = some r),
  Calls Tryd.prog 29 #[.agg #[.int .i64 a0_0, .string a0_1, .slice A0_2 l0_2.length c0_2, .bool a0_3, .slice A0_4 l0_4.length c0_4], u9000_] w fun e w' => ∃ v0_ : Value, e = .returned (v0_) ∧ Kd.R (Kd.int .u8) 5 w' w0.heap.size (fun k_ => (P1_ k_ ∨ w.heap.size ≤ k_)) v0_ r ∧ Below w0.heap.size w0 w' ∧ Kept w w' (fun k_ => P1_ k_) := by
 induction k using Nat.strongRecOn with
 | _ k ih =>
 intro a0_0 a0_1 A0_2 c0_2 l0_2 a0_3 A0_4 c0_4 l0_4 P1_ u9000_ l1 r w0 w hB hr0_2 hc0_2 hr0_4 hc0_4 ho1 h
 cases k with
 | zero => exact absurd h (by simp [spec_FjVal_textTo.f])
 | succ k =>
 simp only [spec_FjVal_textTo.f] at h
 have hu30 := Tryd.underlying30
 have HR0_2 := Aside0.mk hr0_2
 have HC0_2 := Aside0.mk hc0_2
 clear hr0_2 hc0_2
 have HR0_4 := Aside0.mk hr0_4
 have HC0_4 := Aside0.mk hc0_4
 clear hr0_4 hc0_4
 have HO1 := Aside0.mk (show Kd.R (Kd.int .u8) 5 w w0.heap.size (fun k_ => (P1_ k_ ∨ w.heap.size ≤ k_)) u9000_ l1 from Kd.R_mono ho1 (fun k_ hk => (.inl hk)))
 have HK := Aside0.mk (Kept.refl w (fun k_ => P1_ k_))
 have HW0 := Aside0.mk hB.size
 have HB := Aside0.mk hB
 clear hB
 have H : (if a0_0 = 0 then (if l1.length + 4 < 140737488355328 then (some (l1 ++ bytesOf (⟨#[110, 117, 108, 108]⟩ : ByteArray))) else (none)) else (if a0_0 = 1 then (if l1.length + 5 < 140737488355328 then (some (l1 ++ bytesOf (⟨#[102, 97, 108, 115, 101]⟩ : ByteArray))) else (none)) else (if a0_0 = 2 then (if l1.length + 4 < 140737488355328 then (some (l1 ++ bytesOf (⟨#[116, 114, 117, 101]⟩ : ByteArray))) else (none)) else (if a0_0 = 3 then (if l1.length + a0_1.size < 140737488355328 then (some (l1 ++ bytesOf a0_1)) else (none)) else (if a0_0 = 4 then ((some (([34] : List Int) : List Int)).bind fun y193 => (if l1.length + y193.length < 140737488355328 then ((some (l1 ++ y193 : List Int)).bind fun y196 => (if y196.length + a0_1.size < 140737488355328 then ((some (y196 ++ bytesOf a0_1 : List Int)).bind fun y199 => ((some (([34] : List Int) : List Int)).bind fun y202 => (if y199.length + y202.length < 140737488355328 then (some (y199 ++ y202)) else (none)))) else (none))) else (none))) else (if a0_0 = 6 then (spec_FjVal_textTo.j0 k l1 123 a0_0 a0_1 l0_2 a0_3 l0_4) else (spec_FjVal_textTo.j0 k l1 91 a0_0 a0_1 l0_2 a0_3 l0_4))))))) = some r := h
 clear h
 by_cases c3 : a0_0 = 0
 ·rw [if_pos c3] at H
  have c3b0 : (a0_0 == 0) = true := beq_iff_eq.mpr c3
  have c3b1 : (a0_0 != 0) = false := bne_eq_false_iff_eq.mpr c3
  clear c3
  by_cases c4 : l1.length + 4 < 140737488355328
  ·rw [if_pos c4] at H
   have LMc4 := Aside0.mk c4
   clear c4
   obtain ⟨y181, hy181⟩ : ∃ y_ : List Int, y_ = (l1 ++ bytesOf (⟨#[110, 117, 108, 108]⟩ : ByteArray)) := ⟨_, rfl⟩
   replace H : (some y181) = some r := by first | (rw [hy181]; with_reducible exact H) | (have H2_ := (Option.bind_some _ _).symm.trans H; rw [hy181]; with_reducible exact H2_) | (have H2_ := (Option.bind_some _ _).symm.trans H; with_reducible exact H2_) | with_reducible exact H | (rw [hy181]; exact H) | exact H
   have Ny181 := Aside0.mk hy181
   clear hy181
   obtain rfl := Option.some.inj H
   go_enter Tryd.func29, Tryd.ntmps29
   go_wp2_with (first | ((with_reducible refine gate_dst (N := 2) rfl ?_); refine box_event ?hg (N := 2) ?hd (cs := #[.int .i64 a0_0, .string a0_1, .slice A0_2 l0_2.length c0_2, .bool a0_3, .slice A0_4 l0_4.length c0_4]) (t := 30) ?hr ?_; (case hd => rfl); (case hg => rfl); (case hr => first | (go_simp; done) | (go_simp; rfl)); intro gb180 hg w5 hbox hb; have n0_ := Aside0.mk (Kd.R_below (by (with_reducible repeat (first | apply Kd.R_alloc | apply Kd.R_drewN | apply Kd.R_drew)); exact HO1.out) hb); have n1_ := Aside0.mk (Kept.below (S := (fun k_ => P1_ k_)) (by repeat (first | (with_reducible first | exact HK.out | apply Kept.alloc | apply Kept.drewN | apply Kept.drew) | exact HK.out)) hb); have n2_ := Aside0.mk (below_step (by repeat (first | (with_reducible first | exact HB.out | apply below_alloc | apply pw_below_drewN | apply below_drew1) | exact HB.out)) hb); have n3_ := Aside0.mk (hbox); have n4_ := Aside0.mk ((by rw [hg]; exact (by first | exact HK.out.1 | exact (show Kept w _ (fun k_ => P1_ k_) from by repeat (first | (with_reducible first | exact HK.out | apply Kept.alloc | apply Kept.drewN | apply Kept.drew) | exact HK.out)).1) : w.heap.size ≤ gb180)); have n5_ := Aside0.mk ((by rw [hg]; exact (below_size (by repeat (first | (with_reducible first | exact HB.out | apply below_alloc | apply pw_below_drewN | apply below_drew1) | exact HB.out))) : w0.heap.size ≤ gb180)); clear HO1; clear HK; clear HB; have HO1 := n0_; have HK := n1_; have HB := n2_; have BK180 := n3_; have GW180 := n4_; have GE180 := n5_; clear n0_ n1_ n2_ n3_ n4_ n5_; clear hb hbox hg; have hcz6_0 : w5.cell? ⟨gb180, 0, none⟩ = some (.int .i64 a0_0) := (blk_cell BK180.out 0).trans rfl; have hcz6_1 : w5.cell? ⟨gb180, 1, none⟩ = some (.string a0_1) := (blk_cell BK180.out 1).trans rfl; have hcz6_2 : w5.cell? ⟨gb180, 2, none⟩ = some (.slice A0_2 l0_2.length c0_2) := (blk_cell BK180.out 2).trans rfl; have hcz6_3 : w5.cell? ⟨gb180, 3, none⟩ = some (.bool a0_3) := (blk_cell BK180.out 3).trans rfl; have hcz6_4 : w5.cell? ⟨gb180, 4, none⟩ = some (.slice A0_4 l0_4.length c0_4) := (blk_cell BK180.out 4).trans rfl; have hfz6_0 := blk_frozen BK180.out 0; have hfz6_1 := blk_frozen BK180.out 1; have hfz6_2 := blk_frozen BK180.out 2; have hfz6_3 := blk_frozen BK180.out 3; have hfz6_4 := blk_frozen BK180.out 4) | ((with_reducible refine gate_builtin (b := .append) (xs := #[.tmp 12, .const (.string (⟨#[110, 117, 108, 108]⟩ : ByteArray))]) rfl ?_); at_builtin; refine M_append_str (w0 := w0) w0.heap.size rfl (.tmp 12) _ 47 9 5 rfl Tryd.underlying47 Tryd.underlying9 info5 u9000_ l1 (⟨#[110, 117, 108, 108]⟩ : ByteArray) (fun k_ => (P1_ k_ ∨ w.heap.size ≤ k_)) rfl rfl ?aF ?aO ?aB ?aS ?aL ?_; (case aB => exact (by repeat (first | (with_reducible first | exact HB.out | apply below_alloc | apply pw_below_drewN | apply below_drew1 | refine below_set ?_ GE180.out) | exact HB.out))); (case aF => exact (fun k_ hk => (.inr (Nat.le_trans (by first | exact HK.out.1 | exact (show Kept w _ (fun k_ => P1_ k_) from by repeat (first | (with_reducible first | exact HK.out | apply Kept.alloc | apply Kept.drewN | apply Kept.drew | refine Kept.setCell ?_ (.inr GW180.out) _) | exact HK.out)).1) hk)))); (case aO => exact (by (with_reducible repeat (first | apply Kd.R_alloc | apply Kd.R_drewN | apply Kd.R_drew)); exact HO1.out)); (case aS => exact (below_size (by repeat (first | (with_reducible first | exact HB.out | apply below_alloc | apply pw_below_drewN | apply below_drew1 | refine below_set ?_ GE180.out) | exact HB.out)))); (case aL => have := LMc4.out; have hk_ : (⟨#[110, 117, 108, 108]⟩ : ByteArray).size = 4 := rfl; omega); intro v182 w7 ho hb hg hat; rw [← Ny181.out] at ho; have n0_ := Aside0.mk (blk_grown (g := gb180) (o := .cells #[.int .i64 a0_0, .string a0_1, .slice A0_2 l0_2.length c0_2, .bool a0_3, .slice A0_4 l0_4.length c0_4] 30 (0, 0)) (by (with_reducible repeat (first | refine blk_drewN ?_ _ | refine blk_drew ?_ | refine blk_alloc ?_ _)); exact BK180.out) hg (Kd.R_ne HO1.out BK180.out (by decide))); have n1_ := Aside0.mk (hb); have n2_ := Aside0.mk (Kept.of_grown (S := (fun k_ => P1_ k_)) hg (by repeat (first | (with_reducible first | exact HK.out | apply Kept.alloc | apply Kept.drewN | apply Kept.drew | refine Kept.setCell ?_ (.inr GW180.out) _) | exact HK.out)) (fun k_ e_ => (HO1.out.1 k_ e_))); have n3_ := Aside0.mk (ho); clear BK180; clear HB; clear HK; clear HO1; have BK180 := n0_; have HB := n1_; have HK := n2_; have HO183 := n3_; clear n0_ n1_ n2_ n3_; clear ho hb hg hat))
   go_ret
   exact ⟨_, by first | rfl | (simp [errW_none, errW_some] <;> rfl) | (simp [*, errW_none, errW_some] <;> rfl) | (simp [errW_none, errW_some] <;> exact ⟨rfl, rfl⟩) | (simp [*, errW_none, errW_some] <;> exact ⟨rfl, rfl⟩), by (with_reducible repeat (first | apply Kd.R_alloc | apply Kd.R_drewN | apply Kd.R_drew)); exact HO183.out, by repeat (first | (with_reducible first | exact HB.out | apply below_alloc | apply pw_below_drewN | apply below_drew1 | refine below_set ?_ GE180.out) | exact HB.out), by repeat (first | (with_reducible first | exact HK.out | apply Kept.alloc | apply Kept.drewN | apply Kept.drew | refine Kept.setCell ?_ (.inr GW180.out) _) | exact HK.out)⟩
  rw [if_neg c4] at H
  exact absurd H (by simp)
 rw [if_neg c3] at H
 have c3b0 : (a0_0 == 0) = false := beq_eq_false_iff_ne.mpr c3
 have c3b1 : (a0_0 != 0) = true := bne_iff_ne.mpr c3
 by_cases c8 : a0_0 = 1
 ·rw [if_pos c8] at H
  have c8b0 : (a0_0 == 1) = true := beq_iff_eq.mpr c8
  have c8b1 : (a0_0 != 1) = false := bne_eq_false_iff_eq.mpr c8
  clear c8
  by_cases c9 : l1.length + 5 < 140737488355328
  ·rw [if_pos c9] at H
   have LMc9 := Aside0.mk c9
   clear c9
   obtain ⟨y184, hy184⟩ : ∃ y_ : List Int, y_ = (l1 ++ bytesOf (⟨#[102, 97, 108, 115, 101]⟩ : ByteArray)) := ⟨_, rfl⟩
   replace H : (some y184) = some r := by first | (rw [hy184]; with_reducible exact H) | (have H2_ := (Option.bind_some _ _).symm.trans H; rw [hy184]; with_reducible exact H2_) | (have H2_ := (Option.bind_some _ _).symm.trans H; with_reducible exact H2_) | with_reducible exact H | (rw [hy184]; exact H) | exact H
   have Ny184 := Aside0.mk hy184
   clear hy184
   obtain rfl := Option.some.inj H
   go_enter Tryd.func29, Tryd.ntmps29
   go_wp2_with (first | ((with_reducible refine gate_dst (N := 2) rfl ?_); refine box_event ?hg (N := 2) ?hd (cs := #[.int .i64 a0_0, .string a0_1, .slice A0_2 l0_2.length c0_2, .bool a0_3, .slice A0_4 l0_4.length c0_4]) (t := 30) ?hr ?_; (case hd => rfl); (case hg => rfl); (case hr => first | (go_simp; done) | (go_simp; rfl)); intro gb180 hg w10 hbox hb; have n0_ := Aside0.mk (Kd.R_below (by (with_reducible repeat (first | apply Kd.R_alloc | apply Kd.R_drewN | apply Kd.R_drew)); exact HO1.out) hb); have n1_ := Aside0.mk (Kept.below (S := (fun k_ => P1_ k_)) (by repeat (first | (with_reducible first | exact HK.out | apply Kept.alloc | apply Kept.drewN | apply Kept.drew) | exact HK.out)) hb); have n2_ := Aside0.mk (below_step (by repeat (first | (with_reducible first | exact HB.out | apply below_alloc | apply pw_below_drewN | apply below_drew1) | exact HB.out)) hb); have n3_ := Aside0.mk (hbox); have n4_ := Aside0.mk ((by rw [hg]; exact (by first | exact HK.out.1 | exact (show Kept w _ (fun k_ => P1_ k_) from by repeat (first | (with_reducible first | exact HK.out | apply Kept.alloc | apply Kept.drewN | apply Kept.drew) | exact HK.out)).1) : w.heap.size ≤ gb180)); have n5_ := Aside0.mk ((by rw [hg]; exact (below_size (by repeat (first | (with_reducible first | exact HB.out | apply below_alloc | apply pw_below_drewN | apply below_drew1) | exact HB.out))) : w0.heap.size ≤ gb180)); clear HO1; clear HK; clear HB; have HO1 := n0_; have HK := n1_; have HB := n2_; have BK180 := n3_; have GW180 := n4_; have GE180 := n5_; clear n0_ n1_ n2_ n3_ n4_ n5_; clear hb hbox hg; have hcz11_0 : w10.cell? ⟨gb180, 0, none⟩ = some (.int .i64 a0_0) := (blk_cell BK180.out 0).trans rfl; have hcz11_1 : w10.cell? ⟨gb180, 1, none⟩ = some (.string a0_1) := (blk_cell BK180.out 1).trans rfl; have hcz11_2 : w10.cell? ⟨gb180, 2, none⟩ = some (.slice A0_2 l0_2.length c0_2) := (blk_cell BK180.out 2).trans rfl; have hcz11_3 : w10.cell? ⟨gb180, 3, none⟩ = some (.bool a0_3) := (blk_cell BK180.out 3).trans rfl; have hcz11_4 : w10.cell? ⟨gb180, 4, none⟩ = some (.slice A0_4 l0_4.length c0_4) := (blk_cell BK180.out 4).trans rfl; have hfz11_0 := blk_frozen BK180.out 0; have hfz11_1 := blk_frozen BK180.out 1; have hfz11_2 := blk_frozen BK180.out 2; have hfz11_3 := blk_frozen BK180.out 3; have hfz11_4 := blk_frozen BK180.out 4) | ((with_reducible refine gate_builtin (b := .append) (xs := #[.tmp 16, .const (.string (⟨#[102, 97, 108, 115, 101]⟩ : ByteArray))]) rfl ?_); at_builtin; refine M_append_str (w0 := w0) w0.heap.size rfl (.tmp 16) _ 47 9 5 rfl Tryd.underlying47 Tryd.underlying9 info5 u9000_ l1 (⟨#[102, 97, 108, 115, 101]⟩ : ByteArray) (fun k_ => (P1_ k_ ∨ w.heap.size ≤ k_)) rfl rfl ?aF ?aO ?aB ?aS ?aL ?_; (case aB => exact (by repeat (first | (with_reducible first | exact HB.out | apply below_alloc | apply pw_below_drewN | apply below_drew1 | refine below_set ?_ GE180.out) | exact HB.out))); (case aF => exact (fun k_ hk => (.inr (Nat.le_trans (by first | exact HK.out.1 | exact (show Kept w _ (fun k_ => P1_ k_) from by repeat (first | (with_reducible first | exact HK.out | apply Kept.alloc | apply Kept.drewN | apply Kept.drew | refine Kept.setCell ?_ (.inr GW180.out) _) | exact HK.out)).1) hk)))); (case aO => exact (by (with_reducible repeat (first | apply Kd.R_alloc | apply Kd.R_drewN | apply Kd.R_drew)); exact HO1.out)); (case aS => exact (below_size (by repeat (first | (with_reducible first | exact HB.out | apply below_alloc | apply pw_below_drewN | apply below_drew1 | refine below_set ?_ GE180.out) | exact HB.out)))); (case aL => have := LMc9.out; have hk_ : (⟨#[102, 97, 108, 115, 101]⟩ : ByteArray).size = 5 := rfl; omega); intro v185 w12 ho hb hg hat; rw [← Ny184.out] at ho; have n0_ := Aside0.mk (blk_grown (g := gb180) (o := .cells #[.int .i64 a0_0, .string a0_1, .slice A0_2 l0_2.length c0_2, .bool a0_3, .slice A0_4 l0_4.length c0_4] 30 (0, 0)) (by (with_reducible repeat (first | refine blk_drewN ?_ _ | refine blk_drew ?_ | refine blk_alloc ?_ _)); exact BK180.out) hg (Kd.R_ne HO1.out BK180.out (by decide))); have n1_ := Aside0.mk (hb); have n2_ := Aside0.mk (Kept.of_grown (S := (fun k_ => P1_ k_)) hg (by repeat (first | (with_reducible first | exact HK.out | apply Kept.alloc | apply Kept.drewN | apply Kept.drew | refine Kept.setCell ?_ (.inr GW180.out) _) | exact HK.out)) (fun k_ e_ => (HO1.out.1 k_ e_))); have n3_ := Aside0.mk (ho); clear BK180; clear HB; clear HK; clear HO1; have BK180 := n0_; have HB := n1_; have HK := n2_; have HO186 := n3_; clear n0_ n1_ n2_ n3_; clear ho hb hg hat))
   go_ret
   exact ⟨_, by first | rfl | (simp [errW_none, errW_some] <;> rfl) | (simp [*, errW_none, errW_some] <;> rfl) | (simp [errW_none, errW_some] <;> exact ⟨rfl, rfl⟩) | (simp [*, errW_none, errW_some] <;> exact ⟨rfl, rfl⟩), by (with_reducible repeat (first | apply Kd.R_alloc | apply Kd.R_drewN | apply Kd.R_drew)); exact HO186.out, by repeat (first | (with_reducible first | exact HB.out | apply below_alloc | apply pw_below_drewN | apply below_drew1 | refine below_set ?_ GE180.out) | exact HB.out), by repeat (first | (with_reducible first | exact HK.out | apply Kept.alloc | apply Kept.drewN | apply Kept.drew | refine Kept.setCell ?_ (.inr GW180.out) _) | exact HK.out)⟩
  rw [if_neg c9] at H
  exact absurd H (by simp)
 rw [if_neg c8] at H
 have c8b0 : (a0_0 == 1) = false := beq_eq_false_iff_ne.mpr c8
 have c8b1 : (a0_0 != 1) = true := bne_iff_ne.mpr c8
 by_cases c13 : a0_0 = 2
 ·rw [if_pos c13] at H
  have c13b0 : (a0_0 == 2) = true := beq_iff_eq.mpr c13
  have c13b1 : (a0_0 != 2) = false := bne_eq_false_iff_eq.mpr c13
  clear c13
  by_cases c14 : l1.length + 4 < 140737488355328
  ·rw [if_pos c14] at H
   have LMc14 := Aside0.mk c14
   clear c14
   obtain ⟨y187, hy187⟩ : ∃ y_ : List Int, y_ = (l1 ++ bytesOf (⟨#[116, 114, 117, 101]⟩ : ByteArray)) := ⟨_, rfl⟩
   replace H : (some y187) = some r := by first | (rw [hy187]; with_reducible exact H) | (have H2_ := (Option.bind_some _ _).symm.trans H; rw [hy187]; with_reducible exact H2_) | (have H2_ := (Option.bind_some _ _).symm.trans H; with_reducible exact H2_) | with_reducible exact H | (rw [hy187]; exact H) | exact H
   have Ny187 := Aside0.mk hy187
   clear hy187
   obtain rfl := Option.some.inj H
   go_enter Tryd.func29, Tryd.ntmps29
   go_wp2_with (first | ((with_reducible refine gate_dst (N := 2) rfl ?_); refine box_event ?hg (N := 2) ?hd (cs := #[.int .i64 a0_0, .string a0_1, .slice A0_2 l0_2.length c0_2, .bool a0_3, .slice A0_4 l0_4.length c0_4]) (t := 30) ?hr ?_; (case hd => rfl); (case hg => rfl); (case hr => first | (go_simp; done) | (go_simp; rfl)); intro gb180 hg w15 hbox hb; have n0_ := Aside0.mk (Kd.R_below (by (with_reducible repeat (first | apply Kd.R_alloc | apply Kd.R_drewN | apply Kd.R_drew)); exact HO1.out) hb); have n1_ := Aside0.mk (Kept.below (S := (fun k_ => P1_ k_)) (by repeat (first | (with_reducible first | exact HK.out | apply Kept.alloc | apply Kept.drewN | apply Kept.drew) | exact HK.out)) hb); have n2_ := Aside0.mk (below_step (by repeat (first | (with_reducible first | exact HB.out | apply below_alloc | apply pw_below_drewN | apply below_drew1) | exact HB.out)) hb); have n3_ := Aside0.mk (hbox); have n4_ := Aside0.mk ((by rw [hg]; exact (by first | exact HK.out.1 | exact (show Kept w _ (fun k_ => P1_ k_) from by repeat (first | (with_reducible first | exact HK.out | apply Kept.alloc | apply Kept.drewN | apply Kept.drew) | exact HK.out)).1) : w.heap.size ≤ gb180)); have n5_ := Aside0.mk ((by rw [hg]; exact (below_size (by repeat (first | (with_reducible first | exact HB.out | apply below_alloc | apply pw_below_drewN | apply below_drew1) | exact HB.out))) : w0.heap.size ≤ gb180)); clear HO1; clear HK; clear HB; have HO1 := n0_; have HK := n1_; have HB := n2_; have BK180 := n3_; have GW180 := n4_; have GE180 := n5_; clear n0_ n1_ n2_ n3_ n4_ n5_; clear hb hbox hg; have hcz16_0 : w15.cell? ⟨gb180, 0, none⟩ = some (.int .i64 a0_0) := (blk_cell BK180.out 0).trans rfl; have hcz16_1 : w15.cell? ⟨gb180, 1, none⟩ = some (.string a0_1) := (blk_cell BK180.out 1).trans rfl; have hcz16_2 : w15.cell? ⟨gb180, 2, none⟩ = some (.slice A0_2 l0_2.length c0_2) := (blk_cell BK180.out 2).trans rfl; have hcz16_3 : w15.cell? ⟨gb180, 3, none⟩ = some (.bool a0_3) := (blk_cell BK180.out 3).trans rfl; have hcz16_4 : w15.cell? ⟨gb180, 4, none⟩ = some (.slice A0_4 l0_4.length c0_4) := (blk_cell BK180.out 4).trans rfl; have hfz16_0 := blk_frozen BK180.out 0; have hfz16_1 := blk_frozen BK180.out 1; have hfz16_2 := blk_frozen BK180.out 2; have hfz16_3 := blk_frozen BK180.out 3; have hfz16_4 := blk_frozen BK180.out 4) | ((with_reducible refine gate_builtin (b := .append) (xs := #[.tmp 20, .const (.string (⟨#[116, 114, 117, 101]⟩ : ByteArray))]) rfl ?_); at_builtin; refine M_append_str (w0 := w0) w0.heap.size rfl (.tmp 20) _ 47 9 5 rfl Tryd.underlying47 Tryd.underlying9 info5 u9000_ l1 (⟨#[116, 114, 117, 101]⟩ : ByteArray) (fun k_ => (P1_ k_ ∨ w.heap.size ≤ k_)) rfl rfl ?aF ?aO ?aB ?aS ?aL ?_; (case aB => exact (by repeat (first | (with_reducible first | exact HB.out | apply below_alloc | apply pw_below_drewN | apply below_drew1 | refine below_set ?_ GE180.out) | exact HB.out))); (case aF => exact (fun k_ hk => (.inr (Nat.le_trans (by first | exact HK.out.1 | exact (show Kept w _ (fun k_ => P1_ k_) from by repeat (first | (with_reducible first | exact HK.out | apply Kept.alloc | apply Kept.drewN | apply Kept.drew | refine Kept.setCell ?_ (.inr GW180.out) _) | exact HK.out)).1) hk)))); (case aO => exact (by (with_reducible repeat (first | apply Kd.R_alloc | apply Kd.R_drewN | apply Kd.R_drew)); exact HO1.out)); (case aS => exact (below_size (by repeat (first | (with_reducible first | exact HB.out | apply below_alloc | apply pw_below_drewN | apply below_drew1 | refine below_set ?_ GE180.out) | exact HB.out)))); (case aL => have := LMc14.out; have hk_ : (⟨#[116, 114, 117, 101]⟩ : ByteArray).size = 4 := rfl; omega); intro v188 w17 ho hb hg hat; rw [← Ny187.out] at ho; have n0_ := Aside0.mk (blk_grown (g := gb180) (o := .cells #[.int .i64 a0_0, .string a0_1, .slice A0_2 l0_2.length c0_2, .bool a0_3, .slice A0_4 l0_4.length c0_4] 30 (0, 0)) (by (with_reducible repeat (first | refine blk_drewN ?_ _ | refine blk_drew ?_ | refine blk_alloc ?_ _)); exact BK180.out) hg (Kd.R_ne HO1.out BK180.out (by decide))); have n1_ := Aside0.mk (hb); have n2_ := Aside0.mk (Kept.of_grown (S := (fun k_ => P1_ k_)) hg (by repeat (first | (with_reducible first | exact HK.out | apply Kept.alloc | apply Kept.drewN | apply Kept.drew | refine Kept.setCell ?_ (.inr GW180.out) _) | exact HK.out)) (fun k_ e_ => (HO1.out.1 k_ e_))); have n3_ := Aside0.mk (ho); clear BK180; clear HB; clear HK; clear HO1; have BK180 := n0_; have HB := n1_; have HK := n2_; have HO189 := n3_; clear n0_ n1_ n2_ n3_; clear ho hb hg hat))
   go_ret
   exact ⟨_, by first | rfl | (simp [errW_none, errW_some] <;> rfl) | (simp [*, errW_none, errW_some] <;> rfl) | (simp [errW_none, errW_some] <;> exact ⟨rfl, rfl⟩) | (simp [*, errW_none, errW_some] <;> exact ⟨rfl, rfl⟩), by (with_reducible repeat (first | apply Kd.R_alloc | apply Kd.R_drewN | apply Kd.R_drew)); exact HO189.out, by repeat (first | (with_reducible first | exact HB.out | apply below_alloc | apply pw_below_drewN | apply below_drew1 | refine below_set ?_ GE180.out) | exact HB.out), by repeat (first | (with_reducible first | exact HK.out | apply Kept.alloc | apply Kept.drewN | apply Kept.drew | refine Kept.setCell ?_ (.inr GW180.out) _) | exact HK.out)⟩
  rw [if_neg c14] at H
  exact absurd H (by simp)
 rw [if_neg c13] at H
 have c13b0 : (a0_0 == 2) = false := beq_eq_false_iff_ne.mpr c13
 have c13b1 : (a0_0 != 2) = true := bne_iff_ne.mpr c13
 by_cases c18 : a0_0 = 3
 ·rw [if_pos c18] at H
  have c18b0 : (a0_0 == 3) = true := beq_iff_eq.mpr c18
  have c18b1 : (a0_0 != 3) = false := bne_eq_false_iff_eq.mpr c18
  clear c18
  by_cases c19 : l1.length + a0_1.size < 140737488355328
  ·rw [if_pos c19] at H
   have LMc19 := Aside0.mk c19
   clear c19
   obtain ⟨y190, hy190⟩ : ∃ y_ : List Int, y_ = (l1 ++ bytesOf a0_1) := ⟨_, rfl⟩
   replace H : (some y190) = some r := by first | (rw [hy190]; with_reducible exact H) | (have H2_ := (Option.bind_some _ _).symm.trans H; rw [hy190]; with_reducible exact H2_) | (have H2_ := (Option.bind_some _ _).symm.trans H; with_reducible exact H2_) | with_reducible exact H | (rw [hy190]; exact H) | exact H
   have Ny190 := Aside0.mk hy190
   clear hy190
   obtain rfl := Option.some.inj H
   go_enter Tryd.func29, Tryd.ntmps29
   go_wp2_with (first | ((with_reducible refine gate_dst (N := 2) rfl ?_); refine box_event ?hg (N := 2) ?hd (cs := #[.int .i64 a0_0, .string a0_1, .slice A0_2 l0_2.length c0_2, .bool a0_3, .slice A0_4 l0_4.length c0_4]) (t := 30) ?hr ?_; (case hd => rfl); (case hg => rfl); (case hr => first | (go_simp; done) | (go_simp; rfl)); intro gb180 hg w20 hbox hb; have n0_ := Aside0.mk (Kd.R_below (by (with_reducible repeat (first | apply Kd.R_alloc | apply Kd.R_drewN | apply Kd.R_drew)); exact HO1.out) hb); have n1_ := Aside0.mk (Kept.below (S := (fun k_ => P1_ k_)) (by repeat (first | (with_reducible first | exact HK.out | apply Kept.alloc | apply Kept.drewN | apply Kept.drew) | exact HK.out)) hb); have n2_ := Aside0.mk (below_step (by repeat (first | (with_reducible first | exact HB.out | apply below_alloc | apply pw_below_drewN | apply below_drew1) | exact HB.out)) hb); have n3_ := Aside0.mk (hbox); have n4_ := Aside0.mk ((by rw [hg]; exact (by first | exact HK.out.1 | exact (show Kept w _ (fun k_ => P1_ k_) from by repeat (first | (with_reducible first | exact HK.out | apply Kept.alloc | apply Kept.drewN | apply Kept.drew) | exact HK.out)).1) : w.heap.size ≤ gb180)); have n5_ := Aside0.mk ((by rw [hg]; exact (below_size (by repeat (first | (with_reducible first | exact HB.out | apply below_alloc | apply pw_below_drewN | apply below_drew1) | exact HB.out))) : w0.heap.size ≤ gb180)); clear HO1; clear HK; clear HB; have HO1 := n0_; have HK := n1_; have HB := n2_; have BK180 := n3_; have GW180 := n4_; have GE180 := n5_; clear n0_ n1_ n2_ n3_ n4_ n5_; clear hb hbox hg; have hcz21_0 : w20.cell? ⟨gb180, 0, none⟩ = some (.int .i64 a0_0) := (blk_cell BK180.out 0).trans rfl; have hcz21_1 : w20.cell? ⟨gb180, 1, none⟩ = some (.string a0_1) := (blk_cell BK180.out 1).trans rfl; have hcz21_2 : w20.cell? ⟨gb180, 2, none⟩ = some (.slice A0_2 l0_2.length c0_2) := (blk_cell BK180.out 2).trans rfl; have hcz21_3 : w20.cell? ⟨gb180, 3, none⟩ = some (.bool a0_3) := (blk_cell BK180.out 3).trans rfl; have hcz21_4 : w20.cell? ⟨gb180, 4, none⟩ = some (.slice A0_4 l0_4.length c0_4) := (blk_cell BK180.out 4).trans rfl; have hfz21_0 := blk_frozen BK180.out 0; have hfz21_1 := blk_frozen BK180.out 1; have hfz21_2 := blk_frozen BK180.out 2; have hfz21_3 := blk_frozen BK180.out 3; have hfz21_4 := blk_frozen BK180.out 4) | (at_builtin; refine M_append_str (w0 := w0) w0.heap.size rfl (.tmp 24) _ 47 9 5 rfl Tryd.underlying47 Tryd.underlying9 info5 u9000_ l1 a0_1 (fun k_ => (P1_ k_ ∨ w.heap.size ≤ k_)) rfl rfl ?aF ?aO ?aB ?aS ?aL ?_; (case aB => exact (by repeat (first | (with_reducible first | exact HB.out | apply below_alloc | apply pw_below_drewN | apply below_drew1 | refine below_set ?_ GE180.out) | exact HB.out))); (case aF => exact (fun k_ hk => (.inr (Nat.le_trans (by first | exact HK.out.1 | exact (show Kept w _ (fun k_ => P1_ k_) from by repeat (first | (with_reducible first | exact HK.out | apply Kept.alloc | apply Kept.drewN | apply Kept.drew | refine Kept.setCell ?_ (.inr GW180.out) _) | exact HK.out)).1) hk)))); (case aO => exact (by (with_reducible repeat (first | apply Kd.R_alloc | apply Kd.R_drewN | apply Kd.R_drew)); exact HO1.out)); (case aS => exact (below_size (by repeat (first | (with_reducible first | exact HB.out | apply below_alloc | apply pw_below_drewN | apply below_drew1 | refine below_set ?_ GE180.out) | exact HB.out)))); (case aL => have := LMc19.out; omega); intro v191 w22 ho hb hg hat; rw [← Ny190.out] at ho; have n0_ := Aside0.mk (blk_grown (g := gb180) (o := .cells #[.int .i64 a0_0, .string a0_1, .slice A0_2 l0_2.length c0_2, .bool a0_3, .slice A0_4 l0_4.length c0_4] 30 (0, 0)) (by (with_reducible repeat (first | refine blk_drewN ?_ _ | refine blk_drew ?_ | refine blk_alloc ?_ _)); exact BK180.out) hg (Kd.R_ne HO1.out BK180.out (by decide))); have n1_ := Aside0.mk (hb); have n2_ := Aside0.mk (Kept.of_grown (S := (fun k_ => P1_ k_)) hg (by repeat (first | (with_reducible first | exact HK.out | apply Kept.alloc | apply Kept.drewN | apply Kept.drew | refine Kept.setCell ?_ (.inr GW180.out) _) | exact HK.out)) (fun k_ e_ => (HO1.out.1 k_ e_))); have n3_ := Aside0.mk (ho); clear BK180; clear HB; clear HK; clear HO1; have BK180 := n0_; have HB := n1_; have HK := n2_; have HO192 := n3_; clear n0_ n1_ n2_ n3_; clear ho hb hg hat))
   go_ret
   exact ⟨_, by first | rfl | (simp [errW_none, errW_some] <;> rfl) | (simp [*, errW_none, errW_some] <;> rfl) | (simp [errW_none, errW_some] <;> exact ⟨rfl, rfl⟩) | (simp [*, errW_none, errW_some] <;> exact ⟨rfl, rfl⟩), by (with_reducible repeat (first | apply Kd.R_alloc | apply Kd.R_drewN | apply Kd.R_drew)); exact HO192.out, by repeat (first | (with_reducible first | exact HB.out | apply below_alloc | apply pw_below_drewN | apply below_drew1 | refine below_set ?_ GE180.out) | exact HB.out), by repeat (first | (with_reducible first | exact HK.out | apply Kept.alloc | apply Kept.drewN | apply Kept.drew | refine Kept.setCell ?_ (.inr GW180.out) _) | exact HK.out)⟩
  rw [if_neg c19] at H
  exact absurd H (by simp)
 rw [if_neg c18] at H
 have c18b0 : (a0_0 == 3) = false := beq_eq_false_iff_ne.mpr c18
 have c18b1 : (a0_0 != 3) = true := bne_iff_ne.mpr c18
 by_cases c23 : a0_0 = 4
 ·rw [if_pos c23] at H
  have c23b0 : (a0_0 == 4) = true := beq_iff_eq.mpr c23
  have c23b1 : (a0_0 != 4) = false := bne_eq_false_iff_eq.mpr c23
  clear c23
  obtain ⟨y193, hy193⟩ : ∃ y_ : List Int, y_ = (([34] : List Int)) := ⟨_, rfl⟩
  replace H : (if l1.length + y193.length < 140737488355328 then ((some (l1 ++ y193 : List Int)).bind fun y196 => (if y196.length + a0_1.size < 140737488355328 then ((some (y196 ++ bytesOf a0_1 : List Int)).bind fun y199 => ((some (([34] : List Int) : List Int)).bind fun y202 => (if y199.length + y202.length < 140737488355328 then (some (y199 ++ y202)) else (none)))) else (none))) else (none)) = some r := by first | (rw [hy193]; with_reducible exact H) | (have H2_ := (Option.bind_some _ _).symm.trans H; rw [hy193]; with_reducible exact H2_) | (have H2_ := (Option.bind_some _ _).symm.trans H; with_reducible exact H2_) | with_reducible exact H | (rw [hy193]; exact H) | exact H
  have Ny193 := Aside0.mk hy193
  clear hy193
  by_cases c24 : l1.length + y193.length < 140737488355328
  ·rw [if_pos c24] at H
   have LMc24 := Aside0.mk c24
   clear c24
   obtain ⟨y196, hy196⟩ : ∃ y_ : List Int, y_ = (l1 ++ y193) := ⟨_, rfl⟩
   replace H : (if y196.length + a0_1.size < 140737488355328 then ((some (y196 ++ bytesOf a0_1 : List Int)).bind fun y199 => ((some (([34] : List Int) : List Int)).bind fun y202 => (if y199.length + y202.length < 140737488355328 then (some (y199 ++ y202)) else (none)))) else (none)) = some r := by first | (rw [hy196]; with_reducible exact H) | (have H2_ := (Option.bind_some _ _).symm.trans H; rw [hy196]; with_reducible exact H2_) | (have H2_ := (Option.bind_some _ _).symm.trans H; with_reducible exact H2_) | with_reducible exact H | (rw [hy196]; exact H) | exact H
   have Ny196 := Aside0.mk hy196
   clear hy196
   by_cases c25 : y196.length + a0_1.size < 140737488355328
   ·rw [if_pos c25] at H
    have LMc25 := Aside0.mk c25
    clear c25
    obtain ⟨y199, hy199⟩ : ∃ y_ : List Int, y_ = (y196 ++ bytesOf a0_1) := ⟨_, rfl⟩
    replace H : ((some (([34] : List Int) : List Int)).bind fun y202 => (if y199.length + y202.length < 140737488355328 then (some (y199 ++ y202)) else (none))) = some r := by first | (rw [hy199]; with_reducible exact H) | (have H2_ := (Option.bind_some _ _).symm.trans H; rw [hy199]; with_reducible exact H2_) | (have H2_ := (Option.bind_some _ _).symm.trans H; with_reducible exact H2_) | with_reducible exact H | (rw [hy199]; exact H) | exact H
    have Ny199 := Aside0.mk hy199
    clear hy199
    obtain ⟨y202, hy202⟩ : ∃ y_ : List Int, y_ = (([34] : List Int)) := ⟨_, rfl⟩
    replace H : (if y199.length + y202.length < 140737488355328 then (some (y199 ++ y202)) else (none)) = some r := by first | (rw [hy202]; with_reducible exact H) | (have H2_ := (Option.bind_some _ _).symm.trans H; rw [hy202]; with_reducible exact H2_) | (have H2_ := (Option.bind_some _ _).symm.trans H; with_reducible exact H2_) | with_reducible exact H | (rw [hy202]; exact H) | exact H
    have Ny202 := Aside0.mk hy202
    clear hy202
    by_cases c26 : y199.length + y202.length < 140737488355328
    ·rw [if_pos c26] at H
     have LMc26 := Aside0.mk c26
     clear c26
     obtain ⟨y205, hy205⟩ : ∃ y_ : List Int, y_ = (y199 ++ y202) := ⟨_, rfl⟩
     replace H : (some y205) = some r := by first | (rw [hy205]; with_reducible exact H) | (have H2_ := (Option.bind_some _ _).symm.trans H; rw [hy205]; with_reducible exact H2_) | (have H2_ := (Option.bind_some _ _).symm.trans H; with_reducible exact H2_) | with_reducible exact H | (rw [hy205]; exact H) | exact H
     have Ny205 := Aside0.mk hy205
     clear hy205
     obtain rfl := Option.some.inj H
     go_enter Tryd.func29, Tryd.ntmps29
     try go_wp2_with (first | ((with_reducible refine gate_dst (N := 2) rfl ?_); refine box_event ?hg (N := 2) ?hd (cs := #[.int .i64 a0_0, .string a0_1, .slice A0_2 l0_2.length c0_2, .bool a0_3, .slice A0_4 l0_4.length c0_4]) (t := 30) ?hr ?_; (case hd => rfl); (case hg => rfl); (case hr => first | (go_simp; done) | (go_simp; rfl)); intro gb180 hg w27 hbox hb; have n0_ := Aside0.mk (Kd.R_below (by (with_reducible repeat (first | apply Kd.R_alloc | apply Kd.R_drewN | apply Kd.R_drew)); exact HO1.out) hb); have n1_ := Aside0.mk (Kept.below (S := (fun k_ => P1_ k_)) (by repeat (first | (with_reducible first | exact HK.out | apply Kept.alloc | apply Kept.drewN | apply Kept.drew) | exact HK.out)) hb); have n2_ := Aside0.mk (below_step (by repeat (first | (with_reducible first | exact HB.out | apply below_alloc | apply pw_below_drewN | apply below_drew1) | exact HB.out)) hb); have n3_ := Aside0.mk (hbox); have n4_ := Aside0.mk ((by rw [hg]; exact (by first | exact HK.out.1 | exact (show Kept w _ (fun k_ => P1_ k_) from by repeat (first | (with_reducible first | exact HK.out | apply Kept.alloc | apply Kept.drewN | apply Kept.drew) | exact HK.out)).1) : w.heap.size ≤ gb180)); have n5_ := Aside0.mk ((by rw [hg]; exact (below_size (by repeat (first | (with_reducible first | exact HB.out | apply below_alloc | apply pw_below_drewN | apply below_drew1) | exact HB.out))) : w0.heap.size ≤ gb180)); clear HO1; clear HK; clear HB; have HO1 := n0_; have HK := n1_; have HB := n2_; have BK180 := n3_; have GW180 := n4_; have GE180 := n5_; clear n0_ n1_ n2_ n3_ n4_ n5_; clear hb hbox hg; have hcz28_0 : w27.cell? ⟨gb180, 0, none⟩ = some (.int .i64 a0_0) := (blk_cell BK180.out 0).trans rfl; have hcz28_1 : w27.cell? ⟨gb180, 1, none⟩ = some (.string a0_1) := (blk_cell BK180.out 1).trans rfl; have hcz28_2 : w27.cell? ⟨gb180, 2, none⟩ = some (.slice A0_2 l0_2.length c0_2) := (blk_cell BK180.out 2).trans rfl; have hcz28_3 : w27.cell? ⟨gb180, 3, none⟩ = some (.bool a0_3) := (blk_cell BK180.out 3).trans rfl; have hcz28_4 : w27.cell? ⟨gb180, 4, none⟩ = some (.slice A0_4 l0_4.length c0_4) := (blk_cell BK180.out 4).trans rfl; have hfz28_0 := blk_frozen BK180.out 0; have hfz28_1 := blk_frozen BK180.out 1; have hfz28_2 := blk_frozen BK180.out 2; have hfz28_3 := blk_frozen BK180.out 3; have hfz28_4 := blk_frozen BK180.out 4; obtain ⟨Ao29, co29, eo29⟩ := Kd.R_slice HO1.out; subst eo29))
     have n0_ := Aside0.mk (Kd.R_drew HO1.out)
     have n1_ := Aside0.mk (blk_drew BK180.out)
     have n2_ := Aside0.mk (Kept.drew HK.out)
     have n3_ := Aside0.mk (below_drew1 HB.out)
     clear HO1
     clear BK180
     clear HK
     clear HB
     have HO1 := n0_
     have BK180 := n1_
     have HK := n2_
     have HB := n3_
     clear n0_ n1_ n2_ n3_
     refine start_ (n := 9) (S := fun w' => w'.cell? ⟨gb180, 0, none⟩ = some (.int .i64 a0_0) ∧ w'.cell? ⟨gb180, 1, none⟩ = some (.string a0_1) ∧ w'.cell? ⟨gb180, 2, none⟩ = some (.slice A0_2 l0_2.length c0_2) ∧ w'.cell? ⟨gb180, 3, none⟩ = some (.bool a0_3) ∧ w'.cell? ⟨gb180, 4, none⟩ = some (.slice A0_4 l0_4.length c0_4)) (ds := []) #[false, false, false, false, false, false, false, false, false] (by kernel_rfl) rfl rfl ⟨(blk_cell BK180.out 0).trans rfl, (blk_cell BK180.out 1).trans rfl, (blk_cell BK180.out 2).trans rfl, (blk_cell BK180.out 3).trans rfl, (blk_cell BK180.out 4).trans rfl⟩ (fun hHeld => ?_); refine with_tabW spec_FjVal_textTo.tab11 spec_FjVal_textTo.bits11 (fun HT_ HW_ => ?_)
     generalize w27.drew = w30 at HO1 BK180 HK HB hHeld ⊢
     refine pure_ (i := 0) (N := some 30) (v := ?_) (a' := ?_) #[true, false, false, false, false, false, false, false, false] rfl rfl (any_of HT_.out (by kernel_rfl)) (fun _ _ _ h => h) (Or.inl ⟨by rfl, ?_⟩) ?_ ?_
     rotate_left
     ·intro w'
      go_simp
      with_reducible rfl
     rotate_left
     ·simp only [Act.put, List.setIfInBounds_toArray, List.set_cons_zero, List.set_cons_succ, i64_w, i32_w]
      rfl
     refine pure_ (i := 3) (N := some 33) (v := ?_) (a' := ?_) #[true, false, false, true, false, false, false, false, false] rfl rfl (any_of HT_.out (by kernel_rfl)) (fun _ _ _ h => h) (Or.inl ⟨by rfl, ?_⟩) ?_ ?_
     rotate_left
     ·intro w'
      go_simp
      with_reducible rfl
     rotate_left
     ·simp only [Act.put, List.setIfInBounds_toArray, List.set_cons_zero, List.set_cons_succ, i64_w, i32_w]
      rfl
     refine take_ (i := 4) (N := some 34) (v := ?_) (a' := ?_) #[true, false, false, true, true, false, false, false, false] rfl rfl (take_ofW HT_.out HW_.out (by kernel_rfl)) (fun _ _ _ h => h) (Or.inl ⟨by rfl, ?_⟩) hHeld ?_ ?_
     rotate_left
     ·rintro w' ⟨s0, s1, s2, s3, s4⟩
      go_simp
      with_reducible rfl
     rotate_left
     ·simp only [Act.put, List.setIfInBounds_toArray, List.set_cons_zero, List.set_cons_succ, i64_w, i32_w]
      rfl
     refine join_ (σ := Value × Value × Value × Value) 2 #[true, true, true, true, true, true, true, false, false] (fun s_ => [(31, s_.1), (32, s_.2.1), (35, s_.2.2.1), (36, s_.2.2.2)]) (fun s_ w' => (w'.cell? ⟨gb180, 0, none⟩ = some (.int .i64 a0_0) ∧ w'.cell? ⟨gb180, 1, none⟩ = some (.string a0_1) ∧ w'.cell? ⟨gb180, 2, none⟩ = some (.slice A0_2 l0_2.length c0_2) ∧ w'.cell? ⟨gb180, 3, none⟩ = some (.bool a0_3) ∧ w'.cell? ⟨gb180, 4, none⟩ = some (.slice A0_4 l0_4.length c0_4)) ∧ (Kd.R (Kd.int .u8) 5 w' w0.heap.size (fun k_ => (P1_ k_ ∨ w.heap.size ≤ k_) ∧ some k_ ≠ (s_.2.2.1 : Value).ownBlock ∧ some k_ ≠ (s_.2.2.2 : Value).ownBlock) s_.1 y193) ∧ (Kd.R (Kd.int .u8) 5 w' w0.heap.size (fun k_ => (P1_ k_ ∨ w.heap.size ≤ k_) ∧ some k_ ≠ (s_.1 : Value).ownBlock ∧ some k_ ≠ (s_.2.2.2 : Value).ownBlock) s_.2.2.1 y199) ∧ (Kd.R (Kd.int .u8) 5 w' w0.heap.size (fun k_ => (P1_ k_ ∨ w.heap.size ≤ k_) ∧ some k_ ≠ (s_.1 : Value).ownBlock ∧ some k_ ≠ (s_.2.2.1 : Value).ownBlock) s_.2.2.2 y202) ∧ (w'.heap[gb180]? = some (.cells #[.int .i64 a0_0, .string a0_1, .slice A0_2 l0_2.length c0_2, .bool a0_3, .slice A0_4 l0_4.length c0_4] 30 (0, 0))) ∧ (Kept w w' (fun k_ => P1_ k_)) ∧ (Below w0.heap.size w0 w')) ?_ ?_
     rotate_left
     ·intro hCont
      refine two_ (i := 1) (j := 6) (Ni := some 31) (Nj := some 36) #[true, true, false, true, true, false, false, false, false] #[true, false, false, true, true, false, true, false, false] rfl rfl rfl rfl (two_of HT_.out (by kernel_rfl)) (by decide) (by decide) (fun K hK => ?_) (fun K hK => ?_)
      ·skip
       refine Kd.R_lit_step (Kd.int .u8) _ 5 ?hg (N := 31) ?hd (xs := ([34] : List Int)) (inner := [.int .u8 34]) (ok := fun _ => True) (okp := fun _ => True) ?hr ?hp (fun _ hk => hk) trivial (Below.refl _ _) (Nat.le_refl _) (by simp) ?_; (case hd => rfl); (case hg => rfl); (case hr => first | (go_simp; done) | (go_simp; rfl)); (case hp => exact (Reps.one (show Kd.M (Kd.int .u8) _ _ _ 34 [.int .u8 34] from rfl) (Reps.none _ _)))
       intro v194 w31 ho32 hb hg_ hnew_
       clear hg_ hnew_
       (first | rw [← Ny193.out] at ho32 | (simp only [Int.reduceToNat] at ho32; rw [← Ny193.out] at ho32))
       have n0_ := Aside0.mk (Kd.R_elder' (by (with_reducible repeat (first | apply Kd.R_alloc | apply Kd.R_drewN | apply Kd.R_drew)); exact HO1.out) (Kd.R_base ho32) hb)
       have n1_ := Aside0.mk (Kd.R_lower (Kd.R_new' (Kd.R_newM (M := fun k_ => (P1_ k_ ∨ w.heap.size ≤ k_)) ho32 (by first | exact HK.out.1 | exact (show Kept w _ (fun k_ => P1_ k_) from by repeat (first | (with_reducible first | exact HK.out | apply Kept.alloc | apply Kept.drewN | apply Kept.drew | refine Kept.setCell ?_ (.inr GW180.out) _) | exact HK.out)).1) (fun k_ h_ => .inr h_)) (Kd.R_lt (by (with_reducible repeat (first | apply Kd.R_alloc | apply Kd.R_drewN | apply Kd.R_drew)); exact HO1.out))) (below_size (by repeat (first | (with_reducible first | exact HB.out | apply below_alloc | apply pw_below_drewN | apply below_drew1 | refine below_set ?_ GE180.out) | exact HB.out))))
       have n2_ := Aside0.mk (blk_below (g := gb180) (o := .cells #[.int .i64 a0_0, .string a0_1, .slice A0_2 l0_2.length c0_2, .bool a0_3, .slice A0_4 l0_4.length c0_4] 30 (0, 0)) (by (with_reducible repeat (first | refine blk_drewN ?_ _ | refine blk_drew ?_ | refine blk_alloc ?_ _)); exact BK180.out) hb)
       have n3_ := Aside0.mk (Kept.below (S := (fun k_ => P1_ k_)) (by repeat (first | (with_reducible first | exact HK.out | apply Kept.alloc | apply Kept.drewN | apply Kept.drew | refine Kept.setCell ?_ (.inr GW180.out) _) | exact HK.out)) hb)
       have n4_ := Aside0.mk (below_step (by repeat (first | (with_reducible first | exact HB.out | apply below_alloc | apply pw_below_drewN | apply below_drew1 | refine below_set ?_ GE180.out) | exact HB.out)) hb)
       clear HO1
       clear BK180
       clear HK
       clear HB
       have HO1 := n0_
       have HO195 := n1_
       have BK180 := n2_
       have HK := n3_
       have HB := n4_
       clear n0_ n1_ n2_ n3_ n4_
       clear hb ho32
       obtain ⟨Ao34, co34, eo34⟩ := Kd.R_slice HO195.out
       (first | subst eo34 | (injection eo34 with f1_ f2_ f3_; have f4_ := f1_.symm; have f5_ := f3_.symm; clear f1_ f2_ f3_; subst f4_; subst f5_))
       refine hK.out _ _ ⟨(blk_cell BK180.out 0).trans rfl, (blk_cell BK180.out 1).trans rfl, (blk_cell BK180.out 2).trans rfl, (blk_cell BK180.out 3).trans rfl, (blk_cell BK180.out 4).trans rfl⟩ (fun hHeld => ?_)
       clear hK K
       refine norm_ (a' := ?_) ?_ ?_
       rotate_left
       ·show Act.put _ (some 31) _ = _
        simp only [Act.put, List.setIfInBounds_toArray, List.set_cons_zero, List.set_cons_succ, i64_w, i32_w]
        rfl
       refine two_ (i := 2) (j := 6) (Ni := some 32) (Nj := some 36) #[true, true, true, true, true, false, false, false, false] #[true, true, false, true, true, false, true, false, false] rfl rfl rfl rfl (two_of HT_.out (by kernel_rfl)) (by decide) (by decide) (fun K hK => ?_) (fun K hK => ?_)
       ·skip
        refine Kd.R_append_rows_step (Kd.int .u8) (w0 := w0) w0.heap.size (by rfl) (.tmp 30) (.tmp 31) 47 5 (.int .u8 0) 1 rfl Tryd.underlying47 info5 rfl (by decide) (by omega) (.slice Ao29 l1.length co29) l1 y193 _ _ _ (fun k_ => (P1_ k_ ∨ w.heap.size ≤ k_) ∧ some k_ ≠ (.slice Ao34 y193.length co34 : Value).ownBlock) (fun _ => False) rfl rfl ?aO ?aR (fun _ _ h => h) (fun _ h => h.elim) ?aF ?aB ?aS ?aL ?_
        (case aR => repeat (first | exact (Kd.R_reads' HO195.out).2.2 | (with_reducible refine Kd.C_alloc ?_ _) | (with_reducible refine Kd.C_drewN ?_ _) | (with_reducible refine Kd.C_drew ?_)))
        (case aB => exact (by repeat (first | (with_reducible first | exact HB.out | apply below_alloc | apply pw_below_drewN | apply below_drew1 | refine below_set ?_ GE180.out) | exact HB.out)))
        (case aF => exact (fun k_ hk => ⟨(.inr (Nat.le_trans (by first | exact HK.out.1 | exact (show Kept w _ (fun k_ => P1_ k_) from by repeat (first | (with_reducible first | exact HK.out | apply Kept.alloc | apply Kept.drewN | apply Kept.drew | refine Kept.setCell ?_ (.inr GW180.out) _) | exact HK.out)).1) hk)), Kd.fresh' (Kd.R_lt (by (with_reducible repeat (first | apply Kd.R_alloc | apply Kd.R_drewN | apply Kd.R_drew)); exact HO195.out)) k_ hk⟩))
        (case aO => exact (by (with_reducible repeat (first | apply Kd.R_alloc | apply Kd.R_drewN | apply Kd.R_drew)); exact HO1.out))
        (case aS => exact (below_size (by repeat (first | (with_reducible first | exact HB.out | apply below_alloc | apply pw_below_drewN | apply below_drew1 | refine below_set ?_ GE180.out) | exact HB.out))))
        (case aL => have := LMc24.out; omega)
        intro v197 w33 ho hb hg hat
        rw [← Ny196.out] at ho
        have n0_ := Aside0.mk (blk_grown (g := gb180) (o := .cells #[.int .i64 a0_0, .string a0_1, .slice A0_2 l0_2.length c0_2, .bool a0_3, .slice A0_4 l0_4.length c0_4] 30 (0, 0)) (by (with_reducible repeat (first | refine blk_drewN ?_ _ | refine blk_drew ?_ | refine blk_alloc ?_ _)); exact BK180.out) hg (Kd.R_ne HO1.out BK180.out (by decide)))
        have n1_ := Aside0.mk (Kd.R_after (ok := (fun k_ => (P1_ k_ ∨ w.heap.size ≤ k_))) (by (with_reducible repeat (first | apply Kd.R_alloc | apply Kd.R_drewN | apply Kd.R_drew)); exact Kd.R_mono HO195.out (fun _ hk => ⟨hk.1.1, hk.2⟩)) hg hat)
        have n2_ := Aside0.mk (hb)
        have n3_ := Aside0.mk (Kept.of_grown (S := (fun k_ => P1_ k_)) hg (by repeat (first | (with_reducible first | exact HK.out | apply Kept.alloc | apply Kept.drewN | apply Kept.drew | refine Kept.setCell ?_ (.inr GW180.out) _) | exact HK.out)) (fun k_ e_ => (HO1.out.1 k_ e_).1))
        have n4_ := Aside0.mk (ho)
        clear BK180
        clear HO195
        clear HB
        clear HK
        clear HO1
        have BK180 := n0_
        have HO195 := n1_
        have HB := n2_
        have HK := n3_
        have HO198 := n4_
        clear n0_ n1_ n2_ n3_ n4_
        clear ho hb hg hat
        refine hK.out _ _ ⟨(blk_cell BK180.out 0).trans rfl, (blk_cell BK180.out 1).trans rfl, (blk_cell BK180.out 2).trans rfl, (blk_cell BK180.out 3).trans rfl, (blk_cell BK180.out 4).trans rfl⟩ (fun hHeld => ?_)
        clear hK K
        refine norm_ (a' := ?_) ?_ ?_
        rotate_left
        ·show Act.put _ (some 32) _ = _
         simp only [Act.put, List.setIfInBounds_toArray, List.set_cons_zero, List.set_cons_succ, i64_w, i32_w]
         rfl
        refine two_ (i := 5) (j := 6) (Ni := some 35) (Nj := some 36) #[true, true, true, true, true, true, false, false, false] #[true, true, true, true, true, false, true, false, false] rfl rfl rfl rfl (two_of HT_.out (by kernel_rfl)) (by decide) (by decide) (fun K hK => ?_) (fun K hK => ?_)
        ·skip
         refine M_append_str_step (w0 := w0) w0.heap.size (by rfl) (.tmp 32) _ 47 9 5 rfl Tryd.underlying47 Tryd.underlying9 info5 v197 y196 a0_1 (fun k_ => (P1_ k_ ∨ w.heap.size ≤ k_) ∧ some k_ ≠ (.slice Ao34 y193.length co34 : Value).ownBlock) rfl rfl ?aF ?aO ?aB ?aS ?aL ?_
         (case aB => exact (by repeat (first | (with_reducible first | exact HB.out | apply below_alloc | apply pw_below_drewN | apply below_drew1 | refine below_set ?_ GE180.out) | exact HB.out)))
         (case aF => exact (fun k_ hk => ⟨(.inr (Nat.le_trans (by first | exact HK.out.1 | exact (show Kept w _ (fun k_ => P1_ k_) from by repeat (first | (with_reducible first | exact HK.out | apply Kept.alloc | apply Kept.drewN | apply Kept.drew | refine Kept.setCell ?_ (.inr GW180.out) _) | exact HK.out)).1) hk)), Kd.fresh' (Kd.R_lt (by (with_reducible repeat (first | apply Kd.R_alloc | apply Kd.R_drewN | apply Kd.R_drew)); exact HO195.out)) k_ hk⟩))
         (case aO => exact (by (with_reducible repeat (first | apply Kd.R_alloc | apply Kd.R_drewN | apply Kd.R_drew)); exact HO198.out))
         (case aS => exact (below_size (by repeat (first | (with_reducible first | exact HB.out | apply below_alloc | apply pw_below_drewN | apply below_drew1 | refine below_set ?_ GE180.out) | exact HB.out))))
         (case aL => have := LMc25.out; omega)
         intro v200 w35 ho hb hg hat
         rw [← Ny199.out] at ho
         have n0_ := Aside0.mk (blk_grown (g := gb180) (o := .cells #[.int .i64 a0_0, .string a0_1, .slice A0_2 l0_2.length c0_2, .bool a0_3, .slice A0_4 l0_4.length c0_4] 30 (0, 0)) (by (with_reducible repeat (first | refine blk_drewN ?_ _ | refine blk_drew ?_ | refine blk_alloc ?_ _)); exact BK180.out) hg (Kd.R_ne HO198.out BK180.out (by decide)))
         have n1_ := Aside0.mk (Kd.R_after (ok := (fun k_ => (P1_ k_ ∨ w.heap.size ≤ k_))) (by (with_reducible repeat (first | apply Kd.R_alloc | apply Kd.R_drewN | apply Kd.R_drew)); exact HO195.out) hg hat)
         have n2_ := Aside0.mk (hb)
         have n3_ := Aside0.mk (Kept.of_grown (S := (fun k_ => P1_ k_)) hg (by repeat (first | (with_reducible first | exact HK.out | apply Kept.alloc | apply Kept.drewN | apply Kept.drew | refine Kept.setCell ?_ (.inr GW180.out) _) | exact HK.out)) (fun k_ e_ => (HO198.out.1 k_ e_).1))
         have n4_ := Aside0.mk (ho)
         clear BK180
         clear HO195
         clear HB
         clear HK
         clear HO198
         have BK180 := n0_
         have HO195 := n1_
         have HB := n2_
         have HK := n3_
         have HO201 := n4_
         clear n0_ n1_ n2_ n3_ n4_
         clear ho hb hg hat
         refine hK.out _ _ ⟨(blk_cell BK180.out 0).trans rfl, (blk_cell BK180.out 1).trans rfl, (blk_cell BK180.out 2).trans rfl, (blk_cell BK180.out 3).trans rfl, (blk_cell BK180.out 4).trans rfl⟩ (fun hHeld => ?_)
         clear hK K
         refine norm_ (a' := ?_) ?_ ?_
         rotate_left
         ·show Act.put _ (some 35) _ = _
          simp only [Act.put, List.setIfInBounds_toArray, List.set_cons_zero, List.set_cons_succ, i64_w, i32_w]
          rfl
         refine one_ (i := 6) (N := some 36) #[true, true, true, true, true, true, true, false, false] rfl rfl (one_of HT_.out (by kernel_rfl)) (by decide) (fun K hK => ?_)
         refine Kd.R_lit_step (Kd.int .u8) _ 5 ?hg (N := 36) ?hd (xs := ([34] : List Int)) (inner := [.int .u8 34]) (ok := fun _ => True) (okp := fun _ => True) ?hr ?hp (fun _ hk => hk) trivial (Below.refl _ _) (Nat.le_refl _) (by simp) ?_; (case hd => rfl); (case hg => rfl); (case hr => first | (go_simp; done) | (go_simp; rfl)); (case hp => exact (Reps.one (show Kd.M (Kd.int .u8) _ _ _ 34 [.int .u8 34] from rfl) (Reps.none _ _)))
         intro v203 w36 ho37 hb hg_ hnew_
         clear hg_ hnew_
         (first | rw [← Ny202.out] at ho37 | (simp only [Int.reduceToNat] at ho37; rw [← Ny202.out] at ho37))
         have n0_ := Aside0.mk (Kd.R_elder' (by (with_reducible repeat (first | apply Kd.R_alloc | apply Kd.R_drewN | apply Kd.R_drew)); exact HO195.out) (Kd.R_base ho37) hb)
         have n1_ := Aside0.mk (Kd.R_elder' (by (with_reducible repeat (first | apply Kd.R_alloc | apply Kd.R_drewN | apply Kd.R_drew)); exact HO201.out) (Kd.R_base ho37) hb)
         have n2_ := Aside0.mk (Kd.R_lower (Kd.R_new' (Kd.R_new' (Kd.R_newM (M := fun k_ => (P1_ k_ ∨ w.heap.size ≤ k_)) ho37 (by first | exact HK.out.1 | exact (show Kept w _ (fun k_ => P1_ k_) from by repeat (first | (with_reducible first | exact HK.out | apply Kept.alloc | apply Kept.drewN | apply Kept.drew | refine Kept.setCell ?_ (.inr GW180.out) _) | exact HK.out)).1) (fun k_ h_ => .inr h_)) (Kd.R_lt (by (with_reducible repeat (first | apply Kd.R_alloc | apply Kd.R_drewN | apply Kd.R_drew)); exact HO195.out))) (Kd.R_lt (by (with_reducible repeat (first | apply Kd.R_alloc | apply Kd.R_drewN | apply Kd.R_drew)); exact HO201.out))) (below_size (by repeat (first | (with_reducible first | exact HB.out | apply below_alloc | apply pw_below_drewN | apply below_drew1 | refine below_set ?_ GE180.out) | exact HB.out))))
         have n3_ := Aside0.mk (blk_below (g := gb180) (o := .cells #[.int .i64 a0_0, .string a0_1, .slice A0_2 l0_2.length c0_2, .bool a0_3, .slice A0_4 l0_4.length c0_4] 30 (0, 0)) (by (with_reducible repeat (first | refine blk_drewN ?_ _ | refine blk_drew ?_ | refine blk_alloc ?_ _)); exact BK180.out) hb)
         have n4_ := Aside0.mk (Kept.below (S := (fun k_ => P1_ k_)) (by repeat (first | (with_reducible first | exact HK.out | apply Kept.alloc | apply Kept.drewN | apply Kept.drew | refine Kept.setCell ?_ (.inr GW180.out) _) | exact HK.out)) hb)
         have n5_ := Aside0.mk (below_step (by repeat (first | (with_reducible first | exact HB.out | apply below_alloc | apply pw_below_drewN | apply below_drew1 | refine below_set ?_ GE180.out) | exact HB.out)) hb)
         clear HO195
         clear HO201
         clear BK180
         clear HK
         clear HB
         have HO195 := n0_
         have HO201 := n1_
         have HO204 := n2_
         have BK180 := n3_
         have HK := n4_
         have HB := n5_
         clear n0_ n1_ n2_ n3_ n4_ n5_
         clear hb ho37
         refine hK.out _ _ ⟨(blk_cell BK180.out 0).trans rfl, (blk_cell BK180.out 1).trans rfl, (blk_cell BK180.out 2).trans rfl, (blk_cell BK180.out 3).trans rfl, (blk_cell BK180.out 4).trans rfl⟩ (fun hHeld => ?_)
         clear hK K
         refine norm_ (a' := ?_) ?_ ?_
         rotate_left
         ·show Act.put _ (some 36) _ = _
          simp only [Act.put, List.setIfInBounds_toArray, List.set_cons_zero, List.set_cons_succ, i64_w, i32_w]
          rfl
         exact norm_ (by simp only [putAll, Act.put, List.setIfInBounds_toArray, List.set_cons_zero, List.set_cons_succ]) (hCont (.slice Ao34 y193.length co34, v197, v200, v203) _ ⟨hHeld, (by (with_reducible repeat (first | apply Kd.R_alloc | apply Kd.R_drewN | apply Kd.R_drew)); exact Kd.R_mono HO195.out (fun _ hk => ⟨hk.1.1, ⟨hk.1.2, hk.2⟩⟩)), (by (with_reducible repeat (first | apply Kd.R_alloc | apply Kd.R_drewN | apply Kd.R_drew)); exact Kd.R_mono HO201.out (fun _ hk => ⟨hk.1.1, ⟨hk.1.2, hk.2⟩⟩)), (by (with_reducible repeat (first | apply Kd.R_alloc | apply Kd.R_drewN | apply Kd.R_drew)); exact Kd.R_mono HO204.out (fun _ hk => ⟨hk.1.1.1, ⟨hk.1.2, hk.2⟩⟩)), (by (with_reducible repeat (first | refine blk_drewN ?_ _ | refine blk_drew ?_ | refine blk_alloc ?_ _)); exact BK180.out), (by repeat (first | (with_reducible first | exact HK.out | apply Kept.alloc | apply Kept.drewN | apply Kept.drew | refine Kept.setCell ?_ (.inr GW180.out) _) | exact HK.out)), (by repeat (first | (with_reducible first | exact HB.out | apply below_alloc | apply pw_below_drewN | apply below_drew1 | refine below_set ?_ GE180.out) | exact HB.out))⟩)
        skip
        refine Kd.R_lit_step (Kd.int .u8) _ 5 ?hg (N := 36) ?hd (xs := ([34] : List Int)) (inner := [.int .u8 34]) (ok := fun _ => True) (okp := fun _ => True) ?hr ?hp (fun _ hk => hk) trivial (Below.refl _ _) (Nat.le_refl _) (by simp) ?_; (case hd => rfl); (case hg => rfl); (case hr => first | (go_simp; done) | (go_simp; rfl)); (case hp => exact (Reps.one (show Kd.M (Kd.int .u8) _ _ _ 34 [.int .u8 34] from rfl) (Reps.none _ _)))
        intro v203 w35 ho36 hb hg_ hnew_
        clear hg_ hnew_
        (first | rw [← Ny202.out] at ho36 | (simp only [Int.reduceToNat] at ho36; rw [← Ny202.out] at ho36))
        have n0_ := Aside0.mk (Kd.R_elder' (by (with_reducible repeat (first | apply Kd.R_alloc | apply Kd.R_drewN | apply Kd.R_drew)); exact HO195.out) (Kd.R_base ho36) hb)
        have n1_ := Aside0.mk (Kd.R_elder' (by (with_reducible repeat (first | apply Kd.R_alloc | apply Kd.R_drewN | apply Kd.R_drew)); exact HO198.out) (Kd.R_base ho36) hb)
        have n2_ := Aside0.mk (Kd.R_lower (Kd.R_new' (Kd.R_new' (Kd.R_newM (M := fun k_ => (P1_ k_ ∨ w.heap.size ≤ k_)) ho36 (by first | exact HK.out.1 | exact (show Kept w _ (fun k_ => P1_ k_) from by repeat (first | (with_reducible first | exact HK.out | apply Kept.alloc | apply Kept.drewN | apply Kept.drew | refine Kept.setCell ?_ (.inr GW180.out) _) | exact HK.out)).1) (fun k_ h_ => .inr h_)) (Kd.R_lt (by (with_reducible repeat (first | apply Kd.R_alloc | apply Kd.R_drewN | apply Kd.R_drew)); exact HO195.out))) (Kd.R_lt (by (with_reducible repeat (first | apply Kd.R_alloc | apply Kd.R_drewN | apply Kd.R_drew)); exact HO198.out))) (below_size (by repeat (first | (with_reducible first | exact HB.out | apply below_alloc | apply pw_below_drewN | apply below_drew1 | refine below_set ?_ GE180.out) | exact HB.out))))
        have n3_ := Aside0.mk (blk_below (g := gb180) (o := .cells #[.int .i64 a0_0, .string a0_1, .slice A0_2 l0_2.length c0_2, .bool a0_3, .slice A0_4 l0_4.length c0_4] 30 (0, 0)) (by (with_reducible repeat (first | refine blk_drewN ?_ _ | refine blk_drew ?_ | refine blk_alloc ?_ _)); exact BK180.out) hb)
        have n4_ := Aside0.mk (Kept.below (S := (fun k_ => P1_ k_)) (by repeat (first | (with_reducible first | exact HK.out | apply Kept.alloc | apply Kept.drewN | apply Kept.drew | refine Kept.setCell ?_ (.inr GW180.out) _) | exact HK.out)) hb)
        have n5_ := Aside0.mk (below_step (by repeat (first | (with_reducible first | exact HB.out | apply below_alloc | apply pw_below_drewN | apply below_drew1 | refine below_set ?_ GE180.out) | exact HB.out)) hb)
        clear HO195
        clear HO198
        clear BK180
        clear HK
        clear HB
        have HO195 := n0_
        have HO198 := n1_
        have HO204 := n2_
        have BK180 := n3_
        have HK := n4_
        have HB := n5_
        clear n0_ n1_ n2_ n3_ n4_ n5_
        clear hb ho36
        refine hK.out _ _ ⟨(blk_cell BK180.out 0).trans rfl, (blk_cell BK180.out 1).trans rfl, (blk_cell BK180.out 2).trans rfl, (blk_cell BK180.out 3).trans rfl, (blk_cell BK180.out 4).trans rfl⟩ (fun hHeld => ?_)
        clear hK K
        refine norm_ (a' := ?_) ?_ ?_
        rotate_left
        ·show Act.put _ (some 36) _ = _
         simp only [Act.put, List.setIfInBounds_toArray, List.set_cons_zero, List.set_cons_succ, i64_w, i32_w]
         rfl
        refine one_ (i := 5) (N := some 35) #[true, true, true, true, true, true, true, false, false] rfl rfl (one_of HT_.out (by kernel_rfl)) (by decide) (fun K hK => ?_)
        refine M_append_str_step (w0 := w0) w0.heap.size (by rfl) (.tmp 32) _ 47 9 5 rfl Tryd.underlying47 Tryd.underlying9 info5 v197 y196 a0_1 (fun k_ => (P1_ k_ ∨ w.heap.size ≤ k_) ∧ some k_ ≠ (.slice Ao34 y193.length co34 : Value).ownBlock ∧ some k_ ≠ (v203 : Value).ownBlock) rfl rfl ?aF ?aO ?aB ?aS ?aL ?_
        (case aB => exact (by repeat (first | (with_reducible first | exact HB.out | apply below_alloc | apply pw_below_drewN | apply below_drew1 | refine below_set ?_ GE180.out) | exact HB.out)))
        (case aF => exact (fun k_ hk => ⟨(.inr (Nat.le_trans (by first | exact HK.out.1 | exact (show Kept w _ (fun k_ => P1_ k_) from by repeat (first | (with_reducible first | exact HK.out | apply Kept.alloc | apply Kept.drewN | apply Kept.drew | refine Kept.setCell ?_ (.inr GW180.out) _) | exact HK.out)).1) hk)), Kd.fresh' (Kd.R_lt (by (with_reducible repeat (first | apply Kd.R_alloc | apply Kd.R_drewN | apply Kd.R_drew)); exact HO195.out)) k_ hk, Kd.fresh' (Kd.R_lt (by (with_reducible repeat (first | apply Kd.R_alloc | apply Kd.R_drewN | apply Kd.R_drew)); exact HO204.out)) k_ hk⟩))
        (case aO => exact (by (with_reducible repeat (first | apply Kd.R_alloc | apply Kd.R_drewN | apply Kd.R_drew)); exact Kd.R_mono HO198.out (fun _ hk => ⟨hk.1.1, ⟨hk.1.2, hk.2⟩⟩)))
        (case aS => exact (below_size (by repeat (first | (with_reducible first | exact HB.out | apply below_alloc | apply pw_below_drewN | apply below_drew1 | refine below_set ?_ GE180.out) | exact HB.out))))
        (case aL => have := LMc25.out; omega)
        intro v200 w37 ho hb hg hat
        rw [← Ny199.out] at ho
        have n0_ := Aside0.mk (blk_grown (g := gb180) (o := .cells #[.int .i64 a0_0, .string a0_1, .slice A0_2 l0_2.length c0_2, .bool a0_3, .slice A0_4 l0_4.length c0_4] 30 (0, 0)) (by (with_reducible repeat (first | refine blk_drewN ?_ _ | refine blk_drew ?_ | refine blk_alloc ?_ _)); exact BK180.out) hg (Kd.R_ne HO198.out BK180.out (by decide)))
        have n1_ := Aside0.mk (Kd.R_after (ok := (fun k_ => (P1_ k_ ∨ w.heap.size ≤ k_) ∧ some k_ ≠ (v203 : Value).ownBlock)) (by (with_reducible repeat (first | apply Kd.R_alloc | apply Kd.R_drewN | apply Kd.R_drew)); exact Kd.R_mono HO195.out (fun _ hk => ⟨⟨hk.1.1, hk.2⟩, hk.1.2⟩)) hg hat)
        have n2_ := Aside0.mk (Kd.R_after (ok := (fun k_ => (P1_ k_ ∨ w.heap.size ≤ k_) ∧ some k_ ≠ (.slice Ao34 y193.length co34 : Value).ownBlock)) (by (with_reducible repeat (first | apply Kd.R_alloc | apply Kd.R_drewN | apply Kd.R_drew)); exact Kd.R_mono HO204.out (fun _ hk => ⟨⟨hk.1.1.1, hk.1.2⟩, hk.2⟩)) hg hat)
        have n3_ := Aside0.mk (hb)
        have n4_ := Aside0.mk (Kept.of_grown (S := (fun k_ => P1_ k_)) hg (by repeat (first | (with_reducible first | exact HK.out | apply Kept.alloc | apply Kept.drewN | apply Kept.drew | refine Kept.setCell ?_ (.inr GW180.out) _) | exact HK.out)) (fun k_ e_ => (HO198.out.1 k_ e_).1.1))
        have n5_ := Aside0.mk (ho)
        clear BK180
        clear HO195
        clear HO204
        clear HB
        clear HK
        clear HO198
        have BK180 := n0_
        have HO195 := n1_
        have HO204 := n2_
        have HB := n3_
        have HK := n4_
        have HO201 := n5_
        clear n0_ n1_ n2_ n3_ n4_ n5_
        clear ho hb hg hat
        refine hK.out _ _ ⟨(blk_cell BK180.out 0).trans rfl, (blk_cell BK180.out 1).trans rfl, (blk_cell BK180.out 2).trans rfl, (blk_cell BK180.out 3).trans rfl, (blk_cell BK180.out 4).trans rfl⟩ (fun hHeld => ?_)
        clear hK K
        refine norm_ (a' := ?_) ?_ ?_
        rotate_left
        ·show Act.put _ (some 35) _ = _
         simp only [Act.put, List.setIfInBounds_toArray, List.set_cons_zero, List.set_cons_succ, i64_w, i32_w]
         rfl
        exact norm_ (by simp only [putAll, Act.put, List.setIfInBounds_toArray, List.set_cons_zero, List.set_cons_succ]) (hCont (.slice Ao34 y193.length co34, v197, v200, v203) _ ⟨hHeld, (by (with_reducible repeat (first | apply Kd.R_alloc | apply Kd.R_drewN | apply Kd.R_drew)); exact Kd.R_mono HO195.out (fun _ hk => ⟨hk.1.1, ⟨hk.2, hk.1.2⟩⟩)), (by (with_reducible repeat (first | apply Kd.R_alloc | apply Kd.R_drewN | apply Kd.R_drew)); exact HO201.out), (by (with_reducible repeat (first | apply Kd.R_alloc | apply Kd.R_drewN | apply Kd.R_drew)); exact Kd.R_mono HO204.out (fun _ hk => ⟨hk.1.1, ⟨hk.1.2, hk.2⟩⟩)), (by (with_reducible repeat (first | refine blk_drewN ?_ _ | refine blk_drew ?_ | refine blk_alloc ?_ _)); exact BK180.out), (by repeat (first | (with_reducible first | exact HK.out | apply Kept.alloc | apply Kept.drewN | apply Kept.drew | refine Kept.setCell ?_ (.inr GW180.out) _) | exact HK.out)), (by repeat (first | (with_reducible first | exact HB.out | apply below_alloc | apply pw_below_drewN | apply below_drew1 | refine below_set ?_ GE180.out) | exact HB.out))⟩)
       skip
       refine Kd.R_lit_step (Kd.int .u8) _ 5 ?hg (N := 36) ?hd (xs := ([34] : List Int)) (inner := [.int .u8 34]) (ok := fun _ => True) (okp := fun _ => True) ?hr ?hp (fun _ hk => hk) trivial (Below.refl _ _) (Nat.le_refl _) (by simp) ?_; (case hd => rfl); (case hg => rfl); (case hr => first | (go_simp; done) | (go_simp; rfl)); (case hp => exact (Reps.one (show Kd.M (Kd.int .u8) _ _ _ 34 [.int .u8 34] from rfl) (Reps.none _ _)))
       intro v203 w33 ho34 hb hg_ hnew_
       clear hg_ hnew_
       (first | rw [← Ny202.out] at ho34 | (simp only [Int.reduceToNat] at ho34; rw [← Ny202.out] at ho34))
       have n0_ := Aside0.mk (Kd.R_elder' (by (with_reducible repeat (first | apply Kd.R_alloc | apply Kd.R_drewN | apply Kd.R_drew)); exact HO1.out) (Kd.R_base ho34) hb)
       have n1_ := Aside0.mk (Kd.R_elder' (by (with_reducible repeat (first | apply Kd.R_alloc | apply Kd.R_drewN | apply Kd.R_drew)); exact HO195.out) (Kd.R_base ho34) hb)
       have n2_ := Aside0.mk (Kd.R_lower (Kd.R_new' (Kd.R_new' (Kd.R_newM (M := fun k_ => (P1_ k_ ∨ w.heap.size ≤ k_)) ho34 (by first | exact HK.out.1 | exact (show Kept w _ (fun k_ => P1_ k_) from by repeat (first | (with_reducible first | exact HK.out | apply Kept.alloc | apply Kept.drewN | apply Kept.drew | refine Kept.setCell ?_ (.inr GW180.out) _) | exact HK.out)).1) (fun k_ h_ => .inr h_)) (Kd.R_lt (by (with_reducible repeat (first | apply Kd.R_alloc | apply Kd.R_drewN | apply Kd.R_drew)); exact HO1.out))) (Kd.R_lt (by (with_reducible repeat (first | apply Kd.R_alloc | apply Kd.R_drewN | apply Kd.R_drew)); exact HO195.out))) (below_size (by repeat (first | (with_reducible first | exact HB.out | apply below_alloc | apply pw_below_drewN | apply below_drew1 | refine below_set ?_ GE180.out) | exact HB.out))))
       have n3_ := Aside0.mk (blk_below (g := gb180) (o := .cells #[.int .i64 a0_0, .string a0_1, .slice A0_2 l0_2.length c0_2, .bool a0_3, .slice A0_4 l0_4.length c0_4] 30 (0, 0)) (by (with_reducible repeat (first | refine blk_drewN ?_ _ | refine blk_drew ?_ | refine blk_alloc ?_ _)); exact BK180.out) hb)
       have n4_ := Aside0.mk (Kept.below (S := (fun k_ => P1_ k_)) (by repeat (first | (with_reducible first | exact HK.out | apply Kept.alloc | apply Kept.drewN | apply Kept.drew | refine Kept.setCell ?_ (.inr GW180.out) _) | exact HK.out)) hb)
       have n5_ := Aside0.mk (below_step (by repeat (first | (with_reducible first | exact HB.out | apply below_alloc | apply pw_below_drewN | apply below_drew1 | refine below_set ?_ GE180.out) | exact HB.out)) hb)
       clear HO1
       clear HO195
       clear BK180
       clear HK
       clear HB
       have HO1 := n0_
       have HO195 := n1_
       have HO204 := n2_
       have BK180 := n3_
       have HK := n4_
       have HB := n5_
       clear n0_ n1_ n2_ n3_ n4_ n5_
       clear hb ho34
       obtain ⟨Ao36, co36, eo36⟩ := Kd.R_slice HO195.out
       (first | subst eo36 | (injection eo36 with f1_ f2_ f3_; have f4_ := f1_.symm; have f5_ := f3_.symm; clear f1_ f2_ f3_; subst f4_; subst f5_))
       refine hK.out _ _ ⟨(blk_cell BK180.out 0).trans rfl, (blk_cell BK180.out 1).trans rfl, (blk_cell BK180.out 2).trans rfl, (blk_cell BK180.out 3).trans rfl, (blk_cell BK180.out 4).trans rfl⟩ (fun hHeld => ?_)
       clear hK K
       refine norm_ (a' := ?_) ?_ ?_
       rotate_left
       ·show Act.put _ (some 36) _ = _
        simp only [Act.put, List.setIfInBounds_toArray, List.set_cons_zero, List.set_cons_succ, i64_w, i32_w]
        rfl
       refine one_ (i := 2) (N := some 32) #[true, true, true, true, true, false, true, false, false] rfl rfl (one_of HT_.out (by kernel_rfl)) (by decide) (fun K hK => ?_)
       refine Kd.R_append_rows_step (Kd.int .u8) (w0 := w0) w0.heap.size (by rfl) (.tmp 30) (.tmp 31) 47 5 (.int .u8 0) 1 rfl Tryd.underlying47 info5 rfl (by decide) (by omega) (.slice Ao29 l1.length co29) l1 y193 _ _ _ (fun k_ => (P1_ k_ ∨ w.heap.size ≤ k_) ∧ some k_ ≠ (.slice Ao36 y193.length co36 : Value).ownBlock ∧ some k_ ≠ (v203 : Value).ownBlock) (fun _ => False) rfl rfl ?aO ?aR (fun _ _ h => h) (fun _ h => h.elim) ?aF ?aB ?aS ?aL ?_
       (case aR => repeat (first | exact (Kd.R_reads' HO195.out).2.2 | (with_reducible refine Kd.C_alloc ?_ _) | (with_reducible refine Kd.C_drewN ?_ _) | (with_reducible refine Kd.C_drew ?_)))
       (case aB => exact (by repeat (first | (with_reducible first | exact HB.out | apply below_alloc | apply pw_below_drewN | apply below_drew1 | refine below_set ?_ GE180.out) | exact HB.out)))
       (case aF => exact (fun k_ hk => ⟨(.inr (Nat.le_trans (by first | exact HK.out.1 | exact (show Kept w _ (fun k_ => P1_ k_) from by repeat (first | (with_reducible first | exact HK.out | apply Kept.alloc | apply Kept.drewN | apply Kept.drew | refine Kept.setCell ?_ (.inr GW180.out) _) | exact HK.out)).1) hk)), Kd.fresh' (Kd.R_lt (by (with_reducible repeat (first | apply Kd.R_alloc | apply Kd.R_drewN | apply Kd.R_drew)); exact HO195.out)) k_ hk, Kd.fresh' (Kd.R_lt (by (with_reducible repeat (first | apply Kd.R_alloc | apply Kd.R_drewN | apply Kd.R_drew)); exact HO204.out)) k_ hk⟩))
       (case aO => exact (by (with_reducible repeat (first | apply Kd.R_alloc | apply Kd.R_drewN | apply Kd.R_drew)); exact Kd.R_mono HO1.out (fun _ hk => ⟨hk.1.1, ⟨hk.1.2, hk.2⟩⟩)))
       (case aS => exact (below_size (by repeat (first | (with_reducible first | exact HB.out | apply below_alloc | apply pw_below_drewN | apply below_drew1 | refine below_set ?_ GE180.out) | exact HB.out))))
       (case aL => have := LMc24.out; omega)
       intro v197 w35 ho hb hg hat
       rw [← Ny196.out] at ho
       have n0_ := Aside0.mk (blk_grown (g := gb180) (o := .cells #[.int .i64 a0_0, .string a0_1, .slice A0_2 l0_2.length c0_2, .bool a0_3, .slice A0_4 l0_4.length c0_4] 30 (0, 0)) (by (with_reducible repeat (first | refine blk_drewN ?_ _ | refine blk_drew ?_ | refine blk_alloc ?_ _)); exact BK180.out) hg (Kd.R_ne HO1.out BK180.out (by decide)))
       have n1_ := Aside0.mk (Kd.R_after (ok := (fun k_ => (P1_ k_ ∨ w.heap.size ≤ k_) ∧ some k_ ≠ (v203 : Value).ownBlock)) (by (with_reducible repeat (first | apply Kd.R_alloc | apply Kd.R_drewN | apply Kd.R_drew)); exact Kd.R_mono HO195.out (fun _ hk => ⟨⟨hk.1.1.1, hk.2⟩, hk.1.2⟩)) hg hat)
       have n2_ := Aside0.mk (Kd.R_after (ok := (fun k_ => (P1_ k_ ∨ w.heap.size ≤ k_) ∧ some k_ ≠ (.slice Ao36 y193.length co36 : Value).ownBlock)) (by (with_reducible repeat (first | apply Kd.R_alloc | apply Kd.R_drewN | apply Kd.R_drew)); exact Kd.R_mono HO204.out (fun _ hk => ⟨⟨hk.1.1.1, hk.2⟩, hk.1.2⟩)) hg hat)
       have n3_ := Aside0.mk (hb)
       have n4_ := Aside0.mk (Kept.of_grown (S := (fun k_ => P1_ k_)) hg (by repeat (first | (with_reducible first | exact HK.out | apply Kept.alloc | apply Kept.drewN | apply Kept.drew | refine Kept.setCell ?_ (.inr GW180.out) _) | exact HK.out)) (fun k_ e_ => (HO1.out.1 k_ e_).1.1))
       have n5_ := Aside0.mk (ho)
       clear BK180
       clear HO195
       clear HO204
       clear HB
       clear HK
       clear HO1
       have BK180 := n0_
       have HO195 := n1_
       have HO204 := n2_
       have HB := n3_
       have HK := n4_
       have HO198 := n5_
       clear n0_ n1_ n2_ n3_ n4_ n5_
       clear ho hb hg hat
       refine hK.out _ _ ⟨(blk_cell BK180.out 0).trans rfl, (blk_cell BK180.out 1).trans rfl, (blk_cell BK180.out 2).trans rfl, (blk_cell BK180.out 3).trans rfl, (blk_cell BK180.out 4).trans rfl⟩ (fun hHeld => ?_)
       clear hK K
       refine norm_ (a' := ?_) ?_ ?_
       rotate_left
       ·show Act.put _ (some 32) _ = _
        simp only [Act.put, List.setIfInBounds_toArray, List.set_cons_zero, List.set_cons_succ, i64_w, i32_w]
        rfl
       refine one_ (i := 5) (N := some 35) #[true, true, true, true, true, true, true, false, false] rfl rfl (one_of HT_.out (by kernel_rfl)) (by decide) (fun K hK => ?_)
       refine M_append_str_step (w0 := w0) w0.heap.size (by rfl) (.tmp 32) _ 47 9 5 rfl Tryd.underlying47 Tryd.underlying9 info5 v197 y196 a0_1 (fun k_ => (P1_ k_ ∨ w.heap.size ≤ k_) ∧ some k_ ≠ (.slice Ao36 y193.length co36 : Value).ownBlock ∧ some k_ ≠ (v203 : Value).ownBlock) rfl rfl ?aF ?aO ?aB ?aS ?aL ?_
       (case aB => exact (by repeat (first | (with_reducible first | exact HB.out | apply below_alloc | apply pw_below_drewN | apply below_drew1 | refine below_set ?_ GE180.out) | exact HB.out)))
       (case aF => exact (fun k_ hk => ⟨(.inr (Nat.le_trans (by first | exact HK.out.1 | exact (show Kept w _ (fun k_ => P1_ k_) from by repeat (first | (with_reducible first | exact HK.out | apply Kept.alloc | apply Kept.drewN | apply Kept.drew | refine Kept.setCell ?_ (.inr GW180.out) _) | exact HK.out)).1) hk)), Kd.fresh' (Kd.R_lt (by (with_reducible repeat (first | apply Kd.R_alloc | apply Kd.R_drewN | apply Kd.R_drew)); exact HO195.out)) k_ hk, Kd.fresh' (Kd.R_lt (by (with_reducible repeat (first | apply Kd.R_alloc | apply Kd.R_drewN | apply Kd.R_drew)); exact HO204.out)) k_ hk⟩))
       (case aO => exact (by (with_reducible repeat (first | apply Kd.R_alloc | apply Kd.R_drewN | apply Kd.R_drew)); exact HO198.out))
       (case aS => exact (below_size (by repeat (first | (with_reducible first | exact HB.out | apply below_alloc | apply pw_below_drewN | apply below_drew1 | refine below_set ?_ GE180.out) | exact HB.out))))
       (case aL => have := LMc25.out; omega)
       intro v200 w37 ho hb hg hat
       rw [← Ny199.out] at ho
       have n0_ := Aside0.mk (blk_grown (g := gb180) (o := .cells #[.int .i64 a0_0, .string a0_1, .slice A0_2 l0_2.length c0_2, .bool a0_3, .slice A0_4 l0_4.length c0_4] 30 (0, 0)) (by (with_reducible repeat (first | refine blk_drewN ?_ _ | refine blk_drew ?_ | refine blk_alloc ?_ _)); exact BK180.out) hg (Kd.R_ne HO198.out BK180.out (by decide)))
       have n1_ := Aside0.mk (Kd.R_after (ok := (fun k_ => (P1_ k_ ∨ w.heap.size ≤ k_) ∧ some k_ ≠ (v203 : Value).ownBlock)) (by (with_reducible repeat (first | apply Kd.R_alloc | apply Kd.R_drewN | apply Kd.R_drew)); exact HO195.out) hg hat)
       have n2_ := Aside0.mk (Kd.R_after (ok := (fun k_ => (P1_ k_ ∨ w.heap.size ≤ k_) ∧ some k_ ≠ (.slice Ao36 y193.length co36 : Value).ownBlock)) (by (with_reducible repeat (first | apply Kd.R_alloc | apply Kd.R_drewN | apply Kd.R_drew)); exact HO204.out) hg hat)
       have n3_ := Aside0.mk (hb)
       have n4_ := Aside0.mk (Kept.of_grown (S := (fun k_ => P1_ k_)) hg (by repeat (first | (with_reducible first | exact HK.out | apply Kept.alloc | apply Kept.drewN | apply Kept.drew | refine Kept.setCell ?_ (.inr GW180.out) _) | exact HK.out)) (fun k_ e_ => (HO198.out.1 k_ e_).1))
       have n5_ := Aside0.mk (ho)
       clear BK180
       clear HO195
       clear HO204
       clear HB
       clear HK
       clear HO198
       have BK180 := n0_
       have HO195 := n1_
       have HO204 := n2_
       have HB := n3_
       have HK := n4_
       have HO201 := n5_
       clear n0_ n1_ n2_ n3_ n4_ n5_
       clear ho hb hg hat
       refine hK.out _ _ ⟨(blk_cell BK180.out 0).trans rfl, (blk_cell BK180.out 1).trans rfl, (blk_cell BK180.out 2).trans rfl, (blk_cell BK180.out 3).trans rfl, (blk_cell BK180.out 4).trans rfl⟩ (fun hHeld => ?_)
       clear hK K
       refine norm_ (a' := ?_) ?_ ?_
       rotate_left
       ·show Act.put _ (some 35) _ = _
        simp only [Act.put, List.setIfInBounds_toArray, List.set_cons_zero, List.set_cons_succ, i64_w, i32_w]
        rfl
       exact norm_ (by simp only [putAll, Act.put, List.setIfInBounds_toArray, List.set_cons_zero, List.set_cons_succ]) (hCont (.slice Ao36 y193.length co36, v197, v200, v203) _ ⟨hHeld, (by (with_reducible repeat (first | apply Kd.R_alloc | apply Kd.R_drewN | apply Kd.R_drew)); exact Kd.R_mono HO195.out (fun _ hk => ⟨hk.1.1, ⟨hk.2, hk.1.2⟩⟩)), (by (with_reducible repeat (first | apply Kd.R_alloc | apply Kd.R_drewN | apply Kd.R_drew)); exact HO201.out), (by (with_reducible repeat (first | apply Kd.R_alloc | apply Kd.R_drewN | apply Kd.R_drew)); exact Kd.R_mono HO204.out (fun _ hk => ⟨hk.1.1, ⟨hk.1.2, hk.2⟩⟩)), (by (with_reducible repeat (first | refine blk_drewN ?_ _ | refine blk_drew ?_ | refine blk_alloc ?_ _)); exact BK180.out), (by repeat (first | (with_reducible first | exact HK.out | apply Kept.alloc | apply Kept.drewN | apply Kept.drew | refine Kept.setCell ?_ (.inr GW180.out) _) | exact HK.out)), (by repeat (first | (with_reducible first | exact HB.out | apply below_alloc | apply pw_below_drewN | apply below_drew1 | refine below_set ?_ GE180.out) | exact HB.out))⟩)
      skip
      refine Kd.R_lit_step (Kd.int .u8) _ 5 ?hg (N := 36) ?hd (xs := ([34] : List Int)) (inner := [.int .u8 34]) (ok := fun _ => True) (okp := fun _ => True) ?hr ?hp (fun _ hk => hk) trivial (Below.refl _ _) (Nat.le_refl _) (by simp) ?_; (case hd => rfl); (case hg => rfl); (case hr => first | (go_simp; done) | (go_simp; rfl)); (case hp => exact (Reps.one (show Kd.M (Kd.int .u8) _ _ _ 34 [.int .u8 34] from rfl) (Reps.none _ _)))
      intro v203 w31 ho32 hb hg_ hnew_
      clear hg_ hnew_
      (first | rw [← Ny202.out] at ho32 | (simp only [Int.reduceToNat] at ho32; rw [← Ny202.out] at ho32))
      have n0_ := Aside0.mk (Kd.R_elder' (by (with_reducible repeat (first | apply Kd.R_alloc | apply Kd.R_drewN | apply Kd.R_drew)); exact HO1.out) (Kd.R_base ho32) hb)
      have n1_ := Aside0.mk (Kd.R_lower (Kd.R_new' (Kd.R_newM (M := fun k_ => (P1_ k_ ∨ w.heap.size ≤ k_)) ho32 (by first | exact HK.out.1 | exact (show Kept w _ (fun k_ => P1_ k_) from by repeat (first | (with_reducible first | exact HK.out | apply Kept.alloc | apply Kept.drewN | apply Kept.drew | refine Kept.setCell ?_ (.inr GW180.out) _) | exact HK.out)).1) (fun k_ h_ => .inr h_)) (Kd.R_lt (by (with_reducible repeat (first | apply Kd.R_alloc | apply Kd.R_drewN | apply Kd.R_drew)); exact HO1.out))) (below_size (by repeat (first | (with_reducible first | exact HB.out | apply below_alloc | apply pw_below_drewN | apply below_drew1 | refine below_set ?_ GE180.out) | exact HB.out))))
      have n2_ := Aside0.mk (blk_below (g := gb180) (o := .cells #[.int .i64 a0_0, .string a0_1, .slice A0_2 l0_2.length c0_2, .bool a0_3, .slice A0_4 l0_4.length c0_4] 30 (0, 0)) (by (with_reducible repeat (first | refine blk_drewN ?_ _ | refine blk_drew ?_ | refine blk_alloc ?_ _)); exact BK180.out) hb)
      have n3_ := Aside0.mk (Kept.below (S := (fun k_ => P1_ k_)) (by repeat (first | (with_reducible first | exact HK.out | apply Kept.alloc | apply Kept.drewN | apply Kept.drew | refine Kept.setCell ?_ (.inr GW180.out) _) | exact HK.out)) hb)
      have n4_ := Aside0.mk (below_step (by repeat (first | (with_reducible first | exact HB.out | apply below_alloc | apply pw_below_drewN | apply below_drew1 | refine below_set ?_ GE180.out) | exact HB.out)) hb)
      clear HO1
      clear BK180
      clear HK
      clear HB
      have HO1 := n0_
      have HO204 := n1_
      have BK180 := n2_
      have HK := n3_
      have HB := n4_
      clear n0_ n1_ n2_ n3_ n4_
      clear hb ho32
      refine hK.out _ _ ⟨(blk_cell BK180.out 0).trans rfl, (blk_cell BK180.out 1).trans rfl, (blk_cell BK180.out 2).trans rfl, (blk_cell BK180.out 3).trans rfl, (blk_cell BK180.out 4).trans rfl⟩ (fun hHeld => ?_)
      clear hK K
      refine norm_ (a' := ?_) ?_ ?_
      rotate_left
      ·show Act.put _ (some 36) _ = _
       simp only [Act.put, List.setIfInBounds_toArray, List.set_cons_zero, List.set_cons_succ, i64_w, i32_w]
       rfl
      refine one_ (i := 1) (N := some 31) #[true, true, false, true, true, false, true, false, false] rfl rfl (one_of HT_.out (by kernel_rfl)) (by decide) (fun K hK => ?_)
      refine Kd.R_lit_step (Kd.int .u8) _ 5 ?hg (N := 31) ?hd (xs := ([34] : List Int)) (inner := [.int .u8 34]) (ok := fun _ => True) (okp := fun _ => True) ?hr ?hp (fun _ hk => hk) trivial (Below.refl _ _) (Nat.le_refl _) (by simp) ?_; (case hd => rfl); (case hg => rfl); (case hr => first | (go_simp; done) | (go_simp; rfl)); (case hp => exact (Reps.one (show Kd.M (Kd.int .u8) _ _ _ 34 [.int .u8 34] from rfl) (Reps.none _ _)))
      intro v194 w33 ho34 hb hg_ hnew_
      clear hg_ hnew_
      (first | rw [← Ny193.out] at ho34 | (simp only [Int.reduceToNat] at ho34; rw [← Ny193.out] at ho34))
      have n0_ := Aside0.mk (Kd.R_elder' (by (with_reducible repeat (first | apply Kd.R_alloc | apply Kd.R_drewN | apply Kd.R_drew)); exact HO1.out) (Kd.R_base ho34) hb)
      have n1_ := Aside0.mk (Kd.R_elder' (by (with_reducible repeat (first | apply Kd.R_alloc | apply Kd.R_drewN | apply Kd.R_drew)); exact HO204.out) (Kd.R_base ho34) hb)
      have n2_ := Aside0.mk (Kd.R_lower (Kd.R_new' (Kd.R_new' (Kd.R_newM (M := fun k_ => (P1_ k_ ∨ w.heap.size ≤ k_)) ho34 (by first | exact HK.out.1 | exact (show Kept w _ (fun k_ => P1_ k_) from by repeat (first | (with_reducible first | exact HK.out | apply Kept.alloc | apply Kept.drewN | apply Kept.drew | refine Kept.setCell ?_ (.inr GW180.out) _) | exact HK.out)).1) (fun k_ h_ => .inr h_)) (Kd.R_lt (by (with_reducible repeat (first | apply Kd.R_alloc | apply Kd.R_drewN | apply Kd.R_drew)); exact HO1.out))) (Kd.R_lt (by (with_reducible repeat (first | apply Kd.R_alloc | apply Kd.R_drewN | apply Kd.R_drew)); exact HO204.out))) (below_size (by repeat (first | (with_reducible first | exact HB.out | apply below_alloc | apply pw_below_drewN | apply below_drew1 | refine below_set ?_ GE180.out) | exact HB.out))))
      have n3_ := Aside0.mk (blk_below (g := gb180) (o := .cells #[.int .i64 a0_0, .string a0_1, .slice A0_2 l0_2.length c0_2, .bool a0_3, .slice A0_4 l0_4.length c0_4] 30 (0, 0)) (by (with_reducible repeat (first | refine blk_drewN ?_ _ | refine blk_drew ?_ | refine blk_alloc ?_ _)); exact BK180.out) hb)
      have n4_ := Aside0.mk (Kept.below (S := (fun k_ => P1_ k_)) (by repeat (first | (with_reducible first | exact HK.out | apply Kept.alloc | apply Kept.drewN | apply Kept.drew | refine Kept.setCell ?_ (.inr GW180.out) _) | exact HK.out)) hb)
      have n5_ := Aside0.mk (below_step (by repeat (first | (with_reducible first | exact HB.out | apply below_alloc | apply pw_below_drewN | apply below_drew1 | refine below_set ?_ GE180.out) | exact HB.out)) hb)
      clear HO1
      clear HO204
      clear BK180
      clear HK
      clear HB
      have HO1 := n0_
      have HO204 := n1_
      have HO195 := n2_
      have BK180 := n3_
      have HK := n4_
      have HB := n5_
      clear n0_ n1_ n2_ n3_ n4_ n5_
      clear hb ho34
      obtain ⟨Ao36, co36, eo36⟩ := Kd.R_slice HO195.out
      (first | subst eo36 | (injection eo36 with f1_ f2_ f3_; have f4_ := f1_.symm; have f5_ := f3_.symm; clear f1_ f2_ f3_; subst f4_; subst f5_))
      refine hK.out _ _ ⟨(blk_cell BK180.out 0).trans rfl, (blk_cell BK180.out 1).trans rfl, (blk_cell BK180.out 2).trans rfl, (blk_cell BK180.out 3).trans rfl, (blk_cell BK180.out 4).trans rfl⟩ (fun hHeld => ?_)
      clear hK K
      refine norm_ (a' := ?_) ?_ ?_
      rotate_left
      ·show Act.put _ (some 31) _ = _
       simp only [Act.put, List.setIfInBounds_toArray, List.set_cons_zero, List.set_cons_succ, i64_w, i32_w]
       rfl
      refine one_ (i := 2) (N := some 32) #[true, true, true, true, true, false, true, false, false] rfl rfl (one_of HT_.out (by kernel_rfl)) (by decide) (fun K hK => ?_)
      refine Kd.R_append_rows_step (Kd.int .u8) (w0 := w0) w0.heap.size (by rfl) (.tmp 30) (.tmp 31) 47 5 (.int .u8 0) 1 rfl Tryd.underlying47 info5 rfl (by decide) (by omega) (.slice Ao29 l1.length co29) l1 y193 _ _ _ (fun k_ => (P1_ k_ ∨ w.heap.size ≤ k_) ∧ some k_ ≠ (v203 : Value).ownBlock ∧ some k_ ≠ (.slice Ao36 y193.length co36 : Value).ownBlock) (fun _ => False) rfl rfl ?aO ?aR (fun _ _ h => h) (fun _ h => h.elim) ?aF ?aB ?aS ?aL ?_
      (case aR => repeat (first | exact (Kd.R_reads' HO195.out).2.2 | (with_reducible refine Kd.C_alloc ?_ _) | (with_reducible refine Kd.C_drewN ?_ _) | (with_reducible refine Kd.C_drew ?_)))
      (case aB => exact (by repeat (first | (with_reducible first | exact HB.out | apply below_alloc | apply pw_below_drewN | apply below_drew1 | refine below_set ?_ GE180.out) | exact HB.out)))
      (case aF => exact (fun k_ hk => ⟨(.inr (Nat.le_trans (by first | exact HK.out.1 | exact (show Kept w _ (fun k_ => P1_ k_) from by repeat (first | (with_reducible first | exact HK.out | apply Kept.alloc | apply Kept.drewN | apply Kept.drew | refine Kept.setCell ?_ (.inr GW180.out) _) | exact HK.out)).1) hk)), Kd.fresh' (Kd.R_lt (by (with_reducible repeat (first | apply Kd.R_alloc | apply Kd.R_drewN | apply Kd.R_drew)); exact HO204.out)) k_ hk, Kd.fresh' (Kd.R_lt (by (with_reducible repeat (first | apply Kd.R_alloc | apply Kd.R_drewN | apply Kd.R_drew)); exact HO195.out)) k_ hk⟩))
      (case aO => exact (by (with_reducible repeat (first | apply Kd.R_alloc | apply Kd.R_drewN | apply Kd.R_drew)); exact Kd.R_mono HO1.out (fun _ hk => ⟨hk.1.1, ⟨hk.1.2, hk.2⟩⟩)))
      (case aS => exact (below_size (by repeat (first | (with_reducible first | exact HB.out | apply below_alloc | apply pw_below_drewN | apply below_drew1 | refine below_set ?_ GE180.out) | exact HB.out))))
      (case aL => have := LMc24.out; omega)
      intro v197 w35 ho hb hg hat
      rw [← Ny196.out] at ho
      have n0_ := Aside0.mk (blk_grown (g := gb180) (o := .cells #[.int .i64 a0_0, .string a0_1, .slice A0_2 l0_2.length c0_2, .bool a0_3, .slice A0_4 l0_4.length c0_4] 30 (0, 0)) (by (with_reducible repeat (first | refine blk_drewN ?_ _ | refine blk_drew ?_ | refine blk_alloc ?_ _)); exact BK180.out) hg (Kd.R_ne HO1.out BK180.out (by decide)))
      have n1_ := Aside0.mk (Kd.R_after (ok := (fun k_ => (P1_ k_ ∨ w.heap.size ≤ k_) ∧ some k_ ≠ (.slice Ao36 y193.length co36 : Value).ownBlock)) (by (with_reducible repeat (first | apply Kd.R_alloc | apply Kd.R_drewN | apply Kd.R_drew)); exact Kd.R_mono HO204.out (fun _ hk => ⟨⟨hk.1.1.1, hk.2⟩, hk.1.2⟩)) hg hat)
      have n2_ := Aside0.mk (Kd.R_after (ok := (fun k_ => (P1_ k_ ∨ w.heap.size ≤ k_) ∧ some k_ ≠ (v203 : Value).ownBlock)) (by (with_reducible repeat (first | apply Kd.R_alloc | apply Kd.R_drewN | apply Kd.R_drew)); exact Kd.R_mono HO195.out (fun _ hk => ⟨⟨hk.1.1.1, hk.2⟩, hk.1.2⟩)) hg hat)
      have n3_ := Aside0.mk (hb)
      have n4_ := Aside0.mk (Kept.of_grown (S := (fun k_ => P1_ k_)) hg (by repeat (first | (with_reducible first | exact HK.out | apply Kept.alloc | apply Kept.drewN | apply Kept.drew | refine Kept.setCell ?_ (.inr GW180.out) _) | exact HK.out)) (fun k_ e_ => (HO1.out.1 k_ e_).1.1))
      have n5_ := Aside0.mk (ho)
      clear BK180
      clear HO204
      clear HO195
      clear HB
      clear HK
      clear HO1
      have BK180 := n0_
      have HO204 := n1_
      have HO195 := n2_
      have HB := n3_
      have HK := n4_
      have HO198 := n5_
      clear n0_ n1_ n2_ n3_ n4_ n5_
      clear ho hb hg hat
      refine hK.out _ _ ⟨(blk_cell BK180.out 0).trans rfl, (blk_cell BK180.out 1).trans rfl, (blk_cell BK180.out 2).trans rfl, (blk_cell BK180.out 3).trans rfl, (blk_cell BK180.out 4).trans rfl⟩ (fun hHeld => ?_)
      clear hK K
      refine norm_ (a' := ?_) ?_ ?_
      rotate_left
      ·show Act.put _ (some 32) _ = _
       simp only [Act.put, List.setIfInBounds_toArray, List.set_cons_zero, List.set_cons_succ, i64_w, i32_w]
       rfl
      refine one_ (i := 5) (N := some 35) #[true, true, true, true, true, true, true, false, false] rfl rfl (one_of HT_.out (by kernel_rfl)) (by decide) (fun K hK => ?_)
      refine M_append_str_step (w0 := w0) w0.heap.size (by rfl) (.tmp 32) _ 47 9 5 rfl Tryd.underlying47 Tryd.underlying9 info5 v197 y196 a0_1 (fun k_ => (P1_ k_ ∨ w.heap.size ≤ k_) ∧ some k_ ≠ (v203 : Value).ownBlock ∧ some k_ ≠ (.slice Ao36 y193.length co36 : Value).ownBlock) rfl rfl ?aF ?aO ?aB ?aS ?aL ?_
      (case aB => exact (by repeat (first | (with_reducible first | exact HB.out | apply below_alloc | apply pw_below_drewN | apply below_drew1 | refine below_set ?_ GE180.out) | exact HB.out)))
      (case aF => exact (fun k_ hk => ⟨(.inr (Nat.le_trans (by first | exact HK.out.1 | exact (show Kept w _ (fun k_ => P1_ k_) from by repeat (first | (with_reducible first | exact HK.out | apply Kept.alloc | apply Kept.drewN | apply Kept.drew | refine Kept.setCell ?_ (.inr GW180.out) _) | exact HK.out)).1) hk)), Kd.fresh' (Kd.R_lt (by (with_reducible repeat (first | apply Kd.R_alloc | apply Kd.R_drewN | apply Kd.R_drew)); exact HO204.out)) k_ hk, Kd.fresh' (Kd.R_lt (by (with_reducible repeat (first | apply Kd.R_alloc | apply Kd.R_drewN | apply Kd.R_drew)); exact HO195.out)) k_ hk⟩))
      (case aO => exact (by (with_reducible repeat (first | apply Kd.R_alloc | apply Kd.R_drewN | apply Kd.R_drew)); exact HO198.out))
      (case aS => exact (below_size (by repeat (first | (with_reducible first | exact HB.out | apply below_alloc | apply pw_below_drewN | apply below_drew1 | refine below_set ?_ GE180.out) | exact HB.out))))
      (case aL => have := LMc25.out; omega)
      intro v200 w37 ho hb hg hat
      rw [← Ny199.out] at ho
      have n0_ := Aside0.mk (blk_grown (g := gb180) (o := .cells #[.int .i64 a0_0, .string a0_1, .slice A0_2 l0_2.length c0_2, .bool a0_3, .slice A0_4 l0_4.length c0_4] 30 (0, 0)) (by (with_reducible repeat (first | refine blk_drewN ?_ _ | refine blk_drew ?_ | refine blk_alloc ?_ _)); exact BK180.out) hg (Kd.R_ne HO198.out BK180.out (by decide)))
      have n1_ := Aside0.mk (Kd.R_after (ok := (fun k_ => (P1_ k_ ∨ w.heap.size ≤ k_) ∧ some k_ ≠ (.slice Ao36 y193.length co36 : Value).ownBlock)) (by (with_reducible repeat (first | apply Kd.R_alloc | apply Kd.R_drewN | apply Kd.R_drew)); exact HO204.out) hg hat)
      have n2_ := Aside0.mk (Kd.R_after (ok := (fun k_ => (P1_ k_ ∨ w.heap.size ≤ k_) ∧ some k_ ≠ (v203 : Value).ownBlock)) (by (with_reducible repeat (first | apply Kd.R_alloc | apply Kd.R_drewN | apply Kd.R_drew)); exact HO195.out) hg hat)
      have n3_ := Aside0.mk (hb)
      have n4_ := Aside0.mk (Kept.of_grown (S := (fun k_ => P1_ k_)) hg (by repeat (first | (with_reducible first | exact HK.out | apply Kept.alloc | apply Kept.drewN | apply Kept.drew | refine Kept.setCell ?_ (.inr GW180.out) _) | exact HK.out)) (fun k_ e_ => (HO198.out.1 k_ e_).1))
      have n5_ := Aside0.mk (ho)
      clear BK180
      clear HO204
      clear HO195
      clear HB
      clear HK
      clear HO198
      have BK180 := n0_
      have HO204 := n1_
      have HO195 := n2_
      have HB := n3_
      have HK := n4_
      have HO201 := n5_
      clear n0_ n1_ n2_ n3_ n4_ n5_
      clear ho hb hg hat
      refine hK.out _ _ ⟨(blk_cell BK180.out 0).trans rfl, (blk_cell BK180.out 1).trans rfl, (blk_cell BK180.out 2).trans rfl, (blk_cell BK180.out 3).trans rfl, (blk_cell BK180.out 4).trans rfl⟩ (fun hHeld => ?_)
      clear hK K
      refine norm_ (a' := ?_) ?_ ?_
      rotate_left
      ·show Act.put _ (some 35) _ = _
       simp only [Act.put, List.setIfInBounds_toArray, List.set_cons_zero, List.set_cons_succ, i64_w, i32_w]
       rfl
      exact norm_ (by simp only [putAll, Act.put, List.setIfInBounds_toArray, List.set_cons_zero, List.set_cons_succ]) (hCont (.slice Ao36 y193.length co36, v197, v200, v203) _ ⟨hHeld, (by (with_reducible repeat (first | apply Kd.R_alloc | apply Kd.R_drewN | apply Kd.R_drew)); exact Kd.R_mono HO195.out (fun _ hk => ⟨hk.1.1, ⟨hk.2, hk.1.2⟩⟩)), (by (with_reducible repeat (first | apply Kd.R_alloc | apply Kd.R_drewN | apply Kd.R_drew)); exact Kd.R_mono HO201.out (fun _ hk => ⟨hk.1, ⟨hk.2.2, hk.2.1⟩⟩)), (by (with_reducible repeat (first | apply Kd.R_alloc | apply Kd.R_drewN | apply Kd.R_drew)); exact Kd.R_mono HO204.out (fun _ hk => ⟨hk.1.1, ⟨hk.1.2, hk.2⟩⟩)), (by (with_reducible repeat (first | refine blk_drewN ?_ _ | refine blk_drew ?_ | refine blk_alloc ?_ _)); exact BK180.out), (by repeat (first | (with_reducible first | exact HK.out | apply Kept.alloc | apply Kept.drewN | apply Kept.drew | refine Kept.setCell ?_ (.inr GW180.out) _) | exact HK.out)), (by repeat (first | (with_reducible first | exact HB.out | apply below_alloc | apply pw_below_drewN | apply below_drew1 | refine below_set ?_ GE180.out) | exact HB.out))⟩)
     rintro ⟨v194, v197, v200, v203⟩ w38 ⟨hS_, h0_, h1_, h2_, h3_, h4_, h5_⟩
     have n0_ : Aside0 (Kd.R (Kd.int .u8) 5 w38 w0.heap.size (fun k_ => (P1_ k_ ∨ w.heap.size ≤ k_) ∧ some k_ ≠ (v200 : Value).ownBlock ∧ some k_ ≠ (v203 : Value).ownBlock) v194 y193) := ⟨h0_⟩
     have n1_ : Aside0 (Kd.R (Kd.int .u8) 5 w38 w0.heap.size (fun k_ => (P1_ k_ ∨ w.heap.size ≤ k_) ∧ some k_ ≠ (v194 : Value).ownBlock ∧ some k_ ≠ (v203 : Value).ownBlock) v200 y199) := ⟨h1_⟩
     have n2_ : Aside0 (Kd.R (Kd.int .u8) 5 w38 w0.heap.size (fun k_ => (P1_ k_ ∨ w.heap.size ≤ k_) ∧ some k_ ≠ (v194 : Value).ownBlock ∧ some k_ ≠ (v200 : Value).ownBlock) v203 y202) := ⟨h2_⟩
     have n3_ : Aside0 (w38.heap[gb180]? = some (.cells #[.int .i64 a0_0, .string a0_1, .slice A0_2 l0_2.length c0_2, .bool a0_3, .slice A0_4 l0_4.length c0_4] 30 (0, 0))) := ⟨h3_⟩
     have n4_ : Aside0 (Kept w w38 (fun k_ => P1_ k_)) := ⟨h4_⟩
     have n5_ : Aside0 (Below w0.heap.size w0 w38) := ⟨h5_⟩
     clear HO1
     clear BK180
     clear HK
     clear HB
     clear h0_ h1_ h2_ h3_ h4_ h5_
     have HO195 := n0_
     have HO201 := n1_
     have HO204 := n2_
     have BK180 := n3_
     have HK := n4_
     have HB := n5_
     clear n0_ n1_ n2_ n3_ n4_ n5_
     have hHeld : w38.cell? ⟨gb180, 0, none⟩ = some (.int .i64 a0_0) ∧ w38.cell? ⟨gb180, 1, none⟩ = some (.string a0_1) ∧ w38.cell? ⟨gb180, 2, none⟩ = some (.slice A0_2 l0_2.length c0_2) ∧ w38.cell? ⟨gb180, 3, none⟩ = some (.bool a0_3) ∧ w38.cell? ⟨gb180, 4, none⟩ = some (.slice A0_4 l0_4.length c0_4) := hS_
     obtain ⟨Ao40, co40, eo40⟩ := Kd.R_slice HO204.out
     (first | subst eo40 | (injection eo40 with f1_ f2_ f3_; have f4_ := f1_.symm; have f5_ := f3_.symm; clear f1_ f2_ f3_; subst f4_; subst f5_))
     refine norm_ (a' := ?_) ?_ ?_
     rotate_left
     ·simp only [putAll, Act.put, List.setIfInBounds_toArray, List.set_cons_zero, List.set_cons_succ]
      rfl
     refine one_ (i := 7) (N := some 37) #[true, true, true, true, true, true, true, true, false] rfl rfl (one_of HT_.out (by kernel_rfl)) (by decide) (fun K hK => ?_)
     refine Kd.R_append_rows_step (Kd.int .u8) (w0 := w0) w0.heap.size (by rfl) (.tmp 35) (.tmp 36) 47 5 (.int .u8 0) 1 rfl Tryd.underlying47 info5 rfl (by decide) (by omega) v200 y199 y202 _ _ _ (fun k_ => (P1_ k_ ∨ w.heap.size ≤ k_) ∧ some k_ ≠ (v194 : Value).ownBlock ∧ some k_ ≠ (.slice Ao40 y202.length co40 : Value).ownBlock) (fun _ => False) rfl rfl ?aO ?aR (fun _ _ h => h) (fun _ h => h.elim) ?aF ?aB ?aS ?aL ?_
     (case aR => repeat (first | exact (Kd.R_reads' HO204.out).2.2 | (with_reducible refine Kd.C_alloc ?_ _) | (with_reducible refine Kd.C_drewN ?_ _) | (with_reducible refine Kd.C_drew ?_)))
     (case aB => exact (by repeat (first | (with_reducible first | exact HB.out | apply below_alloc | apply pw_below_drewN | apply below_drew1 | refine below_set ?_ GE180.out) | exact HB.out)))
     (case aF => exact (fun k_ hk => ⟨(.inr (Nat.le_trans (by first | exact HK.out.1 | exact (show Kept w _ (fun k_ => P1_ k_) from by repeat (first | (with_reducible first | exact HK.out | apply Kept.alloc | apply Kept.drewN | apply Kept.drew | refine Kept.setCell ?_ (.inr GW180.out) _) | exact HK.out)).1) hk)), Kd.fresh' (Kd.R_lt (by (with_reducible repeat (first | apply Kd.R_alloc | apply Kd.R_drewN | apply Kd.R_drew)); exact HO195.out)) k_ hk, Kd.fresh' (Kd.R_lt (by (with_reducible repeat (first | apply Kd.R_alloc | apply Kd.R_drewN | apply Kd.R_drew)); exact HO204.out)) k_ hk⟩))
     (case aO => exact (by (with_reducible repeat (first | apply Kd.R_alloc | apply Kd.R_drewN | apply Kd.R_drew)); exact HO201.out))
     (case aS => exact (below_size (by repeat (first | (with_reducible first | exact HB.out | apply below_alloc | apply pw_below_drewN | apply below_drew1 | refine below_set ?_ GE180.out) | exact HB.out))))
     (case aL => have := LMc26.out; omega)
     intro v206 w39 ho hb hg hat
     rw [← Ny205.out] at ho
     have n0_ := Aside0.mk (blk_grown (g := gb180) (o := .cells #[.int .i64 a0_0, .string a0_1, .slice A0_2 l0_2.length c0_2, .bool a0_3, .slice A0_4 l0_4.length c0_4] 30 (0, 0)) (by (with_reducible repeat (first | refine blk_drewN ?_ _ | refine blk_drew ?_ | refine blk_alloc ?_ _)); exact BK180.out) hg (Kd.R_ne HO201.out BK180.out (by decide)))
     have n1_ := Aside0.mk (Kd.R_after (ok := (fun k_ => (P1_ k_ ∨ w.heap.size ≤ k_) ∧ some k_ ≠ (.slice Ao40 y202.length co40 : Value).ownBlock)) (by (with_reducible repeat (first | apply Kd.R_alloc | apply Kd.R_drewN | apply Kd.R_drew)); exact Kd.R_mono HO195.out (fun _ hk => ⟨⟨hk.1, hk.2.2⟩, hk.2.1⟩)) hg hat)
     have n2_ := Aside0.mk (Kd.R_after (ok := (fun k_ => (P1_ k_ ∨ w.heap.size ≤ k_) ∧ some k_ ≠ (v194 : Value).ownBlock)) (by (with_reducible repeat (first | apply Kd.R_alloc | apply Kd.R_drewN | apply Kd.R_drew)); exact Kd.R_mono HO204.out (fun _ hk => ⟨⟨hk.1, hk.2.1⟩, hk.2.2⟩)) hg hat)
     have n3_ := Aside0.mk (hb)
     have n4_ := Aside0.mk (Kept.of_grown (S := (fun k_ => P1_ k_)) hg (by repeat (first | (with_reducible first | exact HK.out | apply Kept.alloc | apply Kept.drewN | apply Kept.drew | refine Kept.setCell ?_ (.inr GW180.out) _) | exact HK.out)) (fun k_ e_ => (HO201.out.1 k_ e_).1))
     have n5_ := Aside0.mk (ho)
     clear BK180
     clear HO195
     clear HO204
     clear HB
     clear HK
     clear HO201
     have BK180 := n0_
     have HO195 := n1_
     have HO204 := n2_
     have HB := n3_
     have HK := n4_
     have HO207 := n5_
     clear n0_ n1_ n2_ n3_ n4_ n5_
     clear ho hb hg hat
     refine hK.out _ _ ⟨(blk_cell BK180.out 0).trans rfl, (blk_cell BK180.out 1).trans rfl, (blk_cell BK180.out 2).trans rfl, (blk_cell BK180.out 3).trans rfl, (blk_cell BK180.out 4).trans rfl⟩ (fun hHeld => ?_)
     clear hK K
     refine norm_ (a' := ?_) ?_ ?_
     rotate_left
     ·show Act.put _ (some 37) _ = _
      simp only [Act.put, List.setIfInBounds_toArray, List.set_cons_zero, List.set_cons_succ, i64_w, i32_w]
      rfl
     refine pure_ (i := 8) (N := some 4) (v := ?_) (a' := ?_) #[true, true, true, true, true, true, true, true, true] rfl rfl (any_of HT_.out (by kernel_rfl)) (fun _ _ _ h => h) (Or.inl ⟨by rfl, ?_⟩) ?_ ?_
     rotate_left
     ·intro w'
      go_simp
      with_reducible rfl
     rotate_left
     ·simp only [Act.put, List.setIfInBounds_toArray, List.set_cons_zero, List.set_cons_succ, i64_w, i32_w]
      rfl
     refine done_ (done_of HT_.out (by kernel_rfl)) ?_
     try go_wp2
     go_ret
     exact ⟨_, by first | rfl | (simp [errW_none, errW_some] <;> rfl) | (simp [*, errW_none, errW_some] <;> rfl) | (simp [errW_none, errW_some] <;> exact ⟨rfl, rfl⟩) | (simp [*, errW_none, errW_some] <;> exact ⟨rfl, rfl⟩), by (with_reducible repeat (first | apply Kd.R_alloc | apply Kd.R_drewN | apply Kd.R_drew)); exact Kd.R_mono HO207.out (fun _ hk => hk.1), by repeat (first | (with_reducible first | exact HB.out | apply below_alloc | apply pw_below_drewN | apply below_drew1 | refine below_set ?_ GE180.out) | exact HB.out), by repeat (first | (with_reducible first | exact HK.out | apply Kept.alloc | apply Kept.drewN | apply Kept.drew | refine Kept.setCell ?_ (.inr GW180.out) _) | exact HK.out)⟩
    rw [if_neg c26] at H
    exact absurd H (by simp)
   rw [if_neg c25] at H
   exact absurd H (by simp)
  rw [if_neg c24] at H
  exact absurd H (by simp)
 rw [if_neg c23] at H
 have c23b0 : (a0_0 == 4) = false := beq_eq_false_iff_ne.mpr c23
 have c23b1 : (a0_0 != 4) = true := bne_iff_ne.mpr c23
 have HC41 := Aside0.mk H
 clear H
 go_enter Tryd.func29, Tryd.ntmps29
 go_upto_if 40 with (first | ((with_reducible refine gate_dst (N := 2) rfl ?_); refine box_event ?hg (N := 2) ?hd (cs := #[.int .i64 a0_0, .string a0_1, .slice A0_2 l0_2.length c0_2, .bool a0_3, .slice A0_4 l0_4.length c0_4]) (t := 30) ?hr ?_; (case hd => rfl); (case hg => rfl); (case hr => first | (go_simp; done) | (go_simp; rfl)); intro gb180 hg w42 hbox hb; have n0_ := Aside0.mk (Kd.R_below (by (with_reducible repeat (first | apply Kd.R_alloc | apply Kd.R_drewN | apply Kd.R_drew)); exact HO1.out) hb); have n1_ := Aside0.mk (Kept.below (S := (fun k_ => P1_ k_)) (by repeat (first | (with_reducible first | exact HK.out | apply Kept.alloc | apply Kept.drewN | apply Kept.drew) | exact HK.out)) hb); have n2_ := Aside0.mk (below_step (by repeat (first | (with_reducible first | exact HB.out | apply below_alloc | apply pw_below_drewN | apply below_drew1) | exact HB.out)) hb); have n3_ := Aside0.mk (hbox); have n4_ := Aside0.mk ((by rw [hg]; exact (by first | exact HK.out.1 | exact (show Kept w _ (fun k_ => P1_ k_) from by repeat (first | (with_reducible first | exact HK.out | apply Kept.alloc | apply Kept.drewN | apply Kept.drew) | exact HK.out)).1) : w.heap.size ≤ gb180)); have n5_ := Aside0.mk ((by rw [hg]; exact (below_size (by repeat (first | (with_reducible first | exact HB.out | apply below_alloc | apply pw_below_drewN | apply below_drew1) | exact HB.out))) : w0.heap.size ≤ gb180)); clear HO1; clear HK; clear HB; have HO1 := n0_; have HK := n1_; have HB := n2_; have BK180 := n3_; have GW180 := n4_; have GE180 := n5_; clear n0_ n1_ n2_ n3_ n4_ n5_; clear hb hbox hg; have hcz43_0 : w42.cell? ⟨gb180, 0, none⟩ = some (.int .i64 a0_0) := (blk_cell BK180.out 0).trans rfl; have hcz43_1 : w42.cell? ⟨gb180, 1, none⟩ = some (.string a0_1) := (blk_cell BK180.out 1).trans rfl; have hcz43_2 : w42.cell? ⟨gb180, 2, none⟩ = some (.slice A0_2 l0_2.length c0_2) := (blk_cell BK180.out 2).trans rfl; have hcz43_3 : w42.cell? ⟨gb180, 3, none⟩ = some (.bool a0_3) := (blk_cell BK180.out 3).trans rfl; have hcz43_4 : w42.cell? ⟨gb180, 4, none⟩ = some (.slice A0_4 l0_4.length c0_4) := (blk_cell BK180.out 4).trans rfl; have hfz43_0 := blk_frozen BK180.out 0; have hfz43_1 := blk_frozen BK180.out 1; have hfz43_2 := blk_frozen BK180.out 2; have hfz43_3 := blk_frozen BK180.out 3; have hfz43_4 := blk_frozen BK180.out 4))
 (try simp only [Act.put, List.setIfInBounds_toArray, List.set_cons_zero, List.set_cons_succ])
 go_cut [5] (fun v5 wc => ∃ (kq : Nat) (x5_40 : Int), v5 = .int .u8 x5_40 ∧ Aside0 (spec_FjVal_textTo.j0 kq l1 x5_40 a0_0 a0_1 l0_2 a0_3 l0_4 = some r) ∧ Aside0 (kq ≤ k) ∧ Aside0 (Kd.R (Kd.int .u8) 5 wc w0.heap.size (fun k_ => (P1_ k_ ∨ w.heap.size ≤ k_)) u9000_ l1) ∧ Aside0 (wc.heap[gb180]? = some (.cells #[.int .i64 a0_0, .string a0_1, (.slice A0_2 l0_2.length c0_2), .bool a0_3, (.slice A0_4 l0_4.length c0_4)] 30 (0, 0))) ∧ Aside0 (Kept w wc (fun k_ => P1_ k_)) ∧ Aside0 (Below w0.heap.size w0 wc))
 case first =>
  have H := HC41.out
  clear HC41
  by_cases c44 : a0_0 = 6
  ·rw [if_pos c44] at H
   have c44b0 : (a0_0 == 6) = true := beq_iff_eq.mpr c44
   have c44b1 : (a0_0 != 6) = false := bne_eq_false_iff_eq.mpr c44
   clear c44
   (first | rw [c44b0] | (simp only [i64_w, i32_w]; rw [c44b0]) | rw [c44b1] | skip)
   have H' := Aside0.mk H
   clear H
   go_wp2
   go_meet
   case rel => exact ⟨_, (123), (by first | rfl | (simp; done) | (simp [*]; done)), H', ⟨by first | omega | exact Nat.le_refl _⟩, ⟨by (with_reducible repeat (first | apply Kd.R_alloc | apply Kd.R_drewN | apply Kd.R_drew)); exact HO1.out⟩, ⟨by (with_reducible repeat (first | refine blk_drewN ?_ _ | refine blk_drew ?_ | refine blk_alloc ?_ _)); exact BK180.out⟩, ⟨by repeat (first | (with_reducible first | exact HK.out | apply Kept.alloc | apply Kept.drewN | apply Kept.drew | refine Kept.setCell ?_ (.inr GW180.out) _) | exact HK.out)⟩, ⟨by repeat (first | (with_reducible first | exact HB.out | apply below_alloc | apply pw_below_drewN | apply below_drew1 | refine below_set ?_ GE180.out) | exact HB.out)⟩⟩
  rw [if_neg c44] at H
  have c44b0 : (a0_0 == 6) = false := beq_eq_false_iff_ne.mpr c44
  have c44b1 : (a0_0 != 6) = true := bne_iff_ne.mpr c44
  (first | rw [c44b0] | (simp only [i64_w, i32_w]; rw [c44b0]) | rw [c44b1] | skip)
  have H' := Aside0.mk H
  clear H
  go_wp2
  go_meet
  case rel => exact ⟨_, (91), (by first | rfl | (simp; done) | (simp [*]; done)), H', ⟨by first | omega | exact Nat.le_refl _⟩, ⟨by (with_reducible repeat (first | apply Kd.R_alloc | apply Kd.R_drewN | apply Kd.R_drew)); exact HO1.out⟩, ⟨by (with_reducible repeat (first | refine blk_drewN ?_ _ | refine blk_drew ?_ | refine blk_alloc ?_ _)); exact BK180.out⟩, ⟨by repeat (first | (with_reducible first | exact HK.out | apply Kept.alloc | apply Kept.drewN | apply Kept.drew | refine Kept.setCell ?_ (.inr GW180.out) _) | exact HK.out)⟩, ⟨by repeat (first | (with_reducible first | exact HB.out | apply below_alloc | apply pw_below_drewN | apply below_drew1 | refine below_set ?_ GE180.out) | exact HB.out)⟩⟩
 case rest => as_aux_lemma =>
  clear HC41
  try clear c2
  try clear p2
  try clear c4
  try clear c23
  try clear c23b0
  try clear c23b1
  try clear c24
  try clear c25
  try clear c26
  try clear c29
  try clear c44
  try clear c44b0
  try clear c44b1
  try clear hcz28_0
  try clear hcz28_1
  try clear hcz28_2
  try clear hcz28_3
  try clear hcz28_4
  try clear hcz43_0
  try clear hcz43_1
  try clear hcz43_2
  try clear hcz43_3
  try clear hcz43_4
  try clear hfz28_0
  try clear hfz28_1
  try clear hfz28_2
  try clear hfz28_3
  try clear hfz28_4
  try clear hfz43_0
  try clear hfz43_1
  try clear hfz43_2
  try clear hfz43_3
  try clear hfz43_4
  obtain ⟨kq, x5_40, rfl, HA, HJ40, HO_1, BK180, HK, HB⟩ := hcut
  cases kq with
  | zero => exact absurd HA.out (by simp [spec_FjVal_textTo.j0])
  | succ kj40 =>
   have H := HA.out
   clear HA
   simp only [spec_FjVal_textTo.j0] at H
   obtain ⟨y208, hy208⟩ : ∃ y_ : List Int, y_ = (([x5_40] : List Int)) := ⟨_, rfl⟩
   replace H : (if l1.length + y208.length < 140737488355328 then (spec_FjVal_textTo.l0 kj40 (l1 ++ y208) x5_40 0 a0_0 a0_1 l0_2 a0_3 l0_4) else (none)) = some r := by first | (rw [hy208]; with_reducible exact H) | (have H2_ := (Option.bind_some _ _).symm.trans H; rw [hy208]; with_reducible exact H2_) | (have H2_ := (Option.bind_some _ _).symm.trans H; with_reducible exact H2_) | with_reducible exact H | (rw [hy208]; exact H) | exact H
   have Ny208 := Aside0.mk hy208
   clear hy208
   by_cases c45 : l1.length + y208.length < 140737488355328
   ·rw [if_pos c45] at H
    have LMc45 := Aside0.mk c45
    clear c45
    obtain ⟨y211, hy211⟩ : ∃ y_ : List Int, y_ = (l1 ++ y208) := ⟨_, rfl⟩
    replace H : (spec_FjVal_textTo.l0 kj40 y211 x5_40 0 a0_0 a0_1 l0_2 a0_3 l0_4) = some r := by first | (rw [hy211]; with_reducible exact H) | (have H2_ := (Option.bind_some _ _).symm.trans H; rw [hy211]; with_reducible exact H2_) | (have H2_ := (Option.bind_some _ _).symm.trans H; with_reducible exact H2_) | with_reducible exact H | (rw [hy211]; exact H) | exact H
    have Ny211 := Aside0.mk hy211
    clear hy211
    have H' := Aside0.mk H
    clear H
    go_wp2_with (first | ((with_reducible refine gate_dst (N := 43) rfl ?_); refine Kd.R_lit (Kd.int .u8) _ 5 ?hg (N := 43) ?hd (xs := ([x5_40] : List Int)) (inner := [.int .u8 x5_40]) (ok := fun _ => True) (okp := fun _ => True) ?hr ?hp (fun _ hk => hk) trivial (Below.refl _ _) (Nat.le_refl _) (by simp) ?_; (case hd => rfl); (case hg => rfl); (case hr => first | (go_simp; done) | (go_simp; rfl)); (case hp => exact (Reps.one (show Kd.M (Kd.int .u8) _ _ _ x5_40 [.int .u8 x5_40] from rfl) (Reps.none _ _))); intro v209 w46 ho47 hb hg_ hnew_; clear hg_ hnew_; (first | rw [← Ny208.out] at ho47 | (simp only [Int.reduceToNat] at ho47; rw [← Ny208.out] at ho47)); have n0_ := Aside0.mk (Kd.R_elder' (by (with_reducible repeat (first | apply Kd.R_alloc | apply Kd.R_drewN | apply Kd.R_drew)); exact HO_1.out) (Kd.R_base ho47) hb); have n1_ := Aside0.mk (Kd.R_lower (Kd.R_new' (Kd.R_newM (M := fun k_ => (P1_ k_ ∨ w.heap.size ≤ k_)) ho47 (by first | exact HK.out.1 | exact (show Kept w _ (fun k_ => P1_ k_) from by repeat (first | (with_reducible first | exact HK.out | apply Kept.alloc | apply Kept.drewN | apply Kept.drew | refine Kept.setCell ?_ (.inr GW180.out) _) | exact HK.out)).1) (fun k_ h_ => .inr h_)) (Kd.R_lt (by (with_reducible repeat (first | apply Kd.R_alloc | apply Kd.R_drewN | apply Kd.R_drew)); exact HO_1.out))) (below_size (by repeat (first | (with_reducible first | exact HB.out | apply below_alloc | apply pw_below_drewN | apply below_drew1 | refine below_set ?_ GE180.out) | exact HB.out)))); have n2_ := Aside0.mk (blk_below (g := gb180) (o := .cells #[.int .i64 a0_0, .string a0_1, .slice A0_2 l0_2.length c0_2, .bool a0_3, .slice A0_4 l0_4.length c0_4] 30 (0, 0)) (by (with_reducible repeat (first | refine blk_drewN ?_ _ | refine blk_drew ?_ | refine blk_alloc ?_ _)); exact BK180.out) hb); have n3_ := Aside0.mk (Kept.below (S := (fun k_ => P1_ k_)) (by repeat (first | (with_reducible first | exact HK.out | apply Kept.alloc | apply Kept.drewN | apply Kept.drew | refine Kept.setCell ?_ (.inr GW180.out) _) | exact HK.out)) hb); have n4_ := Aside0.mk (below_step (by repeat (first | (with_reducible first | exact HB.out | apply below_alloc | apply pw_below_drewN | apply below_drew1 | refine below_set ?_ GE180.out) | exact HB.out)) hb); clear HO_1; clear BK180; clear HK; clear HB; have HO_1 := n0_; have HO210 := n1_; have BK180 := n2_; have HK := n3_; have HB := n4_; clear n0_ n1_ n2_ n3_ n4_; clear hb ho47; obtain ⟨Ao49, co49, eo49⟩ := Kd.R_slice HO210.out; subst eo49) | ((with_reducible refine gate_builtin (b := .append) (xs := #[.tmp 41, .tmp 43]) rfl ?_); at_builtin; refine Kd.R_append_rows (Kd.int .u8) (w0 := w0) w0.heap.size rfl (.tmp 41) (.tmp 43) 47 5 (.int .u8 0) 1 rfl Tryd.underlying47 info5 rfl (by decide) (by omega) u9000_ l1 y208 _ _ _ (fun k_ => (P1_ k_ ∨ w.heap.size ≤ k_) ∧ some k_ ≠ (.slice Ao49 y208.length co49 : Value).ownBlock) (fun _ => False) rfl rfl ?aO ?aR (fun _ _ h => h) (fun _ h => h.elim) ?aF ?aB ?aS ?aL ?_; (case aR => repeat (first | exact (Kd.R_reads' HO210.out).2.2 | (with_reducible refine Kd.C_alloc ?_ _) | (with_reducible refine Kd.C_drewN ?_ _) | (with_reducible refine Kd.C_drew ?_))); (case aB => exact (by repeat (first | (with_reducible first | exact HB.out | apply below_alloc | apply pw_below_drewN | apply below_drew1 | refine below_set ?_ GE180.out) | exact HB.out))); (case aF => exact (fun k_ hk => ⟨(.inr (Nat.le_trans (by first | exact HK.out.1 | exact (show Kept w _ (fun k_ => P1_ k_) from by repeat (first | (with_reducible first | exact HK.out | apply Kept.alloc | apply Kept.drewN | apply Kept.drew | refine Kept.setCell ?_ (.inr GW180.out) _) | exact HK.out)).1) hk)), Kd.fresh' (Kd.R_lt (by (with_reducible repeat (first | apply Kd.R_alloc | apply Kd.R_drewN | apply Kd.R_drew)); exact HO210.out)) k_ hk⟩)); (case aO => exact (by (with_reducible repeat (first | apply Kd.R_alloc | apply Kd.R_drewN | apply Kd.R_drew)); exact HO_1.out)); (case aS => exact (below_size (by repeat (first | (with_reducible first | exact HB.out | apply below_alloc | apply pw_below_drewN | apply below_drew1 | refine below_set ?_ GE180.out) | exact HB.out)))); (case aL => have := LMc45.out; omega); intro v212 w48 ho hb hg hat; rw [← Ny211.out] at ho; have n0_ := Aside0.mk (blk_grown (g := gb180) (o := .cells #[.int .i64 a0_0, .string a0_1, .slice A0_2 l0_2.length c0_2, .bool a0_3, .slice A0_4 l0_4.length c0_4] 30 (0, 0)) (by (with_reducible repeat (first | refine blk_drewN ?_ _ | refine blk_drew ?_ | refine blk_alloc ?_ _)); exact BK180.out) hg (Kd.R_ne HO_1.out BK180.out (by decide))); have n1_ := Aside0.mk (Kd.R_after (ok := (fun k_ => (P1_ k_ ∨ w.heap.size ≤ k_))) (by (with_reducible repeat (first | apply Kd.R_alloc | apply Kd.R_drewN | apply Kd.R_drew)); exact Kd.R_mono HO210.out (fun _ hk => ⟨hk.1.1, hk.2⟩)) hg hat); have n2_ := Aside0.mk (hb); have n3_ := Aside0.mk (Kept.of_grown (S := (fun k_ => P1_ k_)) hg (by repeat (first | (with_reducible first | exact HK.out | apply Kept.alloc | apply Kept.drewN | apply Kept.drew | refine Kept.setCell ?_ (.inr GW180.out) _) | exact HK.out)) (fun k_ e_ => (HO_1.out.1 k_ e_).1)); have n4_ := Aside0.mk (ho); clear BK180; clear HO210; clear HB; clear HK; clear HO_1; have BK180 := n0_; have HO210 := n1_; have HB := n2_; have HK := n3_; have HO213 := n4_; clear n0_ n1_ n2_ n3_ n4_; clear ho hb hg hat))
    try simp only [Act.put, List.setIfInBounds_toArray, List.set_cons_succ, List.set_cons_zero]
    go_loopg [1, 6] kj40 (fun kq v1 v6 w' => ∃ (x1_2 : List Int) (x6_2 : Int), v6 = .int .i64 x6_2 ∧ Aside0 (spec_FjVal_textTo.l0 kq x1_2 x5_40 x6_2 a0_0 a0_1 l0_2 a0_3 l0_4 = some r) ∧ Aside0 (kq ≤ kj40) ∧ Aside0 (Kd.R (Kd.int .u8) 5 w' w0.heap.size (fun k_ => (P1_ k_ ∨ w.heap.size ≤ k_)) v1 x1_2) ∧ Aside0 (w'.heap[gb180]? = some (.cells #[.int .i64 a0_0, .string a0_1, (.slice A0_2 l0_2.length c0_2), .bool a0_3, (.slice A0_4 l0_4.length c0_4)] 30 (0, 0))) ∧ Aside0 (Kept w w' (fun k_ => P1_ k_)) ∧ Aside0 (Below w0.heap.size w0 w'))
    case atStart => exact ⟨(y211), (0), (by first | rfl | (simp; done) | (simp [*]; done)), H', ⟨Nat.le_refl _⟩, ⟨by (with_reducible repeat (first | apply Kd.R_alloc | apply Kd.R_drewN | apply Kd.R_drew)); exact Kd.R_mono HO213.out (fun _ hk => hk.1)⟩, ⟨by (with_reducible repeat (first | refine blk_drewN ?_ _ | refine blk_drew ?_ | refine blk_alloc ?_ _)); exact BK180.out⟩, ⟨by repeat (first | (with_reducible first | exact HK.out | apply Kept.alloc | apply Kept.drewN | apply Kept.drew | refine Kept.setCell ?_ (.inr GW180.out) _) | exact HK.out)⟩, ⟨by repeat (first | (with_reducible first | exact HB.out | apply below_alloc | apply pw_below_drewN | apply below_drew1 | refine below_set ?_ GE180.out) | exact HB.out)⟩⟩
    case round => as_aux_lemma =>
     clear H'
     try clear c2
     try clear p2
     try clear c4
     try clear c23
     try clear c23b0
     try clear c23b1
     try clear c24
     try clear c25
     try clear c26
     try clear c29
     try clear c44
     try clear c44b0
     try clear c44b1
     try clear c45
     try clear hcz28_0
     try clear hcz28_1
     try clear hcz28_2
     try clear hcz28_3
     try clear hcz28_4
     try clear hcz43_0
     try clear hcz43_1
     try clear hcz43_2
     try clear hcz43_3
     try clear hcz43_4
     try clear hfz28_0
     try clear hfz28_1
     try clear hfz28_2
     try clear hfz28_3
     try clear hfz28_4
     try clear hfz43_0
     try clear hfz43_1
     try clear hfz43_2
     try clear hfz43_3
     try clear hfz43_4
     try clear p2
     obtain ⟨x1_2, x6_2, rfl, HA, HK2, HO_1, BK180, HK, HB⟩ := hrel
     cases gk with
     | zero => exact absurd HA.out (by simp [spec_FjVal_textTo.l0])
     | succ k2 =>
      have H := HA.out
      clear HA
      simp only [spec_FjVal_textTo.l0] at H
      by_cases c50 : x6_2 < (l0_4.length : Int)
      ·rw [if_pos c50] at H
       have c50b0 : decide (x6_2 < (l0_4.length : Int)) = true := decide_eq_true c50
       clear c50
       have HC51 := Aside0.mk H
       clear H
       have hcz52_0 : wr.cell? ⟨gb180, 0, none⟩ = some (.int .i64 a0_0) := (blk_cell BK180.out 0).trans rfl
       have hcz52_1 : wr.cell? ⟨gb180, 1, none⟩ = some (.string a0_1) := (blk_cell BK180.out 1).trans rfl
       have hcz52_2 : wr.cell? ⟨gb180, 2, none⟩ = some (.slice A0_2 l0_2.length c0_2) := (blk_cell BK180.out 2).trans rfl
       have hcz52_3 : wr.cell? ⟨gb180, 3, none⟩ = some (.bool a0_3) := (blk_cell BK180.out 3).trans rfl
       have hcz52_4 : wr.cell? ⟨gb180, 4, none⟩ = some (.slice A0_4 l0_4.length c0_4) := (blk_cell BK180.out 4).trans rfl
       have hfz52_0 := blk_frozen BK180.out 0
       have hfz52_1 := blk_frozen BK180.out 1
       have hfz52_2 := blk_frozen BK180.out 2
       have hfz52_3 := blk_frozen BK180.out 3
       have hfz52_4 := blk_frozen BK180.out 4
       go_upto_if 53 with (fail)
       go_cut [1] (fun v1 wc => ∃ (kq : Nat) (x1_50 : List Int), Aside0 (spec_FjVal_textTo.j2 kq x1_50 x5_40 x6_2 a0_0 a0_1 l0_2 a0_3 l0_4 = some r) ∧ Aside0 (kq ≤ k2) ∧ Aside0 (Kd.R (Kd.int .u8) 5 wc w0.heap.size (fun k_ => (P1_ k_ ∨ w.heap.size ≤ k_)) v1 x1_50) ∧ Aside0 (wc.heap[gb180]? = some (.cells #[.int .i64 a0_0, .string a0_1, (.slice A0_2 l0_2.length c0_2), .bool a0_3, (.slice A0_4 l0_4.length c0_4)] 30 (0, 0))) ∧ Aside0 (Kept w wc (fun k_ => P1_ k_)) ∧ Aside0 (Below w0.heap.size w0 wc))
       case first =>
        have H := HC51.out
        clear HC51
        by_cases c53 : x6_2 > 0
        ·rw [if_pos c53] at H
         have c53b0 : decide (0 < x6_2) = true := decide_eq_true c53
         clear c53
         (first | rw [c53b0] | (simp only [i64_w, i32_w]; rw [c53b0]) | rw [c53b1] | skip)
         obtain ⟨y220, hy220⟩ : ∃ y_ : List Int, y_ = (([44] : List Int)) := ⟨_, rfl⟩
         replace H : (if x1_2.length + y220.length < 140737488355328 then (spec_FjVal_textTo.j2 k2 (x1_2 ++ y220) x5_40 x6_2 a0_0 a0_1 l0_2 a0_3 l0_4) else (none)) = some r := by first | (rw [hy220]; with_reducible exact H) | (have H2_ := (Option.bind_some _ _).symm.trans H; rw [hy220]; with_reducible exact H2_) | (have H2_ := (Option.bind_some _ _).symm.trans H; with_reducible exact H2_) | with_reducible exact H | (rw [hy220]; exact H) | exact H
         have Ny220 := Aside0.mk hy220
         clear hy220
         by_cases c54 : x1_2.length + y220.length < 140737488355328
         ·rw [if_pos c54] at H
          have LMc54 := Aside0.mk c54
          clear c54
          obtain ⟨y223, hy223⟩ : ∃ y_ : List Int, y_ = (x1_2 ++ y220) := ⟨_, rfl⟩
          replace H : (spec_FjVal_textTo.j2 k2 y223 x5_40 x6_2 a0_0 a0_1 l0_2 a0_3 l0_4) = some r := by first | (rw [hy223]; with_reducible exact H) | (have H2_ := (Option.bind_some _ _).symm.trans H; rw [hy223]; with_reducible exact H2_) | (have H2_ := (Option.bind_some _ _).symm.trans H; with_reducible exact H2_) | with_reducible exact H | (rw [hy223]; exact H) | exact H
          have Ny223 := Aside0.mk hy223
          clear hy223
          have H' := Aside0.mk H
          clear H
          go_wp2_with (first | ((with_reducible refine gate_dst (N := 55) rfl ?_); refine Kd.R_lit (Kd.int .u8) _ 5 ?hg (N := 55) ?hd (xs := ([44] : List Int)) (inner := [.int .u8 44]) (ok := fun _ => True) (okp := fun _ => True) ?hr ?hp (fun _ hk => hk) trivial (Below.refl _ _) (Nat.le_refl _) (by simp) ?_; (case hd => rfl); (case hg => rfl); (case hr => first | (go_simp; done) | (go_simp; rfl)); (case hp => exact (Reps.one (show Kd.M (Kd.int .u8) _ _ _ 44 [.int .u8 44] from rfl) (Reps.none _ _))); intro v221 w55 ho56 hb hg_ hnew_; clear hg_ hnew_; (first | rw [← Ny220.out] at ho56 | (simp only [Int.reduceToNat] at ho56; rw [← Ny220.out] at ho56)); have n0_ := Aside0.mk (Kd.R_elder' (by (with_reducible repeat (first | apply Kd.R_alloc | apply Kd.R_drewN | apply Kd.R_drew)); exact HO_1.out) (Kd.R_base ho56) hb); have n1_ := Aside0.mk (Kd.R_lower (Kd.R_new' (Kd.R_newM (M := fun k_ => (P1_ k_ ∨ w.heap.size ≤ k_)) ho56 (by first | exact HK.out.1 | exact (show Kept w _ (fun k_ => P1_ k_) from by repeat (first | (with_reducible first | exact HK.out | apply Kept.alloc | apply Kept.drewN | apply Kept.drew | refine Kept.setCell ?_ (.inr GW180.out) _) | exact HK.out)).1) (fun k_ h_ => .inr h_)) (Kd.R_lt (by (with_reducible repeat (first | apply Kd.R_alloc | apply Kd.R_drewN | apply Kd.R_drew)); exact HO_1.out))) (below_size (by repeat (first | (with_reducible first | exact HB.out | apply below_alloc | apply pw_below_drewN | apply below_drew1 | refine below_set ?_ GE180.out) | exact HB.out)))); have n2_ := Aside0.mk (blk_below (g := gb180) (o := .cells #[.int .i64 a0_0, .string a0_1, .slice A0_2 l0_2.length c0_2, .bool a0_3, .slice A0_4 l0_4.length c0_4] 30 (0, 0)) (by (with_reducible repeat (first | refine blk_drewN ?_ _ | refine blk_drew ?_ | refine blk_alloc ?_ _)); exact BK180.out) hb); have n3_ := Aside0.mk (Kept.below (S := (fun k_ => P1_ k_)) (by repeat (first | (with_reducible first | exact HK.out | apply Kept.alloc | apply Kept.drewN | apply Kept.drew | refine Kept.setCell ?_ (.inr GW180.out) _) | exact HK.out)) hb); have n4_ := Aside0.mk (below_step (by repeat (first | (with_reducible first | exact HB.out | apply below_alloc | apply pw_below_drewN | apply below_drew1 | refine below_set ?_ GE180.out) | exact HB.out)) hb); clear HO_1; clear BK180; clear HK; clear HB; have HO_1 := n0_; have HO222 := n1_; have BK180 := n2_; have HK := n3_; have HB := n4_; clear n0_ n1_ n2_ n3_ n4_; clear hb ho56; obtain ⟨Ao58, co58, eo58⟩ := Kd.R_slice HO222.out; subst eo58) | ((with_reducible refine gate_builtin (b := .append) (xs := #[.tmp 54, .tmp 55]) rfl ?_); at_builtin; refine Kd.R_append_rows (Kd.int .u8) (w0 := w0) w0.heap.size rfl (.tmp 54) (.tmp 55) 47 5 (.int .u8 0) 1 rfl Tryd.underlying47 info5 rfl (by decide) (by omega) u1 x1_2 y220 _ _ _ (fun k_ => (P1_ k_ ∨ w.heap.size ≤ k_) ∧ some k_ ≠ (.slice Ao58 y220.length co58 : Value).ownBlock) (fun _ => False) rfl rfl ?aO ?aR (fun _ _ h => h) (fun _ h => h.elim) ?aF ?aB ?aS ?aL ?_; (case aR => repeat (first | exact (Kd.R_reads' HO222.out).2.2 | (with_reducible refine Kd.C_alloc ?_ _) | (with_reducible refine Kd.C_drewN ?_ _) | (with_reducible refine Kd.C_drew ?_))); (case aB => exact (by repeat (first | (with_reducible first | exact HB.out | apply below_alloc | apply pw_below_drewN | apply below_drew1 | refine below_set ?_ GE180.out) | exact HB.out))); (case aF => exact (fun k_ hk => ⟨(.inr (Nat.le_trans (by first | exact HK.out.1 | exact (show Kept w _ (fun k_ => P1_ k_) from by repeat (first | (with_reducible first | exact HK.out | apply Kept.alloc | apply Kept.drewN | apply Kept.drew | refine Kept.setCell ?_ (.inr GW180.out) _) | exact HK.out)).1) hk)), Kd.fresh' (Kd.R_lt (by (with_reducible repeat (first | apply Kd.R_alloc | apply Kd.R_drewN | apply Kd.R_drew)); exact HO222.out)) k_ hk⟩)); (case aO => exact (by (with_reducible repeat (first | apply Kd.R_alloc | apply Kd.R_drewN | apply Kd.R_drew)); exact HO_1.out)); (case aS => exact (below_size (by repeat (first | (with_reducible first | exact HB.out | apply below_alloc | apply pw_below_drewN | apply below_drew1 | refine below_set ?_ GE180.out) | exact HB.out)))); (case aL => have := LMc54.out; omega); intro v224 w57 ho hb hg hat; rw [← Ny223.out] at ho; have n0_ := Aside0.mk (blk_grown (g := gb180) (o := .cells #[.int .i64 a0_0, .string a0_1, .slice A0_2 l0_2.length c0_2, .bool a0_3, .slice A0_4 l0_4.length c0_4] 30 (0, 0)) (by (with_reducible repeat (first | refine blk_drewN ?_ _ | refine blk_drew ?_ | refine blk_alloc ?_ _)); exact BK180.out) hg (Kd.R_ne HO_1.out BK180.out (by decide))); have n1_ := Aside0.mk (Kd.R_after (ok := (fun k_ => (P1_ k_ ∨ w.heap.size ≤ k_))) (by (with_reducible repeat (first | apply Kd.R_alloc | apply Kd.R_drewN | apply Kd.R_drew)); exact Kd.R_mono HO222.out (fun _ hk => ⟨hk.1.1, hk.2⟩)) hg hat); have n2_ := Aside0.mk (hb); have n3_ := Aside0.mk (Kept.of_grown (S := (fun k_ => P1_ k_)) hg (by repeat (first | (with_reducible first | exact HK.out | apply Kept.alloc | apply Kept.drewN | apply Kept.drew | refine Kept.setCell ?_ (.inr GW180.out) _) | exact HK.out)) (fun k_ e_ => (HO_1.out.1 k_ e_).1)); have n4_ := Aside0.mk (ho); clear BK180; clear HO222; clear HB; clear HK; clear HO_1; have BK180 := n0_; have HO222 := n1_; have HB := n2_; have HK := n3_; have HO225 := n4_; clear n0_ n1_ n2_ n3_ n4_; clear ho hb hg hat))
          go_meet
          case rel => exact ⟨_, (y223), H', ⟨by have := HJ40.out; have := HK2.out; first | omega | exact Nat.le_refl _⟩, ⟨by (with_reducible repeat (first | apply Kd.R_alloc | apply Kd.R_drewN | apply Kd.R_drew)); exact Kd.R_mono HO225.out (fun _ hk => hk.1)⟩, ⟨by (with_reducible repeat (first | refine blk_drewN ?_ _ | refine blk_drew ?_ | refine blk_alloc ?_ _)); exact BK180.out⟩, ⟨by repeat (first | (with_reducible first | exact HK.out | apply Kept.alloc | apply Kept.drewN | apply Kept.drew | refine Kept.setCell ?_ (.inr GW180.out) _) | exact HK.out)⟩, ⟨by repeat (first | (with_reducible first | exact HB.out | apply below_alloc | apply pw_below_drewN | apply below_drew1 | refine below_set ?_ GE180.out) | exact HB.out)⟩⟩
         rw [if_neg c54] at H
         exact absurd H (by simp)
        rw [if_neg c53] at H
        have c53b0 : decide (0 < x6_2) = false := decide_eq_false c53
        clear c53
        (first | rw [c53b0] | (simp only [i64_w, i32_w]; rw [c53b0]) | rw [c53b1] | skip)
        have H' := Aside0.mk H
        clear H
        go_wp2
        go_meet
        case rel => exact ⟨_, (x1_2), H', ⟨by have := HJ40.out; have := HK2.out; first | omega | exact Nat.le_refl _⟩, ⟨by (with_reducible repeat (first | apply Kd.R_alloc | apply Kd.R_drewN | apply Kd.R_drew)); exact HO_1.out⟩, ⟨by (with_reducible repeat (first | refine blk_drewN ?_ _ | refine blk_drew ?_ | refine blk_alloc ?_ _)); exact BK180.out⟩, ⟨by repeat (first | (with_reducible first | exact HK.out | apply Kept.alloc | apply Kept.drewN | apply Kept.drew | refine Kept.setCell ?_ (.inr GW180.out) _) | exact HK.out)⟩, ⟨by repeat (first | (with_reducible first | exact HB.out | apply below_alloc | apply pw_below_drewN | apply below_drew1 | refine below_set ?_ GE180.out) | exact HB.out)⟩⟩
       case rest => as_aux_lemma =>
        clear HC51
        try clear c2
        try clear p2
        try clear c4
        try clear c5
        try clear c23
        try clear c23b0
        try clear c23b1
        try clear c24
        try clear c25
        try clear c26
        try clear c29
        try clear c44
        try clear c44b0
        try clear c44b1
        try clear c45
        try clear c50
        try clear c50b0
        try clear c53
        try clear c53b0
        try clear c53b1
        try clear c54
        try clear hcz28_0
        try clear hcz28_1
        try clear hcz28_2
        try clear hcz28_3
        try clear hcz28_4
        try clear hcz43_0
        try clear hcz43_1
        try clear hcz43_2
        try clear hcz43_3
        try clear hcz43_4
        try clear hcz52_0
        try clear hcz52_1
        try clear hcz52_2
        try clear hcz52_3
        try clear hcz52_4
        try clear hfz28_0
        try clear hfz28_1
        try clear hfz28_2
        try clear hfz28_3
        try clear hfz28_4
        try clear hfz43_0
        try clear hfz43_1
        try clear hfz43_2
        try clear hfz43_3
        try clear hfz43_4
        try clear hfz52_0
        try clear hfz52_1
        try clear hfz52_2
        try clear hfz52_3
        try clear hfz52_4
        try clear p2
        obtain ⟨kq, x1_50, HA, HJ50, HO_1, BK180, HK, HB⟩ := hcut
        cases kq with
        | zero => exact absurd HA.out (by simp [spec_FjVal_textTo.j2])
        | succ kj50 =>
         have H := HA.out
         clear HA
         simp only [spec_FjVal_textTo.j2] at H
         by_cases c59 : a0_0 = 6
         ·rw [if_pos c59] at H
          have c59b0 : (a0_0 == 6) = true := beq_iff_eq.mpr c59
          have c59b1 : (a0_0 != 6) = false := bne_eq_false_iff_eq.mpr c59
          clear c59
          by_cases c60 : 0 ≤ x6_2
          ·rw [if_pos c60] at H
           have c60b0 : decide (0 ≤ x6_2) = true := decide_eq_true c60
           clear c60
           by_cases c61 : x6_2 < (l0_2.length : Int)
           ·rw [if_pos c61] at H
            have c61b0 : decide (x6_2 < (l0_2.length : Int)) = true := decide_eq_true c61
            clear c61
            by_cases c62 : 1 + (rdOf ByteArray.empty l0_2 x6_2).size ≤ 9223372036854775807
            ·rw [if_pos c62] at H
             have c62b0 := eq_true c62
             have c62b1 : decide (1 + (rdOf ByteArray.empty l0_2 x6_2).size ≤ 9223372036854775807) = true := decide_eq_true c62
             try have c62b2 : (9223372036854775807 < 1 + (rdOf ByteArray.empty l0_2 x6_2).size) = False := eq_false (Nat.not_lt.2 c62)
             clear c62
             by_cases c63 : 1 + (rdOf ByteArray.empty l0_2 x6_2).size + 1 ≤ 9223372036854775807
             ·rw [if_pos c63] at H
              have c63b0 := eq_true c63
              have c63b1 : decide (1 + (rdOf ByteArray.empty l0_2 x6_2).size + 1 ≤ 9223372036854775807) = true := decide_eq_true c63
              try have c63b2 : (9223372036854775807 < 1 + (rdOf ByteArray.empty l0_2 x6_2).size + 1) = False := eq_false (Nat.not_lt.2 c63)
              clear c63
              by_cases c64 : a0_3 = true
              ·subst c64
               have H1 : ((spec_Anew.f (rdOf ByteArray.empty l0_2 x6_2)).bind fun t228 => (if x1_50.length + t228.size < 140737488355328 then ((some (x1_50 ++ bytesOf t228 : List Int)).bind fun y229 => ((some (([58] : List Int) : List Int)).bind fun y232 => (if y229.length + y232.length < 140737488355328 then (if x6_2 < (l0_4.length : Int) then ((spec_FjVal_textTo.f kj50 ((rd_T30 l0_4 x6_2).f0) ((rd_T30 l0_4 x6_2).f1) ((rd_T30 l0_4 x6_2).f2) ((rd_T30 l0_4 x6_2).f3) ((rd_T30 l0_4 x6_2).f4) (y229 ++ y232)).bind fun t239 => (spec_FjVal_textTo.l0 kj50 t239 x5_40 (wrap64 (x6_2 + 1)) a0_0 a0_1 l0_2 true l0_4)) else (none)) else (none)))) else (none))) = some r := by rw [if_pos rfl] at H; exact H
               clear H
               have H := H1
               clear H1
               replace H := Option.bind_eq_some_iff.mp H
               obtain ⟨t228, A650, H⟩ := H
               replace H : (if x1_50.length + t228.size < 140737488355328 then ((some (x1_50 ++ bytesOf t228 : List Int)).bind fun y229 => ((some (([58] : List Int) : List Int)).bind fun y232 => (if y229.length + y232.length < 140737488355328 then (if x6_2 < (l0_4.length : Int) then ((spec_FjVal_textTo.f kj50 ((rd_T30 l0_4 x6_2).f0) ((rd_T30 l0_4 x6_2).f1) ((rd_T30 l0_4 x6_2).f2) ((rd_T30 l0_4 x6_2).f3) ((rd_T30 l0_4 x6_2).f4) (y229 ++ y232)).bind fun t239 => (spec_FjVal_textTo.l0 kj50 t239 x5_40 (wrap64 (x6_2 + 1)) a0_0 a0_1 l0_2 true l0_4)) else (none)) else (none)))) else (none)) = some r := H
               have A65 := Aside0.mk A650
               clear A650
               by_cases c66 : x1_50.length + t228.size < 140737488355328
               ·rw [if_pos c66] at H
                have LMc66 := Aside0.mk c66
                clear c66
                obtain ⟨y229, hy229⟩ : ∃ y_ : List Int, y_ = (x1_50 ++ bytesOf t228) := ⟨_, rfl⟩
                replace H : ((some (([58] : List Int) : List Int)).bind fun y232 => (if y229.length + y232.length < 140737488355328 then (if x6_2 < (l0_4.length : Int) then ((spec_FjVal_textTo.f kj50 ((rd_T30 l0_4 x6_2).f0) ((rd_T30 l0_4 x6_2).f1) ((rd_T30 l0_4 x6_2).f2) ((rd_T30 l0_4 x6_2).f3) ((rd_T30 l0_4 x6_2).f4) (y229 ++ y232)).bind fun t239 => (spec_FjVal_textTo.l0 kj50 t239 x5_40 (wrap64 (x6_2 + 1)) a0_0 a0_1 l0_2 true l0_4)) else (none)) else (none))) = some r := by first | (rw [hy229]; with_reducible exact H) | (have H2_ := (Option.bind_some _ _).symm.trans H; rw [hy229]; with_reducible exact H2_) | (have H2_ := (Option.bind_some _ _).symm.trans H; with_reducible exact H2_) | with_reducible exact H | (rw [hy229]; exact H) | exact H
                have Ny229 := Aside0.mk hy229
                clear hy229
                obtain ⟨y232, hy232⟩ : ∃ y_ : List Int, y_ = (([58] : List Int)) := ⟨_, rfl⟩
                replace H : (if y229.length + y232.length < 140737488355328 then (if x6_2 < (l0_4.length : Int) then ((spec_FjVal_textTo.f kj50 ((rd_T30 l0_4 x6_2).f0) ((rd_T30 l0_4 x6_2).f1) ((rd_T30 l0_4 x6_2).f2) ((rd_T30 l0_4 x6_2).f3) ((rd_T30 l0_4 x6_2).f4) (y229 ++ y232)).bind fun t239 => (spec_FjVal_textTo.l0 kj50 t239 x5_40 (wrap64 (x6_2 + 1)) a0_0 a0_1 l0_2 true l0_4)) else (none)) else (none)) = some r := by first | (rw [hy232]; with_reducible exact H) | (have H2_ := (Option.bind_some _ _).symm.trans H; rw [hy232]; with_reducible exact H2_) | (have H2_ := (Option.bind_some _ _).symm.trans H; with_reducible exact H2_) | with_reducible exact H | (rw [hy232]; exact H) | exact H
                have Ny232 := Aside0.mk hy232
                clear hy232
                by_cases c67 : y229.length + y232.length < 140737488355328
                ·rw [if_pos c67] at H
                 have LMc67 := Aside0.mk c67
                 clear c67
                 obtain ⟨y235, hy235⟩ : ∃ y_ : List Int, y_ = (y229 ++ y232) := ⟨_, rfl⟩
                 replace H : (if x6_2 < (l0_4.length : Int) then ((spec_FjVal_textTo.f kj50 ((rd_T30 l0_4 x6_2).f0) ((rd_T30 l0_4 x6_2).f1) ((rd_T30 l0_4 x6_2).f2) ((rd_T30 l0_4 x6_2).f3) ((rd_T30 l0_4 x6_2).f4) y235).bind fun t239 => (spec_FjVal_textTo.l0 kj50 t239 x5_40 (wrap64 (x6_2 + 1)) a0_0 a0_1 l0_2 true l0_4)) else (none)) = some r := by first | (rw [hy235]; with_reducible exact H) | (have H2_ := (Option.bind_some _ _).symm.trans H; rw [hy235]; with_reducible exact H2_) | (have H2_ := (Option.bind_some _ _).symm.trans H; with_reducible exact H2_) | with_reducible exact H | (rw [hy235]; exact H) | exact H
                 have Ny235 := Aside0.mk hy235
                 clear hy235
                 by_cases c68 : x6_2 < (l0_4.length : Int)
                 ·rw [if_pos c68] at H
                  have c68b0 : decide (x6_2 < (l0_4.length : Int)) = true := decide_eq_true c68
                  clear c68
                  replace H := Option.bind_eq_some_iff.mp H
                  obtain ⟨t239, A690, H⟩ := H
                  replace H : (spec_FjVal_textTo.l0 kj50 t239 x5_40 (wrap64 (x6_2 + 1)) a0_0 a0_1 l0_2 true l0_4) = some r := H
                  have A69 := Aside0.mk A690
                  clear A690
                  have H' := Aside0.mk H
                  clear H
                  have hcz70_0 : wc.cell? ⟨gb180, 0, none⟩ = some (.int .i64 a0_0) := (blk_cell BK180.out 0).trans rfl
                  have hcz70_1 : wc.cell? ⟨gb180, 1, none⟩ = some (.string a0_1) := (blk_cell BK180.out 1).trans rfl
                  have hcz70_2 : wc.cell? ⟨gb180, 2, none⟩ = some (.slice A0_2 l0_2.length c0_2) := (blk_cell BK180.out 2).trans rfl
                  have hcz70_3 : wc.cell? ⟨gb180, 3, none⟩ = some (.bool true) := (blk_cell BK180.out 3).trans rfl
                  have hcz70_4 : wc.cell? ⟨gb180, 4, none⟩ = some (.slice A0_4 l0_4.length c0_4) := (blk_cell BK180.out 4).trans rfl
                  have hfz70_0 := blk_frozen BK180.out 0
                  have hfz70_1 := blk_frozen BK180.out 1
                  have hfz70_2 := blk_frozen BK180.out 2
                  have hfz70_3 := blk_frozen BK180.out 3
                  have hfz70_4 := blk_frozen BK180.out 4
                  have p226 : 0 ≤ (x6_2 : Int) := of_decide_eq_true (by assumption)
                  have q226 : x6_2 < (l0_2.length : Int) := of_decide_eq_true (by assumption)
                  obtain ⟨ad226, e226, hx226_0⟩ := Kd.at_string (Kd.C_kept_now HR0_2.out HK.out) x6_2 p226 q226
                  cases e226
                  replace p226 := eq_true p226
                  replace q226 := eq_true q226
                  have p227 : 0 ≤ (x6_2 : Int) := of_decide_eq_true (by assumption)
                  have q227 : x6_2 < (l0_2.length : Int) := of_decide_eq_true (by assumption)
                  obtain ⟨ad227, e227, hx227_0⟩ := Kd.at_string (Kd.C_kept_now HR0_2.out HK.out) x6_2 p227 q227
                  obtain rfl : ad226 = ad227 := (by injection e227)
                  replace p227 := eq_true p227
                  replace q227 := eq_true q227
                  go_wp2_with (first | ((with_reducible refine gate_callee (f := 52) rfl ?_); refine goesL_ (some 74) rfl rfl Tryd.func52 (by kernel_rfl) rfl #[.string (rdOf ByteArray.empty l0_2 x6_2)] rfl (by (try simp only [List.map_toArray, List.map_cons, List.map_nil]); first | done | rfl | (simp only [List.length_drop, List.length_take]; rfl)) ?_; (with_reducible refine (spec_Anew.calls (rdOf ByteArray.empty l0_2 x6_2) t228 _ A65.out).mono ?_); rintro e w' ⟨rfl, ⟨nd, rfl⟩⟩; refine ⟨_, rfl, ?_⟩) | (at_builtin; refine M_append_str (w0 := w0) w0.heap.size rfl (.tmp 75) _ 47 9 5 rfl Tryd.underlying47 Tryd.underlying9 info5 u1 x1_50 t228 (fun k_ => (P1_ k_ ∨ w.heap.size ≤ k_)) rfl rfl ?aF ?aO ?aB ?aS ?aL ?_; (case aB => exact (by repeat (first | (with_reducible first | exact HB.out | apply below_alloc | apply pw_below_drewN | apply below_drew1 | refine below_set ?_ GE180.out) | exact HB.out))); (case aF => exact (fun k_ hk => (.inr (Nat.le_trans (by first | exact HK.out.1 | exact (show Kept w _ (fun k_ => P1_ k_) from by repeat (first | (with_reducible first | exact HK.out | apply Kept.alloc | apply Kept.drewN | apply Kept.drew | refine Kept.setCell ?_ (.inr GW180.out) _) | exact HK.out)).1) hk)))); (case aO => exact (by (with_reducible repeat (first | apply Kd.R_alloc | apply Kd.R_drewN | apply Kd.R_drew)); exact HO_1.out)); (case aS => exact (below_size (by repeat (first | (with_reducible first | exact HB.out | apply below_alloc | apply pw_below_drewN | apply below_drew1 | refine below_set ?_ GE180.out) | exact HB.out)))); (case aL => have := LMc66.out; omega); intro v230 w71 ho hb hg hat; rw [← Ny229.out] at ho; have n0_ := Aside0.mk (blk_grown (g := gb180) (o := .cells #[.int .i64 a0_0, .string a0_1, .slice (some ad226) l0_2.length c0_2, .bool true, .slice A0_4 l0_4.length c0_4] 30 (0, 0)) (by (with_reducible repeat (first | refine blk_drewN ?_ _ | refine blk_drew ?_ | refine blk_alloc ?_ _)); exact BK180.out) hg (Kd.R_ne HO_1.out BK180.out (by decide))); have n1_ := Aside0.mk (hb); have n2_ := Aside0.mk (Kept.of_grown (S := (fun k_ => P1_ k_)) hg (by repeat (first | (with_reducible first | exact HK.out | apply Kept.alloc | apply Kept.drewN | apply Kept.drew | refine Kept.setCell ?_ (.inr GW180.out) _) | exact HK.out)) (fun k_ e_ => (HO_1.out.1 k_ e_))); have n3_ := Aside0.mk (ho); clear BK180; clear HB; clear HK; clear HO_1; have BK180 := n0_; have HB := n1_; have HK := n2_; have HO231 := n3_; clear n0_ n1_ n2_ n3_; clear ho hb hg hat) | ((with_reducible refine gate_dst (N := 78) rfl ?_); refine Kd.R_lit (Kd.int .u8) _ 5 ?hg (N := 78) ?hd (xs := ([58] : List Int)) (inner := [.int .u8 58]) (ok := fun _ => True) (okp := fun _ => True) ?hr ?hp (fun _ hk => hk) trivial (Below.refl _ _) (Nat.le_refl _) (by simp) ?_; (case hd => rfl); (case hg => rfl); (case hr => first | (go_simp; done) | (go_simp; rfl)); (case hp => exact (Reps.one (show Kd.M (Kd.int .u8) _ _ _ 58 [.int .u8 58] from rfl) (Reps.none _ _))); intro v233 w72 ho73 hb hg_ hnew_; clear hg_ hnew_; (first | rw [← Ny232.out] at ho73 | (simp only [Int.reduceToNat] at ho73; rw [← Ny232.out] at ho73)); have n0_ := Aside0.mk (Kd.R_elder' (by (with_reducible repeat (first | apply Kd.R_alloc | apply Kd.R_drewN | apply Kd.R_drew)); exact HO231.out) (Kd.R_base ho73) hb); have n1_ := Aside0.mk (Kd.R_lower (Kd.R_new' (Kd.R_newM (M := fun k_ => (P1_ k_ ∨ w.heap.size ≤ k_)) ho73 (by first | exact HK.out.1 | exact (show Kept w _ (fun k_ => P1_ k_) from by repeat (first | (with_reducible first | exact HK.out | apply Kept.alloc | apply Kept.drewN | apply Kept.drew | refine Kept.setCell ?_ (.inr GW180.out) _) | exact HK.out)).1) (fun k_ h_ => .inr h_)) (Kd.R_lt (by (with_reducible repeat (first | apply Kd.R_alloc | apply Kd.R_drewN | apply Kd.R_drew)); exact HO231.out))) (below_size (by repeat (first | (with_reducible first | exact HB.out | apply below_alloc | apply pw_below_drewN | apply below_drew1 | refine below_set ?_ GE180.out) | exact HB.out)))); have n2_ := Aside0.mk (blk_below (g := gb180) (o := .cells #[.int .i64 a0_0, .string a0_1, .slice (some ad226) l0_2.length c0_2, .bool true, .slice A0_4 l0_4.length c0_4] 30 (0, 0)) (by (with_reducible repeat (first | refine blk_drewN ?_ _ | refine blk_drew ?_ | refine blk_alloc ?_ _)); exact BK180.out) hb); have n3_ := Aside0.mk (Kept.below (S := (fun k_ => P1_ k_)) (by repeat (first | (with_reducible first | exact HK.out | apply Kept.alloc | apply Kept.drewN | apply Kept.drew | refine Kept.setCell ?_ (.inr GW180.out) _) | exact HK.out)) hb); have n4_ := Aside0.mk (below_step (by repeat (first | (with_reducible first | exact HB.out | apply below_alloc | apply pw_below_drewN | apply below_drew1 | refine below_set ?_ GE180.out) | exact HB.out)) hb); clear HO231; clear BK180; clear HK; clear HB; have HO231 := n0_; have HO234 := n1_; have BK180 := n2_; have HK := n3_; have HB := n4_; clear n0_ n1_ n2_ n3_ n4_; clear hb ho73; obtain ⟨Ao75, co75, eo75⟩ := Kd.R_slice HO234.out; subst eo75) | ((with_reducible refine gate_builtin (b := .append) (xs := #[.tmp 77, .tmp 78]) rfl ?_); at_builtin; refine Kd.R_append_rows (Kd.int .u8) (w0 := w0) w0.heap.size rfl (.tmp 77) (.tmp 78) 47 5 (.int .u8 0) 1 rfl Tryd.underlying47 info5 rfl (by decide) (by omega) v230 y229 y232 _ _ _ (fun k_ => (P1_ k_ ∨ w.heap.size ≤ k_) ∧ some k_ ≠ (.slice Ao75 y232.length co75 : Value).ownBlock) (fun _ => False) rfl rfl ?aO ?aR (fun _ _ h => h) (fun _ h => h.elim) ?aF ?aB ?aS ?aL ?_; (case aR => repeat (first | exact (Kd.R_reads' HO234.out).2.2 | (with_reducible refine Kd.C_alloc ?_ _) | (with_reducible refine Kd.C_drewN ?_ _) | (with_reducible refine Kd.C_drew ?_))); (case aB => exact (by repeat (first | (with_reducible first | exact HB.out | apply below_alloc | apply pw_below_drewN | apply below_drew1 | refine below_set ?_ GE180.out) | exact HB.out))); (case aF => exact (fun k_ hk => ⟨(.inr (Nat.le_trans (by first | exact HK.out.1 | exact (show Kept w _ (fun k_ => P1_ k_) from by repeat (first | (with_reducible first | exact HK.out | apply Kept.alloc | apply Kept.drewN | apply Kept.drew | refine Kept.setCell ?_ (.inr GW180.out) _) | exact HK.out)).1) hk)), Kd.fresh' (Kd.R_lt (by (with_reducible repeat (first | apply Kd.R_alloc | apply Kd.R_drewN | apply Kd.R_drew)); exact HO234.out)) k_ hk⟩)); (case aO => exact (by (with_reducible repeat (first | apply Kd.R_alloc | apply Kd.R_drewN | apply Kd.R_drew)); exact HO231.out)); (case aS => exact (below_size (by repeat (first | (with_reducible first | exact HB.out | apply below_alloc | apply pw_below_drewN | apply below_drew1 | refine below_set ?_ GE180.out) | exact HB.out)))); (case aL => have := LMc67.out; omega); intro v236 w74 ho hb hg hat; rw [← Ny235.out] at ho; have n0_ := Aside0.mk (blk_grown (g := gb180) (o := .cells #[.int .i64 a0_0, .string a0_1, .slice (some ad226) l0_2.length c0_2, .bool true, .slice A0_4 l0_4.length c0_4] 30 (0, 0)) (by (with_reducible repeat (first | refine blk_drewN ?_ _ | refine blk_drew ?_ | refine blk_alloc ?_ _)); exact BK180.out) hg (Kd.R_ne HO231.out BK180.out (by decide))); have n1_ := Aside0.mk (Kd.R_after (ok := (fun k_ => (P1_ k_ ∨ w.heap.size ≤ k_))) (by (with_reducible repeat (first | apply Kd.R_alloc | apply Kd.R_drewN | apply Kd.R_drew)); exact Kd.R_mono HO234.out (fun _ hk => ⟨hk.1.1, hk.2⟩)) hg hat); have n2_ := Aside0.mk (hb); have n3_ := Aside0.mk (Kept.of_grown (S := (fun k_ => P1_ k_)) hg (by repeat (first | (with_reducible first | exact HK.out | apply Kept.alloc | apply Kept.drewN | apply Kept.drew | refine Kept.setCell ?_ (.inr GW180.out) _) | exact HK.out)) (fun k_ e_ => (HO231.out.1 k_ e_).1)); have n4_ := Aside0.mk (ho); clear BK180; clear HO234; clear HB; clear HK; clear HO231; have BK180 := n0_; have HO234 := n1_; have HB := n2_; have HK := n3_; have HO237 := n4_; clear n0_ n1_ n2_ n3_ n4_; clear ho hb hg hat; have hcz76_0 : w74.cell? ⟨gb180, 0, none⟩ = some (.int .i64 a0_0) := (blk_cell BK180.out 0).trans rfl; have hcz76_1 : w74.cell? ⟨gb180, 1, none⟩ = some (.string a0_1) := (blk_cell BK180.out 1).trans rfl; have hcz76_2 : w74.cell? ⟨gb180, 2, none⟩ = some (.slice (some ad226) l0_2.length c0_2) := (blk_cell BK180.out 2).trans rfl; have hcz76_3 : w74.cell? ⟨gb180, 3, none⟩ = some (.bool true) := (blk_cell BK180.out 3).trans rfl; have hcz76_4 : w74.cell? ⟨gb180, 4, none⟩ = some (.slice A0_4 l0_4.length c0_4) := (blk_cell BK180.out 4).trans rfl; have hfz76_0 := blk_frozen BK180.out 0; have hfz76_1 := blk_frozen BK180.out 1; have hfz76_2 := blk_frozen BK180.out 2; have hfz76_3 := blk_frozen BK180.out 3; have hfz76_4 := blk_frozen BK180.out 4; have p238 : 0 ≤ (x6_2 : Int) := of_decide_eq_true (by assumption); have q238 : x6_2 < (l0_4.length : Int) := of_decide_eq_true (by assumption); obtain ⟨ad238, A238_2, c238_2, A238_4, c238_4, e238, hx238_0, hx238_1, hx238_2, hx238_3, hx238_4, hl238_2, hi238_2, hl238_4, hi238_4⟩ := at_T30 (Kd.C_kept_now HR0_4.out HK.out) x6_2 p238 q238; cases e238; have HE238_2 := Aside0.mk (at_T30_k2 HR0_4.out HK.out x6_2 p238 q238 rfl hx238_2); have HR238_2 := Aside0.mk hi238_2; have HC238_2 := Aside0.mk hl238_2; clear hi238_2 hl238_2; have HE238_4 := Aside0.mk (at_T30_k4 HR0_4.out HK.out x6_2 p238 q238 rfl hx238_4); have HR238_4 := Aside0.mk hi238_4; have HC238_4 := Aside0.mk hl238_4; clear hi238_4 hl238_4; replace p238 := eq_true p238; replace q238 := eq_true q238; obtain ⟨Ao77, co77, eo77⟩ := Kd.R_slice HO237.out; subst eo77) | ((with_reducible refine gate_callee (f := 29) rfl ?_); refine goesL_ (some 86) rfl rfl Tryd.func29 (by kernel_rfl) rfl #[.agg #[.int .i64 ((rd_T30 l0_4 x6_2).f0), .string ((rd_T30 l0_4 x6_2).f1), .slice A238_2 ((rd_T30 l0_4 x6_2).f2).length c238_2, .bool ((rd_T30 l0_4 x6_2).f3), .slice A238_4 ((rd_T30 l0_4 x6_2).f4).length c238_4], .slice Ao77 y235.length co77] rfl (by (try simp only [List.map_toArray, List.map_cons, List.map_nil]); first | done | rfl | (simp only [List.length_drop, List.length_take]; rfl)) ?_; (with_reducible refine (ih kj50 (by have := HJ40.out; have := HK2.out; have := HJ50.out; omega) ((rd_T30 l0_4 x6_2).f0) ((rd_T30 l0_4 x6_2).f1) _ _ ((rd_T30 l0_4 x6_2).f2) ((rd_T30 l0_4 x6_2).f3) _ _ ((rd_T30 l0_4 x6_2).f4) (fun k_ => some k_ = (.slice Ao77 y235.length co77 : Value).ownBlock) (.slice Ao77 y235.length co77) y235 t239 w0 _ ?side1 ?side2 ?side3 ?side4 ?side5 ?side6 A69.out).mono ?_); (case side1 => repeat (first | (with_reducible first | exact HB.out | apply below_alloc | apply pw_below_drewN | apply below_drew1 | refine below_set ?_ GE180.out) | exact HB.out)); (case side2 => exact Kd.C_kept_call HE238_2.out (by repeat (first | (with_reducible first | exact HK.out | apply Kept.alloc | apply Kept.drewN | apply Kept.drew | refine Kept.setCell ?_ (.inr GW180.out) _) | exact HK.out)) (fun k_ hs_ => (fun e_ => (HO237.out.1 k_ e_.symm).1) hs_)); (case side3 => exact HC238_2.out); (case side4 => exact Kd.C_kept_call HE238_4.out (by repeat (first | (with_reducible first | exact HK.out | apply Kept.alloc | apply Kept.drewN | apply Kept.drew | refine Kept.setCell ?_ (.inr GW180.out) _) | exact HK.out)) (fun k_ hs_ => (fun e_ => (HO237.out.1 k_ e_.symm).1) hs_)); (case side5 => exact HC238_4.out); (case side6 => exact Kd.R_tight rfl HO237.out); rintro e w78 ⟨v240, rfl, ho0, hb, hkp⟩; refine ⟨_, rfl, ?_⟩; have n0_ := Aside0.mk (blk_kept (by (with_reducible repeat (first | refine blk_drewN ?_ _ | refine blk_drew ?_ | refine blk_alloc ?_ _)); exact BK180.out) hkp (fun hs_ => (fun e_ => (Kd.R_ne HO237.out BK180.out (by decide)) e_) hs_)); have n1_ := Aside0.mk (Kd.R_mono (ok' := fun k_ => (P1_ k_ ∨ w.heap.size ≤ k_) ∧ some k_ ≠ (v240 : Value).ownBlock) (Kd.R_keptB (HO234.out) hkp (fun k_ hk_ hs_ => (hk_.2) hs_)) (fun k_ hk_ => ⟨hk_.1.1, fun e_ => Or.elim (ho0.1 k_ e_.symm) (fun hs_ => hk_.2.1 hs_) (fun hn_ => Nat.not_le.2 hk_.2.2 hn_)⟩)); have n2_ := Aside0.mk (Kd.R_mono (ok' := fun k_ => (P1_ k_ ∨ w.heap.size ≤ k_) ∧ some k_ ≠ (.slice Ao75 y232.length co75 : Value).ownBlock) ho0 (fun k_ hk_ => ⟨Or.elim hk_ (fun hs_ => (HO237.out.1 k_ (hs_).symm).1) (fun hn_ => (.inr (Nat.le_trans (by first | exact HK.out.1 | exact (show Kept w _ (fun k_ => P1_ k_) from by repeat (first | (with_reducible first | exact HK.out | apply Kept.alloc | apply Kept.drewN | apply Kept.drew | refine Kept.setCell ?_ (.inr GW180.out) _) | exact HK.out)).1) hn_))), Or.elim hk_ (fun hs_ => fun e_ => (((HO234.out).1 k_ e_.symm).2) hs_) (fun hn_ => (Kd.fresh' (Kd.R_lt (by (with_reducible repeat (first | apply Kd.R_alloc | apply Kd.R_drewN | apply Kd.R_drew)); exact HO234.out)) k_ hn_))⟩)); have n3_ := Aside0.mk (Kept.then_ (S := (fun k_ => P1_ k_)) (by repeat (first | (with_reducible first | exact HK.out | apply Kept.alloc | apply Kept.drewN | apply Kept.drew | refine Kept.setCell ?_ (.inr GW180.out) _) | exact HK.out)) hkp (fun k_ hs_ => (fun e_ => (HO237.out.1 k_ e_.symm).1) hs_)); have n4_ := Aside0.mk (hb); clear BK180; clear HO234; clear HK; clear HB; clear HO237; have BK180 := n0_; have HO234 := n1_; have HO241 := n2_; have HK := n3_; have HB := n4_; clear n0_ n1_ n2_ n3_ n4_; (try clear hb); (try clear hkp); (try clear ho0)))
                  go_roundg kj50
                  case measure => have := HJ40.out; have := HK2.out; have := HJ50.out; omega
                  case rel => exact ⟨(t239), (wrap64 (x6_2 + 1)), (by first | rfl | (simp; done) | (simp [*]; done)), H', ⟨by have := HJ40.out; have := HK2.out; have := HJ50.out; omega⟩, ⟨by (with_reducible repeat (first | apply Kd.R_alloc | apply Kd.R_drewN | apply Kd.R_drew)); exact Kd.R_mono HO241.out (fun _ hk => hk.1)⟩, ⟨by (with_reducible repeat (first | refine blk_drewN ?_ _ | refine blk_drew ?_ | refine blk_alloc ?_ _)); exact BK180.out⟩, ⟨by repeat (first | (with_reducible first | exact HK.out | apply Kept.alloc | apply Kept.drewN | apply Kept.drew | refine Kept.setCell ?_ (.inr GW180.out) _) | exact HK.out)⟩, ⟨by repeat (first | (with_reducible first | exact HB.out | apply below_alloc | apply pw_below_drewN | apply below_drew1 | refine below_set ?_ GE180.out) | exact HB.out)⟩⟩
                 rw [if_neg c68] at H
                 exact absurd H (by simp)
                rw [if_neg c67] at H
                exact absurd H (by simp)
               rw [if_neg c66] at H
               exact absurd H (by simp)
              replace c64 := Bool.eq_false_iff.mpr c64
              subst c64
              have H1 : (if x1_50.length + 1 + (rdOf ByteArray.empty l0_2 x6_2).size + 1 < 140737488355328 then ((some (x1_50 ++ bytesOf (((⟨#[34]⟩ : ByteArray) ++ (rdOf ByteArray.empty l0_2 x6_2)) ++ (⟨#[34]⟩ : ByteArray)) : List Int)).bind fun y242 => ((some (([58] : List Int) : List Int)).bind fun y245 => (if y242.length + y245.length < 140737488355328 then (if x6_2 < (l0_4.length : Int) then ((spec_FjVal_textTo.f kj50 ((rd_T30 l0_4 x6_2).f0) ((rd_T30 l0_4 x6_2).f1) ((rd_T30 l0_4 x6_2).f2) ((rd_T30 l0_4 x6_2).f3) ((rd_T30 l0_4 x6_2).f4) (y242 ++ y245)).bind fun t252 => (spec_FjVal_textTo.l0 kj50 t252 x5_40 (wrap64 (x6_2 + 1)) a0_0 a0_1 l0_2 false l0_4)) else (none)) else (none)))) else (none)) = some r := by rw [if_neg (show ¬ (false = true) by decide)] at H; exact H
              clear H
              have H := H1
              clear H1
              by_cases c79 : x1_50.length + 1 + (rdOf ByteArray.empty l0_2 x6_2).size + 1 < 140737488355328
              ·rw [if_pos c79] at H
               have LMc79 := Aside0.mk c79
               clear c79
               obtain ⟨y242, hy242⟩ : ∃ y_ : List Int, y_ = (x1_50 ++ bytesOf (((⟨#[34]⟩ : ByteArray) ++ (rdOf ByteArray.empty l0_2 x6_2)) ++ (⟨#[34]⟩ : ByteArray))) := ⟨_, rfl⟩
               replace H : ((some (([58] : List Int) : List Int)).bind fun y245 => (if y242.length + y245.length < 140737488355328 then (if x6_2 < (l0_4.length : Int) then ((spec_FjVal_textTo.f kj50 ((rd_T30 l0_4 x6_2).f0) ((rd_T30 l0_4 x6_2).f1) ((rd_T30 l0_4 x6_2).f2) ((rd_T30 l0_4 x6_2).f3) ((rd_T30 l0_4 x6_2).f4) (y242 ++ y245)).bind fun t252 => (spec_FjVal_textTo.l0 kj50 t252 x5_40 (wrap64 (x6_2 + 1)) a0_0 a0_1 l0_2 false l0_4)) else (none)) else (none))) = some r := by first | (rw [hy242]; with_reducible exact H) | (have H2_ := (Option.bind_some _ _).symm.trans H; rw [hy242]; with_reducible exact H2_) | (have H2_ := (Option.bind_some _ _).symm.trans H; with_reducible exact H2_) | with_reducible exact H | (rw [hy242]; exact H) | exact H
               have Ny242 := Aside0.mk hy242
               clear hy242
               obtain ⟨y245, hy245⟩ : ∃ y_ : List Int, y_ = (([58] : List Int)) := ⟨_, rfl⟩
               replace H : (if y242.length + y245.length < 140737488355328 then (if x6_2 < (l0_4.length : Int) then ((spec_FjVal_textTo.f kj50 ((rd_T30 l0_4 x6_2).f0) ((rd_T30 l0_4 x6_2).f1) ((rd_T30 l0_4 x6_2).f2) ((rd_T30 l0_4 x6_2).f3) ((rd_T30 l0_4 x6_2).f4) (y242 ++ y245)).bind fun t252 => (spec_FjVal_textTo.l0 kj50 t252 x5_40 (wrap64 (x6_2 + 1)) a0_0 a0_1 l0_2 false l0_4)) else (none)) else (none)) = some r := by first | (rw [hy245]; with_reducible exact H) | (have H2_ := (Option.bind_some _ _).symm.trans H; rw [hy245]; with_reducible exact H2_) | (have H2_ := (Option.bind_some _ _).symm.trans H; with_reducible exact H2_) | with_reducible exact H | (rw [hy245]; exact H) | exact H
               have Ny245 := Aside0.mk hy245
               clear hy245
               by_cases c80 : y242.length + y245.length < 140737488355328
               ·rw [if_pos c80] at H
                have LMc80 := Aside0.mk c80
                clear c80
                obtain ⟨y248, hy248⟩ : ∃ y_ : List Int, y_ = (y242 ++ y245) := ⟨_, rfl⟩
                replace H : (if x6_2 < (l0_4.length : Int) then ((spec_FjVal_textTo.f kj50 ((rd_T30 l0_4 x6_2).f0) ((rd_T30 l0_4 x6_2).f1) ((rd_T30 l0_4 x6_2).f2) ((rd_T30 l0_4 x6_2).f3) ((rd_T30 l0_4 x6_2).f4) y248).bind fun t252 => (spec_FjVal_textTo.l0 kj50 t252 x5_40 (wrap64 (x6_2 + 1)) a0_0 a0_1 l0_2 false l0_4)) else (none)) = some r := by first | (rw [hy248]; with_reducible exact H) | (have H2_ := (Option.bind_some _ _).symm.trans H; rw [hy248]; with_reducible exact H2_) | (have H2_ := (Option.bind_some _ _).symm.trans H; with_reducible exact H2_) | with_reducible exact H | (rw [hy248]; exact H) | exact H
                have Ny248 := Aside0.mk hy248
                clear hy248
                by_cases c81 : x6_2 < (l0_4.length : Int)
                ·rw [if_pos c81] at H
                 have c81b0 : decide (x6_2 < (l0_4.length : Int)) = true := decide_eq_true c81
                 clear c81
                 replace H := Option.bind_eq_some_iff.mp H
                 obtain ⟨t252, A820, H⟩ := H
                 replace H : (spec_FjVal_textTo.l0 kj50 t252 x5_40 (wrap64 (x6_2 + 1)) a0_0 a0_1 l0_2 false l0_4) = some r := H
                 have A82 := Aside0.mk A820
                 clear A820
                 have H' := Aside0.mk H
                 clear H
                 have hcz83_0 : wc.cell? ⟨gb180, 0, none⟩ = some (.int .i64 a0_0) := (blk_cell BK180.out 0).trans rfl
                 have hcz83_1 : wc.cell? ⟨gb180, 1, none⟩ = some (.string a0_1) := (blk_cell BK180.out 1).trans rfl
                 have hcz83_2 : wc.cell? ⟨gb180, 2, none⟩ = some (.slice A0_2 l0_2.length c0_2) := (blk_cell BK180.out 2).trans rfl
                 have hcz83_3 : wc.cell? ⟨gb180, 3, none⟩ = some (.bool false) := (blk_cell BK180.out 3).trans rfl
                 have hcz83_4 : wc.cell? ⟨gb180, 4, none⟩ = some (.slice A0_4 l0_4.length c0_4) := (blk_cell BK180.out 4).trans rfl
                 have hfz83_0 := blk_frozen BK180.out 0
                 have hfz83_1 := blk_frozen BK180.out 1
                 have hfz83_2 := blk_frozen BK180.out 2
                 have hfz83_3 := blk_frozen BK180.out 3
                 have hfz83_4 := blk_frozen BK180.out 4
                 have p226 : 0 ≤ (x6_2 : Int) := of_decide_eq_true (by assumption)
                 have q226 : x6_2 < (l0_2.length : Int) := of_decide_eq_true (by assumption)
                 obtain ⟨ad226, e226, hx226_0⟩ := Kd.at_string (Kd.C_kept_now HR0_2.out HK.out) x6_2 p226 q226
                 cases e226
                 replace p226 := eq_true p226
                 replace q226 := eq_true q226
                 go_wp2_with (first | (at_builtin; refine M_append_str (w0 := w0) w0.heap.size rfl (.tmp 75) _ 47 9 5 rfl Tryd.underlying47 Tryd.underlying9 info5 u1 x1_50 (((⟨#[34]⟩ : ByteArray) ++ (rdOf ByteArray.empty l0_2 x6_2)) ++ (⟨#[34]⟩ : ByteArray)) (fun k_ => (P1_ k_ ∨ w.heap.size ≤ k_)) rfl rfl ?aF ?aO ?aB ?aS ?aL ?_; (case aB => exact (by repeat (first | (with_reducible first | exact HB.out | apply below_alloc | apply pw_below_drewN | apply below_drew1 | refine below_set ?_ GE180.out) | exact HB.out))); (case aF => exact (fun k_ hk => (.inr (Nat.le_trans (by first | exact HK.out.1 | exact (show Kept w _ (fun k_ => P1_ k_) from by repeat (first | (with_reducible first | exact HK.out | apply Kept.alloc | apply Kept.drewN | apply Kept.drew | refine Kept.setCell ?_ (.inr GW180.out) _) | exact HK.out)).1) hk)))); (case aO => exact (by (with_reducible repeat (first | apply Kd.R_alloc | apply Kd.R_drewN | apply Kd.R_drew)); exact HO_1.out)); (case aS => exact (below_size (by repeat (first | (with_reducible first | exact HB.out | apply below_alloc | apply pw_below_drewN | apply below_drew1 | refine below_set ?_ GE180.out) | exact HB.out)))); (case aL => have := LMc79.out; simp only [ByteArray.size_append, show (⟨#[34]⟩ : ByteArray).size = 1 from rfl]; omega); intro v243 w84 ho hb hg hat; rw [← Ny242.out] at ho; have n0_ := Aside0.mk (blk_grown (g := gb180) (o := .cells #[.int .i64 a0_0, .string a0_1, .slice (some ad226) l0_2.length c0_2, .bool false, .slice A0_4 l0_4.length c0_4] 30 (0, 0)) (by (with_reducible repeat (first | refine blk_drewN ?_ _ | refine blk_drew ?_ | refine blk_alloc ?_ _)); exact BK180.out) hg (Kd.R_ne HO_1.out BK180.out (by decide))); have n1_ := Aside0.mk (hb); have n2_ := Aside0.mk (Kept.of_grown (S := (fun k_ => P1_ k_)) hg (by repeat (first | (with_reducible first | exact HK.out | apply Kept.alloc | apply Kept.drewN | apply Kept.drew | refine Kept.setCell ?_ (.inr GW180.out) _) | exact HK.out)) (fun k_ e_ => (HO_1.out.1 k_ e_))); have n3_ := Aside0.mk (ho); clear BK180; clear HB; clear HK; clear HO_1; have BK180 := n0_; have HB := n1_; have HK := n2_; have HO244 := n3_; clear n0_ n1_ n2_ n3_; clear ho hb hg hat) | ((with_reducible refine gate_dst (N := 78) rfl ?_); refine Kd.R_lit (Kd.int .u8) _ 5 ?hg (N := 78) ?hd (xs := ([58] : List Int)) (inner := [.int .u8 58]) (ok := fun _ => True) (okp := fun _ => True) ?hr ?hp (fun _ hk => hk) trivial (Below.refl _ _) (Nat.le_refl _) (by simp) ?_; (case hd => rfl); (case hg => rfl); (case hr => first | (go_simp; done) | (go_simp; rfl)); (case hp => exact (Reps.one (show Kd.M (Kd.int .u8) _ _ _ 58 [.int .u8 58] from rfl) (Reps.none _ _))); intro v246 w85 ho86 hb hg_ hnew_; clear hg_ hnew_; (first | rw [← Ny245.out] at ho86 | (simp only [Int.reduceToNat] at ho86; rw [← Ny245.out] at ho86)); have n0_ := Aside0.mk (Kd.R_elder' (by (with_reducible repeat (first | apply Kd.R_alloc | apply Kd.R_drewN | apply Kd.R_drew)); exact HO244.out) (Kd.R_base ho86) hb); have n1_ := Aside0.mk (Kd.R_lower (Kd.R_new' (Kd.R_newM (M := fun k_ => (P1_ k_ ∨ w.heap.size ≤ k_)) ho86 (by first | exact HK.out.1 | exact (show Kept w _ (fun k_ => P1_ k_) from by repeat (first | (with_reducible first | exact HK.out | apply Kept.alloc | apply Kept.drewN | apply Kept.drew | refine Kept.setCell ?_ (.inr GW180.out) _) | exact HK.out)).1) (fun k_ h_ => .inr h_)) (Kd.R_lt (by (with_reducible repeat (first | apply Kd.R_alloc | apply Kd.R_drewN | apply Kd.R_drew)); exact HO244.out))) (below_size (by repeat (first | (with_reducible first | exact HB.out | apply below_alloc | apply pw_below_drewN | apply below_drew1 | refine below_set ?_ GE180.out) | exact HB.out)))); have n2_ := Aside0.mk (blk_below (g := gb180) (o := .cells #[.int .i64 a0_0, .string a0_1, .slice (some ad226) l0_2.length c0_2, .bool false, .slice A0_4 l0_4.length c0_4] 30 (0, 0)) (by (with_reducible repeat (first | refine blk_drewN ?_ _ | refine blk_drew ?_ | refine blk_alloc ?_ _)); exact BK180.out) hb); have n3_ := Aside0.mk (Kept.below (S := (fun k_ => P1_ k_)) (by repeat (first | (with_reducible first | exact HK.out | apply Kept.alloc | apply Kept.drewN | apply Kept.drew | refine Kept.setCell ?_ (.inr GW180.out) _) | exact HK.out)) hb); have n4_ := Aside0.mk (below_step (by repeat (first | (with_reducible first | exact HB.out | apply below_alloc | apply pw_below_drewN | apply below_drew1 | refine below_set ?_ GE180.out) | exact HB.out)) hb); clear HO244; clear BK180; clear HK; clear HB; have HO244 := n0_; have HO247 := n1_; have BK180 := n2_; have HK := n3_; have HB := n4_; clear n0_ n1_ n2_ n3_ n4_; clear hb ho86; obtain ⟨Ao88, co88, eo88⟩ := Kd.R_slice HO247.out; subst eo88) | ((with_reducible refine gate_builtin (b := .append) (xs := #[.tmp 77, .tmp 78]) rfl ?_); at_builtin; refine Kd.R_append_rows (Kd.int .u8) (w0 := w0) w0.heap.size rfl (.tmp 77) (.tmp 78) 47 5 (.int .u8 0) 1 rfl Tryd.underlying47 info5 rfl (by decide) (by omega) v243 y242 y245 _ _ _ (fun k_ => (P1_ k_ ∨ w.heap.size ≤ k_) ∧ some k_ ≠ (.slice Ao88 y245.length co88 : Value).ownBlock) (fun _ => False) rfl rfl ?aO ?aR (fun _ _ h => h) (fun _ h => h.elim) ?aF ?aB ?aS ?aL ?_; (case aR => repeat (first | exact (Kd.R_reads' HO247.out).2.2 | (with_reducible refine Kd.C_alloc ?_ _) | (with_reducible refine Kd.C_drewN ?_ _) | (with_reducible refine Kd.C_drew ?_))); (case aB => exact (by repeat (first | (with_reducible first | exact HB.out | apply below_alloc | apply pw_below_drewN | apply below_drew1 | refine below_set ?_ GE180.out) | exact HB.out))); (case aF => exact (fun k_ hk => ⟨(.inr (Nat.le_trans (by first | exact HK.out.1 | exact (show Kept w _ (fun k_ => P1_ k_) from by repeat (first | (with_reducible first | exact HK.out | apply Kept.alloc | apply Kept.drewN | apply Kept.drew | refine Kept.setCell ?_ (.inr GW180.out) _) | exact HK.out)).1) hk)), Kd.fresh' (Kd.R_lt (by (with_reducible repeat (first | apply Kd.R_alloc | apply Kd.R_drewN | apply Kd.R_drew)); exact HO247.out)) k_ hk⟩)); (case aO => exact (by (with_reducible repeat (first | apply Kd.R_alloc | apply Kd.R_drewN | apply Kd.R_drew)); exact HO244.out)); (case aS => exact (below_size (by repeat (first | (with_reducible first | exact HB.out | apply below_alloc | apply pw_below_drewN | apply below_drew1 | refine below_set ?_ GE180.out) | exact HB.out)))); (case aL => have := LMc80.out; omega); intro v249 w87 ho hb hg hat; rw [← Ny248.out] at ho; have n0_ := Aside0.mk (blk_grown (g := gb180) (o := .cells #[.int .i64 a0_0, .string a0_1, .slice (some ad226) l0_2.length c0_2, .bool false, .slice A0_4 l0_4.length c0_4] 30 (0, 0)) (by (with_reducible repeat (first | refine blk_drewN ?_ _ | refine blk_drew ?_ | refine blk_alloc ?_ _)); exact BK180.out) hg (Kd.R_ne HO244.out BK180.out (by decide))); have n1_ := Aside0.mk (Kd.R_after (ok := (fun k_ => (P1_ k_ ∨ w.heap.size ≤ k_))) (by (with_reducible repeat (first | apply Kd.R_alloc | apply Kd.R_drewN | apply Kd.R_drew)); exact Kd.R_mono HO247.out (fun _ hk => ⟨hk.1.1, hk.2⟩)) hg hat); have n2_ := Aside0.mk (hb); have n3_ := Aside0.mk (Kept.of_grown (S := (fun k_ => P1_ k_)) hg (by repeat (first | (with_reducible first | exact HK.out | apply Kept.alloc | apply Kept.drewN | apply Kept.drew | refine Kept.setCell ?_ (.inr GW180.out) _) | exact HK.out)) (fun k_ e_ => (HO244.out.1 k_ e_).1)); have n4_ := Aside0.mk (ho); clear BK180; clear HO247; clear HB; clear HK; clear HO244; have BK180 := n0_; have HO247 := n1_; have HB := n2_; have HK := n3_; have HO250 := n4_; clear n0_ n1_ n2_ n3_ n4_; clear ho hb hg hat; have hcz89_0 : w87.cell? ⟨gb180, 0, none⟩ = some (.int .i64 a0_0) := (blk_cell BK180.out 0).trans rfl; have hcz89_1 : w87.cell? ⟨gb180, 1, none⟩ = some (.string a0_1) := (blk_cell BK180.out 1).trans rfl; have hcz89_2 : w87.cell? ⟨gb180, 2, none⟩ = some (.slice (some ad226) l0_2.length c0_2) := (blk_cell BK180.out 2).trans rfl; have hcz89_3 : w87.cell? ⟨gb180, 3, none⟩ = some (.bool false) := (blk_cell BK180.out 3).trans rfl; have hcz89_4 : w87.cell? ⟨gb180, 4, none⟩ = some (.slice A0_4 l0_4.length c0_4) := (blk_cell BK180.out 4).trans rfl; have hfz89_0 := blk_frozen BK180.out 0; have hfz89_1 := blk_frozen BK180.out 1; have hfz89_2 := blk_frozen BK180.out 2; have hfz89_3 := blk_frozen BK180.out 3; have hfz89_4 := blk_frozen BK180.out 4; have p251 : 0 ≤ (x6_2 : Int) := of_decide_eq_true (by assumption); have q251 : x6_2 < (l0_4.length : Int) := of_decide_eq_true (by assumption); obtain ⟨ad251, A251_2, c251_2, A251_4, c251_4, e251, hx251_0, hx251_1, hx251_2, hx251_3, hx251_4, hl251_2, hi251_2, hl251_4, hi251_4⟩ := at_T30 (Kd.C_kept_now HR0_4.out HK.out) x6_2 p251 q251; cases e251; have HE251_2 := Aside0.mk (at_T30_k2 HR0_4.out HK.out x6_2 p251 q251 rfl hx251_2); have HR251_2 := Aside0.mk hi251_2; have HC251_2 := Aside0.mk hl251_2; clear hi251_2 hl251_2; have HE251_4 := Aside0.mk (at_T30_k4 HR0_4.out HK.out x6_2 p251 q251 rfl hx251_4); have HR251_4 := Aside0.mk hi251_4; have HC251_4 := Aside0.mk hl251_4; clear hi251_4 hl251_4; replace p251 := eq_true p251; replace q251 := eq_true q251; obtain ⟨Ao90, co90, eo90⟩ := Kd.R_slice HO250.out; subst eo90) | ((with_reducible refine gate_callee (f := 29) rfl ?_); refine goesL_ (some 86) rfl rfl Tryd.func29 (by kernel_rfl) rfl #[.agg #[.int .i64 ((rd_T30 l0_4 x6_2).f0), .string ((rd_T30 l0_4 x6_2).f1), .slice A251_2 ((rd_T30 l0_4 x6_2).f2).length c251_2, .bool ((rd_T30 l0_4 x6_2).f3), .slice A251_4 ((rd_T30 l0_4 x6_2).f4).length c251_4], .slice Ao90 y248.length co90] rfl (by (try simp only [List.map_toArray, List.map_cons, List.map_nil]); first | done | rfl | (simp only [List.length_drop, List.length_take]; rfl)) ?_; (with_reducible refine (ih kj50 (by have := HJ40.out; have := HK2.out; have := HJ50.out; omega) ((rd_T30 l0_4 x6_2).f0) ((rd_T30 l0_4 x6_2).f1) _ _ ((rd_T30 l0_4 x6_2).f2) ((rd_T30 l0_4 x6_2).f3) _ _ ((rd_T30 l0_4 x6_2).f4) (fun k_ => some k_ = (.slice Ao90 y248.length co90 : Value).ownBlock) (.slice Ao90 y248.length co90) y248 t252 w0 _ ?side1 ?side2 ?side3 ?side4 ?side5 ?side6 A82.out).mono ?_); (case side1 => repeat (first | (with_reducible first | exact HB.out | apply below_alloc | apply pw_below_drewN | apply below_drew1 | refine below_set ?_ GE180.out) | exact HB.out)); (case side2 => exact Kd.C_kept_call HE251_2.out (by repeat (first | (with_reducible first | exact HK.out | apply Kept.alloc | apply Kept.drewN | apply Kept.drew | refine Kept.setCell ?_ (.inr GW180.out) _) | exact HK.out)) (fun k_ hs_ => (fun e_ => (HO250.out.1 k_ e_.symm).1) hs_)); (case side3 => exact HC251_2.out); (case side4 => exact Kd.C_kept_call HE251_4.out (by repeat (first | (with_reducible first | exact HK.out | apply Kept.alloc | apply Kept.drewN | apply Kept.drew | refine Kept.setCell ?_ (.inr GW180.out) _) | exact HK.out)) (fun k_ hs_ => (fun e_ => (HO250.out.1 k_ e_.symm).1) hs_)); (case side5 => exact HC251_4.out); (case side6 => exact Kd.R_tight rfl HO250.out); rintro e w91 ⟨v253, rfl, ho0, hb, hkp⟩; refine ⟨_, rfl, ?_⟩; have n0_ := Aside0.mk (blk_kept (by (with_reducible repeat (first | refine blk_drewN ?_ _ | refine blk_drew ?_ | refine blk_alloc ?_ _)); exact BK180.out) hkp (fun hs_ => (fun e_ => (Kd.R_ne HO250.out BK180.out (by decide)) e_) hs_)); have n1_ := Aside0.mk (Kd.R_mono (ok' := fun k_ => (P1_ k_ ∨ w.heap.size ≤ k_) ∧ some k_ ≠ (v253 : Value).ownBlock) (Kd.R_keptB (HO247.out) hkp (fun k_ hk_ hs_ => (hk_.2) hs_)) (fun k_ hk_ => ⟨hk_.1.1, fun e_ => Or.elim (ho0.1 k_ e_.symm) (fun hs_ => hk_.2.1 hs_) (fun hn_ => Nat.not_le.2 hk_.2.2 hn_)⟩)); have n2_ := Aside0.mk (Kd.R_mono (ok' := fun k_ => (P1_ k_ ∨ w.heap.size ≤ k_) ∧ some k_ ≠ (.slice Ao88 y245.length co88 : Value).ownBlock) ho0 (fun k_ hk_ => ⟨Or.elim hk_ (fun hs_ => (HO250.out.1 k_ (hs_).symm).1) (fun hn_ => (.inr (Nat.le_trans (by first | exact HK.out.1 | exact (show Kept w _ (fun k_ => P1_ k_) from by repeat (first | (with_reducible first | exact HK.out | apply Kept.alloc | apply Kept.drewN | apply Kept.drew | refine Kept.setCell ?_ (.inr GW180.out) _) | exact HK.out)).1) hn_))), Or.elim hk_ (fun hs_ => fun e_ => (((HO247.out).1 k_ e_.symm).2) hs_) (fun hn_ => (Kd.fresh' (Kd.R_lt (by (with_reducible repeat (first | apply Kd.R_alloc | apply Kd.R_drewN | apply Kd.R_drew)); exact HO247.out)) k_ hn_))⟩)); have n3_ := Aside0.mk (Kept.then_ (S := (fun k_ => P1_ k_)) (by repeat (first | (with_reducible first | exact HK.out | apply Kept.alloc | apply Kept.drewN | apply Kept.drew | refine Kept.setCell ?_ (.inr GW180.out) _) | exact HK.out)) hkp (fun k_ hs_ => (fun e_ => (HO250.out.1 k_ e_.symm).1) hs_)); have n4_ := Aside0.mk (hb); clear BK180; clear HO247; clear HK; clear HB; clear HO250; have BK180 := n0_; have HO247 := n1_; have HO254 := n2_; have HK := n3_; have HB := n4_; clear n0_ n1_ n2_ n3_ n4_; (try clear hb); (try clear hkp); (try clear ho0)))
                 go_roundg kj50
                 case measure => have := HJ40.out; have := HK2.out; have := HJ50.out; omega
                 case rel => exact ⟨(t252), (wrap64 (x6_2 + 1)), (by first | rfl | (simp; done) | (simp [*]; done)), H', ⟨by have := HJ40.out; have := HK2.out; have := HJ50.out; omega⟩, ⟨by (with_reducible repeat (first | apply Kd.R_alloc | apply Kd.R_drewN | apply Kd.R_drew)); exact Kd.R_mono HO254.out (fun _ hk => hk.1)⟩, ⟨by (with_reducible repeat (first | refine blk_drewN ?_ _ | refine blk_drew ?_ | refine blk_alloc ?_ _)); exact BK180.out⟩, ⟨by repeat (first | (with_reducible first | exact HK.out | apply Kept.alloc | apply Kept.drewN | apply Kept.drew | refine Kept.setCell ?_ (.inr GW180.out) _) | exact HK.out)⟩, ⟨by repeat (first | (with_reducible first | exact HB.out | apply below_alloc | apply pw_below_drewN | apply below_drew1 | refine below_set ?_ GE180.out) | exact HB.out)⟩⟩
                rw [if_neg c81] at H
                exact absurd H (by simp)
               rw [if_neg c80] at H
               exact absurd H (by simp)
              rw [if_neg c79] at H
              exact absurd H (by simp)
             rw [if_neg c63] at H
             exact absurd H (by simp)
            rw [if_neg c62] at H
            exact absurd H (by simp)
           rw [if_neg c61] at H
           exact absurd H (by simp)
          rw [if_neg c60] at H
          exact absurd H (by simp)
         rw [if_neg c59] at H
         have c59b0 : (a0_0 == 6) = false := beq_eq_false_iff_ne.mpr c59
         have c59b1 : (a0_0 != 6) = true := bne_iff_ne.mpr c59
         by_cases c92 : 0 ≤ x6_2
         ·rw [if_pos c92] at H
          have c92b0 : decide (0 ≤ x6_2) = true := decide_eq_true c92
          clear c92
          by_cases c93 : x6_2 < (l0_4.length : Int)
          ·rw [if_pos c93] at H
           have c93b0 : decide (x6_2 < (l0_4.length : Int)) = true := decide_eq_true c93
           clear c93
           replace H := Option.bind_eq_some_iff.mp H
           obtain ⟨t256, A940, H⟩ := H
           replace H : (spec_FjVal_textTo.l0 kj50 t256 x5_40 (wrap64 (x6_2 + 1)) a0_0 a0_1 l0_2 a0_3 l0_4) = some r := H
           have A94 := Aside0.mk A940
           clear A940
           have H' := Aside0.mk H
           clear H
           have hcz95_0 : wc.cell? ⟨gb180, 0, none⟩ = some (.int .i64 a0_0) := (blk_cell BK180.out 0).trans rfl
           have hcz95_1 : wc.cell? ⟨gb180, 1, none⟩ = some (.string a0_1) := (blk_cell BK180.out 1).trans rfl
           have hcz95_2 : wc.cell? ⟨gb180, 2, none⟩ = some (.slice A0_2 l0_2.length c0_2) := (blk_cell BK180.out 2).trans rfl
           have hcz95_3 : wc.cell? ⟨gb180, 3, none⟩ = some (.bool a0_3) := (blk_cell BK180.out 3).trans rfl
           have hcz95_4 : wc.cell? ⟨gb180, 4, none⟩ = some (.slice A0_4 l0_4.length c0_4) := (blk_cell BK180.out 4).trans rfl
           have hfz95_0 := blk_frozen BK180.out 0
           have hfz95_1 := blk_frozen BK180.out 1
           have hfz95_2 := blk_frozen BK180.out 2
           have hfz95_3 := blk_frozen BK180.out 3
           have hfz95_4 := blk_frozen BK180.out 4
           have p255 : 0 ≤ (x6_2 : Int) := of_decide_eq_true (by assumption)
           have q255 : x6_2 < (l0_4.length : Int) := of_decide_eq_true (by assumption)
           obtain ⟨ad255, A255_2, c255_2, A255_4, c255_4, e255, hx255_0, hx255_1, hx255_2, hx255_3, hx255_4, hl255_2, hi255_2, hl255_4, hi255_4⟩ := at_T30 (Kd.C_kept_now HR0_4.out HK.out) x6_2 p255 q255
           cases e255
           have HE255_2 := Aside0.mk (at_T30_k2 HR0_4.out HK.out x6_2 p255 q255 rfl hx255_2)
           have HR255_2 := Aside0.mk hi255_2
           have HC255_2 := Aside0.mk hl255_2
           clear hi255_2 hl255_2
           have HE255_4 := Aside0.mk (at_T30_k4 HR0_4.out HK.out x6_2 p255 q255 rfl hx255_4)
           have HR255_4 := Aside0.mk hi255_4
           have HC255_4 := Aside0.mk hl255_4
           clear hi255_4 hl255_4
           replace p255 := eq_true p255
           replace q255 := eq_true q255
           obtain ⟨Ao96, co96, eo96⟩ := Kd.R_slice HO_1.out
           subst eo96
           go_wp2_with (first | ((with_reducible refine gate_callee (f := 29) rfl ?_); refine goesL_ (some 86) rfl rfl Tryd.func29 (by kernel_rfl) rfl #[.agg #[.int .i64 ((rd_T30 l0_4 x6_2).f0), .string ((rd_T30 l0_4 x6_2).f1), .slice A255_2 ((rd_T30 l0_4 x6_2).f2).length c255_2, .bool ((rd_T30 l0_4 x6_2).f3), .slice A255_4 ((rd_T30 l0_4 x6_2).f4).length c255_4], .slice Ao96 x1_50.length co96] rfl (by (try simp only [List.map_toArray, List.map_cons, List.map_nil]); first | done | rfl | (simp only [List.length_drop, List.length_take]; rfl)) ?_; (with_reducible refine (ih kj50 (by have := HJ40.out; have := HK2.out; have := HJ50.out; omega) ((rd_T30 l0_4 x6_2).f0) ((rd_T30 l0_4 x6_2).f1) _ _ ((rd_T30 l0_4 x6_2).f2) ((rd_T30 l0_4 x6_2).f3) _ _ ((rd_T30 l0_4 x6_2).f4) (fun k_ => some k_ = (.slice Ao96 x1_50.length co96 : Value).ownBlock) (.slice Ao96 x1_50.length co96) x1_50 t256 w0 _ ?side1 ?side2 ?side3 ?side4 ?side5 ?side6 A94.out).mono ?_); (case side1 => repeat (first | (with_reducible first | exact HB.out | apply below_alloc | apply pw_below_drewN | apply below_drew1 | refine below_set ?_ GE180.out) | exact HB.out)); (case side2 => exact Kd.C_kept_call HE255_2.out (by repeat (first | (with_reducible first | exact HK.out | apply Kept.alloc | apply Kept.drewN | apply Kept.drew | refine Kept.setCell ?_ (.inr GW180.out) _) | exact HK.out)) (fun k_ hs_ => (fun e_ => (HO_1.out.1 k_ e_.symm)) hs_)); (case side3 => exact HC255_2.out); (case side4 => exact Kd.C_kept_call HE255_4.out (by repeat (first | (with_reducible first | exact HK.out | apply Kept.alloc | apply Kept.drewN | apply Kept.drew | refine Kept.setCell ?_ (.inr GW180.out) _) | exact HK.out)) (fun k_ hs_ => (fun e_ => (HO_1.out.1 k_ e_.symm)) hs_)); (case side5 => exact HC255_4.out); (case side6 => exact Kd.R_tight rfl HO_1.out); rintro e w97 ⟨v257, rfl, ho0, hb, hkp⟩; refine ⟨_, rfl, ?_⟩; have n0_ := Aside0.mk (blk_kept (by (with_reducible repeat (first | refine blk_drewN ?_ _ | refine blk_drew ?_ | refine blk_alloc ?_ _)); exact BK180.out) hkp (fun hs_ => (fun e_ => (Kd.R_ne HO_1.out BK180.out (by decide)) e_) hs_)); have n1_ := Aside0.mk (Kd.R_mono (ok' := fun k_ => (P1_ k_ ∨ w.heap.size ≤ k_)) ho0 (fun k_ hk_ => Or.elim hk_ (fun hs_ => (HO_1.out.1 k_ (hs_).symm)) (fun hn_ => (.inr (Nat.le_trans (by first | exact HK.out.1 | exact (show Kept w _ (fun k_ => P1_ k_) from by repeat (first | (with_reducible first | exact HK.out | apply Kept.alloc | apply Kept.drewN | apply Kept.drew | refine Kept.setCell ?_ (.inr GW180.out) _) | exact HK.out)).1) hn_))))); have n2_ := Aside0.mk (Kept.then_ (S := (fun k_ => P1_ k_)) (by repeat (first | (with_reducible first | exact HK.out | apply Kept.alloc | apply Kept.drewN | apply Kept.drew | refine Kept.setCell ?_ (.inr GW180.out) _) | exact HK.out)) hkp (fun k_ hs_ => (fun e_ => (HO_1.out.1 k_ e_.symm)) hs_)); have n3_ := Aside0.mk (hb); clear BK180; clear HK; clear HB; clear HO_1; have BK180 := n0_; have HO258 := n1_; have HK := n2_; have HB := n3_; clear n0_ n1_ n2_ n3_; (try clear hb); (try clear hkp); (try clear ho0)))
           go_roundg kj50
           case measure => have := HJ40.out; have := HK2.out; have := HJ50.out; omega
           case rel => exact ⟨(t256), (wrap64 (x6_2 + 1)), (by first | rfl | (simp; done) | (simp [*]; done)), H', ⟨by have := HJ40.out; have := HK2.out; have := HJ50.out; omega⟩, ⟨by (with_reducible repeat (first | apply Kd.R_alloc | apply Kd.R_drewN | apply Kd.R_drew)); exact HO258.out⟩, ⟨by (with_reducible repeat (first | refine blk_drewN ?_ _ | refine blk_drew ?_ | refine blk_alloc ?_ _)); exact BK180.out⟩, ⟨by repeat (first | (with_reducible first | exact HK.out | apply Kept.alloc | apply Kept.drewN | apply Kept.drew | refine Kept.setCell ?_ (.inr GW180.out) _) | exact HK.out)⟩, ⟨by repeat (first | (with_reducible first | exact HB.out | apply below_alloc | apply pw_below_drewN | apply below_drew1 | refine below_set ?_ GE180.out) | exact HB.out)⟩⟩
          rw [if_neg c93] at H
          exact absurd H (by simp)
         rw [if_neg c92] at H
         exact absurd H (by simp)
      rw [if_neg c50] at H
      have c50b0 : decide (x6_2 < (l0_4.length : Int)) = false := decide_eq_false c50
      clear c50
      obtain ⟨y214, hy214⟩ : ∃ y_ : List Int, y_ = (([(x5_40 + 2) % 256] : List Int)) := ⟨_, rfl⟩
      replace H : (if x1_2.length + y214.length < 140737488355328 then (some (x1_2 ++ y214)) else (none)) = some r := by first | (rw [hy214]; with_reducible exact H) | (have H2_ := (Option.bind_some _ _).symm.trans H; rw [hy214]; with_reducible exact H2_) | (have H2_ := (Option.bind_some _ _).symm.trans H; with_reducible exact H2_) | with_reducible exact H | (rw [hy214]; exact H) | exact H
      have Ny214 := Aside0.mk hy214
      clear hy214
      by_cases c98 : x1_2.length + y214.length < 140737488355328
      ·rw [if_pos c98] at H
       have LMc98 := Aside0.mk c98
       clear c98
       obtain ⟨y217, hy217⟩ : ∃ y_ : List Int, y_ = (x1_2 ++ y214) := ⟨_, rfl⟩
       replace H : (some y217) = some r := by first | (rw [hy217]; with_reducible exact H) | (have H2_ := (Option.bind_some _ _).symm.trans H; rw [hy217]; with_reducible exact H2_) | (have H2_ := (Option.bind_some _ _).symm.trans H; with_reducible exact H2_) | with_reducible exact H | (rw [hy217]; exact H) | exact H
       have Ny217 := Aside0.mk hy217
       clear hy217
       obtain rfl := Option.some.inj H
       have hcz99_0 : wr.cell? ⟨gb180, 0, none⟩ = some (.int .i64 a0_0) := (blk_cell BK180.out 0).trans rfl
       have hcz99_1 : wr.cell? ⟨gb180, 1, none⟩ = some (.string a0_1) := (blk_cell BK180.out 1).trans rfl
       have hcz99_2 : wr.cell? ⟨gb180, 2, none⟩ = some (.slice A0_2 l0_2.length c0_2) := (blk_cell BK180.out 2).trans rfl
       have hcz99_3 : wr.cell? ⟨gb180, 3, none⟩ = some (.bool a0_3) := (blk_cell BK180.out 3).trans rfl
       have hcz99_4 : wr.cell? ⟨gb180, 4, none⟩ = some (.slice A0_4 l0_4.length c0_4) := (blk_cell BK180.out 4).trans rfl
       have hfz99_0 := blk_frozen BK180.out 0
       have hfz99_1 := blk_frozen BK180.out 1
       have hfz99_2 := blk_frozen BK180.out 2
       have hfz99_3 := blk_frozen BK180.out 3
       have hfz99_4 := blk_frozen BK180.out 4
       go_wp2_with (first | ((with_reducible refine gate_dst (N := 90) rfl ?_); refine Kd.R_lit (Kd.int .u8) _ 5 ?hg (N := 90) ?hd (xs := ([(x5_40 + 2) % 256] : List Int)) (inner := [.int .u8 ((x5_40 + 2) % 256)]) (ok := fun _ => True) (okp := fun _ => True) ?hr ?hp (fun _ hk => hk) trivial (Below.refl _ _) (Nat.le_refl _) (by simp) ?_; (case hd => rfl); (case hg => rfl); (case hr => first | (go_simp; done) | (go_simp; rfl)); (case hp => exact (Reps.one (show Kd.M (Kd.int .u8) _ _ _ ((x5_40 + 2) % 256) [.int .u8 ((x5_40 + 2) % 256)] from rfl) (Reps.none _ _))); intro v215 w100 ho101 hb hg_ hnew_; clear hg_ hnew_; (first | rw [← Ny214.out] at ho101 | (simp only [Int.reduceToNat] at ho101; rw [← Ny214.out] at ho101)); have n0_ := Aside0.mk (Kd.R_elder' (by (with_reducible repeat (first | apply Kd.R_alloc | apply Kd.R_drewN | apply Kd.R_drew)); exact HO_1.out) (Kd.R_base ho101) hb); have n1_ := Aside0.mk (Kd.R_lower (Kd.R_new' (Kd.R_newM (M := fun k_ => (P1_ k_ ∨ w.heap.size ≤ k_)) ho101 (by first | exact HK.out.1 | exact (show Kept w _ (fun k_ => P1_ k_) from by repeat (first | (with_reducible first | exact HK.out | apply Kept.alloc | apply Kept.drewN | apply Kept.drew | refine Kept.setCell ?_ (.inr GW180.out) _) | exact HK.out)).1) (fun k_ h_ => .inr h_)) (Kd.R_lt (by (with_reducible repeat (first | apply Kd.R_alloc | apply Kd.R_drewN | apply Kd.R_drew)); exact HO_1.out))) (below_size (by repeat (first | (with_reducible first | exact HB.out | apply below_alloc | apply pw_below_drewN | apply below_drew1 | refine below_set ?_ GE180.out) | exact HB.out)))); have n2_ := Aside0.mk (blk_below (g := gb180) (o := .cells #[.int .i64 a0_0, .string a0_1, .slice A0_2 l0_2.length c0_2, .bool a0_3, .slice A0_4 l0_4.length c0_4] 30 (0, 0)) (by (with_reducible repeat (first | refine blk_drewN ?_ _ | refine blk_drew ?_ | refine blk_alloc ?_ _)); exact BK180.out) hb); have n3_ := Aside0.mk (Kept.below (S := (fun k_ => P1_ k_)) (by repeat (first | (with_reducible first | exact HK.out | apply Kept.alloc | apply Kept.drewN | apply Kept.drew | refine Kept.setCell ?_ (.inr GW180.out) _) | exact HK.out)) hb); have n4_ := Aside0.mk (below_step (by repeat (first | (with_reducible first | exact HB.out | apply below_alloc | apply pw_below_drewN | apply below_drew1 | refine below_set ?_ GE180.out) | exact HB.out)) hb); clear HO_1; clear BK180; clear HK; clear HB; have HO_1 := n0_; have HO216 := n1_; have BK180 := n2_; have HK := n3_; have HB := n4_; clear n0_ n1_ n2_ n3_ n4_; clear hb ho101; obtain ⟨Ao103, co103, eo103⟩ := Kd.R_slice HO216.out; subst eo103) | ((with_reducible refine gate_builtin (b := .append) (xs := #[.tmp 87, .tmp 90]) rfl ?_); at_builtin; refine Kd.R_append_rows (Kd.int .u8) (w0 := w0) w0.heap.size rfl (.tmp 87) (.tmp 90) 47 5 (.int .u8 0) 1 rfl Tryd.underlying47 info5 rfl (by decide) (by omega) u1 x1_2 y214 _ _ _ (fun k_ => (P1_ k_ ∨ w.heap.size ≤ k_) ∧ some k_ ≠ (.slice Ao103 y214.length co103 : Value).ownBlock) (fun _ => False) rfl rfl ?aO ?aR (fun _ _ h => h) (fun _ h => h.elim) ?aF ?aB ?aS ?aL ?_; (case aR => repeat (first | exact (Kd.R_reads' HO216.out).2.2 | (with_reducible refine Kd.C_alloc ?_ _) | (with_reducible refine Kd.C_drewN ?_ _) | (with_reducible refine Kd.C_drew ?_))); (case aB => exact (by repeat (first | (with_reducible first | exact HB.out | apply below_alloc | apply pw_below_drewN | apply below_drew1 | refine below_set ?_ GE180.out) | exact HB.out))); (case aF => exact (fun k_ hk => ⟨(.inr (Nat.le_trans (by first | exact HK.out.1 | exact (show Kept w _ (fun k_ => P1_ k_) from by repeat (first | (with_reducible first | exact HK.out | apply Kept.alloc | apply Kept.drewN | apply Kept.drew | refine Kept.setCell ?_ (.inr GW180.out) _) | exact HK.out)).1) hk)), Kd.fresh' (Kd.R_lt (by (with_reducible repeat (first | apply Kd.R_alloc | apply Kd.R_drewN | apply Kd.R_drew)); exact HO216.out)) k_ hk⟩)); (case aO => exact (by (with_reducible repeat (first | apply Kd.R_alloc | apply Kd.R_drewN | apply Kd.R_drew)); exact HO_1.out)); (case aS => exact (below_size (by repeat (first | (with_reducible first | exact HB.out | apply below_alloc | apply pw_below_drewN | apply below_drew1 | refine below_set ?_ GE180.out) | exact HB.out)))); (case aL => have := LMc98.out; omega); intro v218 w102 ho hb hg hat; rw [← Ny217.out] at ho; have n0_ := Aside0.mk (blk_grown (g := gb180) (o := .cells #[.int .i64 a0_0, .string a0_1, .slice A0_2 l0_2.length c0_2, .bool a0_3, .slice A0_4 l0_4.length c0_4] 30 (0, 0)) (by (with_reducible repeat (first | refine blk_drewN ?_ _ | refine blk_drew ?_ | refine blk_alloc ?_ _)); exact BK180.out) hg (Kd.R_ne HO_1.out BK180.out (by decide))); have n1_ := Aside0.mk (Kd.R_after (ok := (fun k_ => (P1_ k_ ∨ w.heap.size ≤ k_))) (by (with_reducible repeat (first | apply Kd.R_alloc | apply Kd.R_drewN | apply Kd.R_drew)); exact Kd.R_mono HO216.out (fun _ hk => ⟨hk.1.1, hk.2⟩)) hg hat); have n2_ := Aside0.mk (hb); have n3_ := Aside0.mk (Kept.of_grown (S := (fun k_ => P1_ k_)) hg (by repeat (first | (with_reducible first | exact HK.out | apply Kept.alloc | apply Kept.drewN | apply Kept.drew | refine Kept.setCell ?_ (.inr GW180.out) _) | exact HK.out)) (fun k_ e_ => (HO_1.out.1 k_ e_).1)); have n4_ := Aside0.mk (ho); clear BK180; clear HO216; clear HB; clear HK; clear HO_1; have BK180 := n0_; have HO216 := n1_; have HB := n2_; have HK := n3_; have HO219 := n4_; clear n0_ n1_ n2_ n3_ n4_; clear ho hb hg hat))
       go_ret
       exact ⟨_, by first | rfl | (simp [errW_none, errW_some] <;> rfl) | (simp [*, errW_none, errW_some] <;> rfl) | (simp [errW_none, errW_some] <;> exact ⟨rfl, rfl⟩) | (simp [*, errW_none, errW_some] <;> exact ⟨rfl, rfl⟩), by (with_reducible repeat (first | apply Kd.R_alloc | apply Kd.R_drewN | apply Kd.R_drew)); exact Kd.R_mono HO219.out (fun _ hk => hk.1), by repeat (first | (with_reducible first | exact HB.out | apply below_alloc | apply pw_below_drewN | apply below_drew1 | refine below_set ?_ GE180.out) | exact HB.out), by repeat (first | (with_reducible first | exact HK.out | apply Kept.alloc | apply Kept.drewN | apply Kept.drew | refine Kept.setCell ?_ (.inr GW180.out) _) | exact HK.out)⟩
      rw [if_neg c98] at H
      exact absurd H (by simp)
   rw [if_neg c45] at H
   exact absurd H (by simp)
end Go.Proofs.YtnajijaachgipaaDoor.PR
end
section
namespace Go.Proofs.YtnajijaachgipaaDoor.PR
open Go.RowKit Go.Proofs.YtnajijaachgipaaDoorW.PrintWords Go.Proofs.YtnajijaachgipaaDoorW.PrintLast Go.Proofs.YtnajijaachgipaaDoorW.PrintMore
attribute [local go_sem] max2_int min2_int max_two min_two max_three min_three max_four min_four   -- for this text's walks alone
set_option linter.unusedVariables false
set_option linter.unusedSimpArgs false
/-! ### spec_FjVal_Text: function 13 -/
def spec_FjVal_Text.f (k : Nat) (a0_0 : Int) (a0_1 : ByteArray) (l0_2 : List ByteArray) (a0_3 : Bool) (l0_4 : List (S30)) : Option (ByteArray) := (spec_FjVal_textTo.f k a0_0 a0_1 l0_2 a0_3 l0_4 ([] : List Int)).bind fun t260 => (some (strOfNums t260))
theorem spec_FjVal_Text.mono : ∀ a0 a1 a2 a3 a4 k, LeO (spec_FjVal_Text.f k a0 a1 a2 a3 a4) (spec_FjVal_Text.f (k + 1) a0 a1 a2 a3 a4) := by
 intro a0 a1 a2 a3 a4 k
 unfold spec_FjVal_Text.f
 repeat' first
   | (with_reducible exact spec_FjVal_textTo.mono _ _ _ _ _ _ _)
   | (with_reducible exact LeO.refl _)
   | (with_reducible exact LeO.none _)
   | (with_reducible refine LeO.ite ?_ ?_)
   | (with_reducible refine LeO.bind ?_ (fun _ => ?_))
   | exact spec_FjVal_textTo.mono _ _ _ _ _ _ _
   | exact LeO.none _
   | refine LeO.ite ?_ ?_
   | refine LeO.bind ?_ (fun _ => ?_)
set_option maxHeartbeats 8000000 in
set_option maxRecDepth 100000 in
theorem spec_FjVal_Text.calls (k : Nat) (a0_0 : Int) (a0_1 : ByteArray) (A0_2 : Option Addr) (c0_2 : Nat) (l0_2 : List ByteArray) (a0_3 : Bool) (A0_4 : Option Addr) (c0_4 : Nat) (l0_4 : List (S30)) (r : ByteArray) (w : World) (hr0_2 : Kd.C Kd.string w A0_2 l0_2.length l0_2) (hc0_2 : l0_2.length ≤ c0_2) (hr0_4 : Kd.C k30 w A0_4 l0_4.length l0_4) (hc0_4 : l0_4.length ≤ c0_4) (h : spec_FjVal_Text.f k a0_0 a0_1 l0_2 a0_3 l0_4 = some r) :
  Calls Tryd.prog 13 #[.agg #[.int .i64 a0_0, .string a0_1, .slice A0_2 l0_2.length c0_2, .bool a0_3, .slice A0_4 l0_4.length c0_4]] w fun e w' => e = .returned (.string r) ∧ Below w.heap.size w w' := by
 have hu30 := Tryd.underlying30
 have HR0_2 := Aside0.mk hr0_2
 have HC0_2 := Aside0.mk hc0_2
 clear hr0_2 hc0_2
 have HR0_4 := Aside0.mk hr0_4
 have HC0_4 := Aside0.mk hc0_4
 clear hr0_4 hc0_4
 have HB := Aside0.mk (Below.refl w.heap.size w)
 have H : ((spec_FjVal_textTo.f k a0_0 a0_1 l0_2 a0_3 l0_4 ([] : List Int)).bind fun t260 => (some (strOfNums t260))) = some r := h
 clear h
 replace H := Option.bind_eq_some_iff.mp H
 obtain ⟨t260, A20, H⟩ := H
 replace H : (some (strOfNums t260)) = some r := H
 have A2 := Aside0.mk A20
 clear A20
 obtain rfl := Option.some.inj H
 go_enter Tryd.func13, Tryd.ntmps13
 go_wp2_with (first | ((with_reducible refine gate_dst (N := 1) rfl ?_); refine box_event ?hg (N := 1) ?hd (cs := #[.int .i64 a0_0, .string a0_1, .slice A0_2 l0_2.length c0_2, .bool a0_3, .slice A0_4 l0_4.length c0_4]) (t := 30) ?hr ?_; (case hd => rfl); (case hg => rfl); (case hr => first | (go_simp; done) | (go_simp; rfl)); intro gb259 hg w3 hbox hb; have n0_ := Aside0.mk (below_step (by repeat (first | (with_reducible first | exact HB.out | apply below_alloc | apply pw_below_drewN | apply below_drew1) | exact HB.out)) hb); have n1_ := Aside0.mk (hbox); have n2_ := Aside0.mk ((by rw [hg]; exact (below_size (by repeat (first | (with_reducible first | exact HB.out | apply below_alloc | apply pw_below_drewN | apply below_drew1) | exact HB.out))) : w.heap.size ≤ gb259)); have n3_ := Aside0.mk ((by rw [hg]; exact (below_size (by repeat (first | (with_reducible first | exact HB.out | apply below_alloc | apply pw_below_drewN | apply below_drew1) | exact HB.out))) : w.heap.size ≤ gb259)); clear HB; have HB := n0_; have BK259 := n1_; have GW259 := n2_; have GE259 := n3_; clear n0_ n1_ n2_ n3_; clear hb hbox hg; have hcz4_0 : w3.cell? ⟨gb259, 0, none⟩ = some (.int .i64 a0_0) := (blk_cell BK259.out 0).trans rfl; have hcz4_1 : w3.cell? ⟨gb259, 1, none⟩ = some (.string a0_1) := (blk_cell BK259.out 1).trans rfl; have hcz4_2 : w3.cell? ⟨gb259, 2, none⟩ = some (.slice A0_2 l0_2.length c0_2) := (blk_cell BK259.out 2).trans rfl; have hcz4_3 : w3.cell? ⟨gb259, 3, none⟩ = some (.bool a0_3) := (blk_cell BK259.out 3).trans rfl; have hcz4_4 : w3.cell? ⟨gb259, 4, none⟩ = some (.slice A0_4 l0_4.length c0_4) := (blk_cell BK259.out 4).trans rfl; have hfz4_0 := blk_frozen BK259.out 0; have hfz4_1 := blk_frozen BK259.out 1; have hfz4_2 := blk_frozen BK259.out 2; have hfz4_3 := blk_frozen BK259.out 3; have hfz4_4 := blk_frozen BK259.out 4) | ((with_reducible refine gate_callee (f := 29) rfl ?_); refine goesL_ (some 4) rfl rfl Tryd.func29 (by kernel_rfl) rfl #[.agg #[.int .i64 a0_0, .string a0_1, .slice A0_2 l0_2.length c0_2, .bool a0_3, .slice A0_4 l0_4.length c0_4], .slice none 0 0] rfl (by (try simp only [List.map_toArray, List.map_cons, List.map_nil]); first | done | rfl | (simp only [List.length_drop, List.length_take]; rfl)) ?_; (refine (spec_FjVal_textTo.calls k a0_0 a0_1 _ _ l0_2 a0_3 _ _ l0_4 (fun k_ => some k_ = (.slice none 0 0 : Value).ownBlock) (.slice none 0 0) ([] : List Int) t260 w _ ?side1 ?side2 ?side3 ?side4 ?side5 ?side6 A2.out).mono ?_); (case side1 => repeat (first | (with_reducible first | exact HB.out | apply below_alloc | apply pw_below_drewN | apply below_drew1 | refine below_set ?_ GE259.out) | exact HB.out)); (case side2 => exact Kd.C_kept_came Kd.heap_string HR0_2.out (by repeat (first | (with_reducible first | exact HB.out | apply below_alloc | apply pw_below_drewN | apply below_drew1 | refine below_set ?_ GE259.out) | exact HB.out)) (fun k_ hs_ => (fun e_ => by simp [Value.ownBlock] at e_) hs_)); (case side3 => exact HC0_2.out); (case side4 => exact Kd.C_kept_came k30_heap HR0_4.out (by repeat (first | (with_reducible first | exact HB.out | apply below_alloc | apply pw_below_drewN | apply below_drew1 | refine below_set ?_ GE259.out) | exact HB.out)) (fun k_ hs_ => (fun e_ => by simp [Value.ownBlock] at e_) hs_)); (case side5 => exact HC0_4.out); (case side6 => exact Kd.R_nil _ _ _ _ _); rintro e w5 ⟨v261, rfl, ho0, hb, hkp⟩; refine ⟨_, rfl, ?_⟩; have n0_ := Aside0.mk (blk_kept (by (with_reducible repeat (first | refine blk_drewN ?_ _ | refine blk_drew ?_ | refine blk_alloc ?_ _)); exact BK259.out) hkp (fun hs_ => (fun e_ => by simp [Value.ownBlock] at e_) hs_)); have n1_ := Aside0.mk (Kd.R_mono (ok' := fun k_ => True) ho0 (fun k_ hk_ => trivial)); have n2_ := Aside0.mk (hb); clear BK259; clear HB; have BK259 := n0_; have HO262 := n1_; have HB := n2_; clear n0_ n1_ n2_; (try clear hb); (try clear hkp); (try clear ho0); have hcv6 := own_string (P := Tryd.prog) Tryd.underlying47 Tryd.underlying5 Tryd.underlying9 (Kd.own_of_R HO262.out)))
 go_ret
 exact ⟨by first | rfl | (simp [errW_none, errW_some] <;> rfl) | (simp [*, errW_none, errW_some] <;> rfl) | (simp [errW_none, errW_some] <;> exact ⟨rfl, rfl⟩) | (simp [*, errW_none, errW_some] <;> exact ⟨rfl, rfl⟩), by repeat (first | (with_reducible first | exact HB.out | apply below_alloc | apply pw_below_drewN | apply below_drew1 | refine below_set ?_ GE259.out) | exact HB.out)⟩
end Go.Proofs.YtnajijaachgipaaDoor.PR
end
section
namespace Go.Proofs.YtnajijaachgipaaDoor.PR
open Go.RowKit Go.Proofs.YtnajijaachgipaaDoorW.PrintWords Go.Proofs.YtnajijaachgipaaDoorW.PrintLast Go.Proofs.YtnajijaachgipaaDoorW.PrintMore
attribute [local go_sem] max2_int min2_int max_two min_two max_three min_three max_four min_four   -- for this text's walks alone
set_option linter.unusedVariables false
set_option linter.unusedSimpArgs false
/-! ### laws_FnFjReprintAll: function 4 -/
def laws_FnFjReprintAll.f (k : Nat) (a0 : ByteArray) : Option (Bool) := if (a0.size : Int) > 2147483647 then (some true) else (if (a0.size : Int) > 4000 then (some true) else ((spec_ReadFj.f k a0).bind fun bt263 => ((impl_FjReprint.f k a0).bind fun bt274 => ((impl_FjReprint.f k (⟨#[91, 93]⟩ : ByteArray)).bind fun bt276 => (if bt276.2 = true then (if (bt263.2.2.2.2.2 == bt274.2) = true then (if bt263.2.2.2.2.2 = true then ((spec_FjVal_Text.f k bt263.1 bt263.2.1 bt263.2.2.1 bt263.2.2.2.1 bt263.2.2.2.2.1).bind fun t278 => (some (bt274.1.toList == t278.toList))) else (some true)) else (some false)) else (some false))))))
theorem laws_FnFjReprintAll.mono : ∀ a0 k, LeO (laws_FnFjReprintAll.f k a0) (laws_FnFjReprintAll.f (k + 1) a0) := by
 intro a0 k
 unfold laws_FnFjReprintAll.f
 repeat' first
   | (with_reducible exact impl_FjReprint.mono _ _)
   | (with_reducible exact spec_FjVal_Text.mono _ _ _ _ _ _)
   | (with_reducible exact spec_ReadFj.mono _ _)
   | (with_reducible exact LeO.refl _)
   | (with_reducible exact LeO.none _)
   | (with_reducible refine LeO.ite ?_ ?_)
   | (with_reducible refine LeO.bind ?_ (fun _ => ?_))
   | exact impl_FjReprint.mono _ _
   | exact spec_FjVal_Text.mono _ _ _ _ _ _
   | exact spec_ReadFj.mono _ _
   | exact LeO.none _
   | refine LeO.ite ?_ ?_
   | refine LeO.bind ?_ (fun _ => ?_)
set_option maxHeartbeats 8000000 in
set_option maxRecDepth 100000 in
theorem laws_FnFjReprintAll.calls (k : Nat) (a0 : ByteArray) (r : Bool) (w : World) (h : laws_FnFjReprintAll.f k a0 = some r) :
  Calls Tryd.prog 4 #[.string a0] w fun e w' => e = .returned (.bool r) ∧ Below w.heap.size w w' := by
 have hu30 := Tryd.underlying30
 have HB := Aside0.mk (Below.refl w.heap.size w)
 have H : (if (a0.size : Int) > 2147483647 then (some true) else (if (a0.size : Int) > 4000 then (some true) else ((spec_ReadFj.f k a0).bind fun bt263 => ((impl_FjReprint.f k a0).bind fun bt274 => ((impl_FjReprint.f k (⟨#[91, 93]⟩ : ByteArray)).bind fun bt276 => (if bt276.2 = true then (if (bt263.2.2.2.2.2 == bt274.2) = true then (if bt263.2.2.2.2.2 = true then ((spec_FjVal_Text.f k bt263.1 bt263.2.1 bt263.2.2.1 bt263.2.2.2.1 bt263.2.2.2.2.1).bind fun t278 => (some (bt274.1.toList == t278.toList))) else (some true)) else (some false)) else (some false))))))) = some r := h
 clear h
 by_cases c2 : (a0.size : Int) > 2147483647
 ·rw [if_pos c2] at H
  have c2b0 : decide (2147483647 < (a0.size : Int)) = true := decide_eq_true c2
  have c2b1 : decide (2147483647 < a0.size) = true := decide_eq_true (by omega)
  clear c2
  obtain rfl := Option.some.inj H
  go_enter Tryd.func4, Tryd.ntmps4
  go_wp2
  go_ret
  exact ⟨by first | rfl | (simp [errW_none, errW_some] <;> rfl) | (simp [*, errW_none, errW_some] <;> rfl) | (simp [errW_none, errW_some] <;> exact ⟨rfl, rfl⟩) | (simp [*, errW_none, errW_some] <;> exact ⟨rfl, rfl⟩), by repeat (first | (with_reducible first | exact HB.out | apply below_alloc | apply pw_below_drewN | apply below_drew1) | exact HB.out)⟩
 rw [if_neg c2] at H
 have c2b0 : decide (2147483647 < (a0.size : Int)) = false := decide_eq_false c2
 have c2b1 : decide (2147483647 < a0.size) = false := decide_eq_false (by omega)
 clear c2
 by_cases c3 : (a0.size : Int) > 4000
 ·rw [if_pos c3] at H
  have c3b0 : decide (4000 < (a0.size : Int)) = true := decide_eq_true c3
  have c3b1 : decide (4000 < a0.size) = true := decide_eq_true (by omega)
  clear c3
  obtain rfl := Option.some.inj H
  go_enter Tryd.func4, Tryd.ntmps4
  go_wp2
  go_ret
  exact ⟨by first | rfl | (simp [errW_none, errW_some] <;> rfl) | (simp [*, errW_none, errW_some] <;> rfl) | (simp [errW_none, errW_some] <;> exact ⟨rfl, rfl⟩) | (simp [*, errW_none, errW_some] <;> exact ⟨rfl, rfl⟩), by repeat (first | (with_reducible first | exact HB.out | apply below_alloc | apply pw_below_drewN | apply below_drew1) | exact HB.out)⟩
 rw [if_neg c3] at H
 have c3b0 : decide (4000 < (a0.size : Int)) = false := decide_eq_false c3
 have c3b1 : decide (4000 < a0.size) = false := decide_eq_false (by omega)
 clear c3
 replace H := Option.bind_eq_some_iff.mp H
 obtain ⟨⟨t263, t264, t265, t268, t269, t272⟩, A40, H⟩ := H
 replace H : ((impl_FjReprint.f k a0).bind fun bt274 => ((impl_FjReprint.f k (⟨#[91, 93]⟩ : ByteArray)).bind fun bt276 => (if bt276.2 = true then (if (t272 == bt274.2) = true then (if t272 = true then ((spec_FjVal_Text.f k t263 t264 t265 t268 t269).bind fun t278 => (some (bt274.1.toList == t278.toList))) else (some true)) else (some false)) else (some false)))) = some r := H
 have A4 := Aside0.mk A40
 clear A40
 replace H := Option.bind_eq_some_iff.mp H
 obtain ⟨⟨t274, t275⟩, A50, H⟩ := H
 replace H : ((impl_FjReprint.f k (⟨#[91, 93]⟩ : ByteArray)).bind fun bt276 => (if bt276.2 = true then (if (t272 == t275) = true then (if t272 = true then ((spec_FjVal_Text.f k t263 t264 t265 t268 t269).bind fun t278 => (some (t274.toList == t278.toList))) else (some true)) else (some false)) else (some false))) = some r := H
 have A5 := Aside0.mk A50
 clear A50
 replace H := Option.bind_eq_some_iff.mp H
 obtain ⟨⟨t276, t277⟩, A60, H⟩ := H
 replace H : (if t277 = true then (if (t272 == t275) = true then (if t272 = true then ((spec_FjVal_Text.f k t263 t264 t265 t268 t269).bind fun t278 => (some (t274.toList == t278.toList))) else (some true)) else (some false)) else (some false)) = some r := H
 have A6 := Aside0.mk A60
 clear A60
 by_cases c7 : t277 = true
 ·subst c7
  have H1 : (if (t272 == t275) = true then (if t272 = true then ((spec_FjVal_Text.f k t263 t264 t265 t268 t269).bind fun t278 => (some (t274.toList == t278.toList))) else (some true)) else (some false)) = some r := by rw [if_pos rfl] at H; exact H
  clear H
  have H := H1
  clear H1
  by_cases c8 : (t272 == t275) = true
  ·rw [if_pos c8] at H
   have c8b0 : (t272 == t275) = true := c8
   (try (have c8b1 : decide (t272 = t275) = true := by simpa using c8))
   (try (have c8b2 : (t272 == t275) = true := by simpa using c8))
   clear c8
   by_cases c9 : t272 = true
   ·subst c9
    have H1 : ((spec_FjVal_Text.f k t263 t264 t265 t268 t269).bind fun t278 => (some (t274.toList == t278.toList))) = some r := by rw [if_pos rfl] at H; exact H
    clear H
    have H := H1
    clear H1
    replace H := Option.bind_eq_some_iff.mp H
    obtain ⟨t278, A100, H⟩ := H
    replace H : (some (t274.toList == t278.toList)) = some r := H
    have A10 := Aside0.mk A100
    clear A100
    obtain rfl := Option.some.inj H
    go_enter Tryd.func4, Tryd.ntmps4
    go_wp2_with (first | ((with_reducible refine gate_callee (f := 11) rfl ?_); refine goesL_ (some 17) rfl rfl Tryd.func11 (by kernel_rfl) rfl #[.string a0] rfl (by (try simp only [List.map_toArray, List.map_cons, List.map_nil]); first | done | rfl | (simp only [List.length_drop, List.length_take]; rfl)) ?_; (with_reducible refine (spec_ReadFj.calls k a0 t263 t264 t265 t268 t269 true _ A4.out).mono ?_); rintro e w11 ⟨v266, v270, rfl, ho0, ho1, hb⟩; refine ⟨_, rfl, ?_⟩; have n0_ := Aside0.mk (Kd.R_lower ho0 (below_size (by repeat (first | (with_reducible first | exact HB.out | apply below_alloc | apply pw_below_drewN | apply below_drew1) | exact HB.out)))); have n1_ := Aside0.mk (Kd.R_lower ho1 (below_size (by repeat (first | (with_reducible first | exact HB.out | apply below_alloc | apply pw_below_drewN | apply below_drew1) | exact HB.out)))); have n2_ := Aside0.mk (below_step (by repeat (first | (with_reducible first | exact HB.out | apply below_alloc | apply pw_below_drewN | apply below_drew1) | exact HB.out)) hb); clear HB; have HO267 := n0_; have HO271 := n1_; have HB := n2_; clear n0_ n1_ n2_; (try clear hb); (try clear hb2); (try clear hk); (try clear hi); (try clear ho0); (try clear ho1)) | ((with_reducible refine gate_dst (N := 3) rfl ?_); refine box_event ?hg (N := 3) ?hd (cs := #[.int .i64 0, .string (⟨#[]⟩ : ByteArray), .slice none 0 0, .bool false, .slice none 0 0]) (t := 30) ?hr ?_; (case hd => rfl); (case hg => rfl); (case hr => first | (go_simp; done) | (go_simp; rfl)); intro gb273 hg w12 hbox hb; have n0_ := Aside0.mk (Kd.R_below (by (with_reducible repeat (first | apply Kd.R_alloc | apply Kd.R_drewN | apply Kd.R_drew)); exact HO267.out) hb); have n1_ := Aside0.mk (Kd.R_below (Kd.R_elderB (by (with_reducible repeat (first | apply Kd.R_alloc | apply Kd.R_drewN | apply Kd.R_drew)); exact HO271.out) gb273 (Nat.le_of_eq hg.symm)) hb); have n2_ := Aside0.mk (below_step (by repeat (first | (with_reducible first | exact HB.out | apply below_alloc | apply pw_below_drewN | apply below_drew1) | exact HB.out)) hb); have n3_ := Aside0.mk (hbox); have n4_ := Aside0.mk ((by rw [hg]; exact (below_size (by repeat (first | (with_reducible first | exact HB.out | apply below_alloc | apply pw_below_drewN | apply below_drew1) | exact HB.out))) : w.heap.size ≤ gb273)); have n5_ := Aside0.mk ((by rw [hg]; exact (below_size (by repeat (first | (with_reducible first | exact HB.out | apply below_alloc | apply pw_below_drewN | apply below_drew1) | exact HB.out))) : w.heap.size ≤ gb273)); clear HO267; clear HO271; clear HB; have HO267 := n0_; have HO271 := n1_; have HB := n2_; have BK273 := n3_; have GW273 := n4_; have GE273 := n5_; clear n0_ n1_ n2_ n3_ n4_ n5_; clear hb hbox hg; have hcz13_0 : w12.cell? ⟨gb273, 0, none⟩ = some (.int .i64 0) := (blk_cell BK273.out 0).trans rfl; have hcz13_1 : w12.cell? ⟨gb273, 1, none⟩ = some (.string (⟨#[]⟩ : ByteArray)) := (blk_cell BK273.out 1).trans rfl; have hcz13_2 : w12.cell? ⟨gb273, 2, none⟩ = some (.slice none 0 0) := (blk_cell BK273.out 2).trans rfl; have hcz13_3 : w12.cell? ⟨gb273, 3, none⟩ = some (.bool false) := (blk_cell BK273.out 3).trans rfl; have hcz13_4 : w12.cell? ⟨gb273, 4, none⟩ = some (.slice none 0 0) := (blk_cell BK273.out 4).trans rfl; have hfz13_0 := blk_frozen BK273.out 0; have hfz13_1 := blk_frozen BK273.out 1; have hfz13_2 := blk_frozen BK273.out 2; have hfz13_3 := blk_frozen BK273.out 3; have hfz13_4 := blk_frozen BK273.out 4; obtain ⟨Ao14, co14, eo14⟩ := Kd.R_slice HO267.out; subst eo14; obtain ⟨Ao15, co15, eo15⟩ := Kd.R_slice HO271.out; subst eo15) | ((with_reducible refine gate_callee (f := 12) rfl ?_); refine goesL_ (some 22) rfl rfl Tryd.func12 (by kernel_rfl) rfl #[.string a0] rfl (by (try simp only [List.map_toArray, List.map_cons, List.map_nil]); first | done | rfl | (simp only [List.length_drop, List.length_take]; rfl)) ?_; (with_reducible refine (impl_FjReprint.calls k a0 t274 t275 _ A5.out).mono ?_); rintro e w16 ⟨rfl, hb⟩; refine ⟨_, rfl, ?_⟩; have n0_ := Aside0.mk (Kd.R_below (by (with_reducible repeat (first | apply Kd.R_alloc | apply Kd.R_drewN | apply Kd.R_drew)); exact (Kd.R_mono (Kd.R_far (p := ⟨gb273, 4, none⟩) (Kd.R_far (p := ⟨gb273, 3, none⟩) (Kd.R_far (p := ⟨gb273, 2, none⟩) (Kd.R_far (p := ⟨gb273, 1, none⟩) (Kd.R_far (p := ⟨gb273, 0, none⟩) (Kd.R_types HO267.out BK273.out (by decide)) (fun _ hk => hk.2) (.int .i64 t263)) (fun _ hk => hk.2) (.string t264)) (fun _ hk => hk.2) (.slice Ao14 t265.length co14)) (fun _ hk => hk.2) (.bool t268)) (fun _ hk => hk.2) (.slice Ao15 t269.length co15)) (fun _ h_ => h_.1))) hb); have n1_ := Aside0.mk (Kd.R_below (by (with_reducible repeat (first | apply Kd.R_alloc | apply Kd.R_drewN | apply Kd.R_drew)); exact (Kd.R_mono (Kd.R_far (p := ⟨gb273, 4, none⟩) (Kd.R_far (p := ⟨gb273, 3, none⟩) (Kd.R_far (p := ⟨gb273, 2, none⟩) (Kd.R_far (p := ⟨gb273, 1, none⟩) (Kd.R_far (p := ⟨gb273, 0, none⟩) (Kd.R_mono HO271.out (fun k_ hk => (⟨hk, hk.2⟩ : _ ∧ k_ ≠ gb273))) (fun _ hk => hk.2) (.int .i64 t263)) (fun _ hk => hk.2) (.string t264)) (fun _ hk => hk.2) (.slice Ao14 t265.length co14)) (fun _ hk => hk.2) (.bool t268)) (fun _ hk => hk.2) (.slice Ao15 t269.length co15)) (fun _ h_ => h_.1))) hb); have n2_ := Aside0.mk (blk_below (g := gb273) (o := .cells #[.int .i64 t263, .string t264, .slice Ao14 t265.length co14, .bool t268, .slice Ao15 t269.length co15] 30 (0, 0)) (by (with_reducible repeat (first | refine blk_drewN ?_ _ | refine blk_drew ?_ | refine blk_alloc ?_ _)); refine blk_put (cs := #[.int .i64 t263, .string t264, .slice Ao14 t265.length co14, .bool t268, .slice none 0 0]) ?_ 4 _ rfl; (with_reducible repeat (first | refine blk_drewN ?_ _ | refine blk_drew ?_ | refine blk_alloc ?_ _)); refine blk_put (cs := #[.int .i64 t263, .string t264, .slice Ao14 t265.length co14, .bool false, .slice none 0 0]) ?_ 3 _ rfl; (with_reducible repeat (first | refine blk_drewN ?_ _ | refine blk_drew ?_ | refine blk_alloc ?_ _)); refine blk_put (cs := #[.int .i64 t263, .string t264, .slice none 0 0, .bool false, .slice none 0 0]) ?_ 2 _ rfl; (with_reducible repeat (first | refine blk_drewN ?_ _ | refine blk_drew ?_ | refine blk_alloc ?_ _)); refine blk_put (cs := #[.int .i64 t263, .string (⟨#[]⟩ : ByteArray), .slice none 0 0, .bool false, .slice none 0 0]) ?_ 1 _ rfl; (with_reducible repeat (first | refine blk_drewN ?_ _ | refine blk_drew ?_ | refine blk_alloc ?_ _)); refine blk_put (cs := #[.int .i64 0, .string (⟨#[]⟩ : ByteArray), .slice none 0 0, .bool false, .slice none 0 0]) ?_ 0 _ rfl; (with_reducible repeat (first | refine blk_drewN ?_ _ | refine blk_drew ?_ | refine blk_alloc ?_ _)); exact BK273.out) hb); have n3_ := Aside0.mk (below_step (by repeat (first | (with_reducible first | exact HB.out | apply below_alloc | apply pw_below_drewN | apply below_drew1 | refine below_set ?_ GE273.out) | exact HB.out)) hb); clear HO267; clear HO271; clear BK273; clear HB; have HO267 := n0_; have HO271 := n1_; have BK273 := n2_; have HB := n3_; clear n0_ n1_ n2_ n3_; (try clear hb); (try clear hb2); (try clear hk); (try clear hi)) | ((with_reducible refine gate_callee (f := 12) rfl ?_); refine goesL_ (some 26) rfl rfl Tryd.func12 (by kernel_rfl) rfl #[.string (⟨#[91, 93]⟩ : ByteArray)] rfl (by (try simp only [List.map_toArray, List.map_cons, List.map_nil]); first | done | rfl | (simp only [List.length_drop, List.length_take]; rfl)) ?_; (with_reducible refine (impl_FjReprint.calls k (⟨#[91, 93]⟩ : ByteArray) t276 true _ A6.out).mono ?_); rintro e w17 ⟨rfl, hb⟩; refine ⟨_, rfl, ?_⟩; have n0_ := Aside0.mk (Kd.R_below (by (with_reducible repeat (first | apply Kd.R_alloc | apply Kd.R_drewN | apply Kd.R_drew)); exact HO267.out) hb); have n1_ := Aside0.mk (Kd.R_below (by (with_reducible repeat (first | apply Kd.R_alloc | apply Kd.R_drewN | apply Kd.R_drew)); exact HO271.out) hb); have n2_ := Aside0.mk (blk_below (g := gb273) (o := .cells #[.int .i64 t263, .string t264, .slice Ao14 t265.length co14, .bool t268, .slice Ao15 t269.length co15] 30 (0, 0)) (by (with_reducible repeat (first | refine blk_drewN ?_ _ | refine blk_drew ?_ | refine blk_alloc ?_ _)); exact BK273.out) hb); have n3_ := Aside0.mk (below_step (by repeat (first | (with_reducible first | exact HB.out | apply below_alloc | apply pw_below_drewN | apply below_drew1 | refine below_set ?_ GE273.out) | exact HB.out)) hb); clear HO267; clear HO271; clear BK273; clear HB; have HO267 := n0_; have HO271 := n1_; have BK273 := n2_; have HB := n3_; clear n0_ n1_ n2_ n3_; (try clear hb); (try clear hb2); (try clear hk); (try clear hi); have hcz18_0 : w17.cell? ⟨gb273, 0, none⟩ = some (.int .i64 t263) := (blk_cell BK273.out 0).trans rfl; have hcz18_1 : w17.cell? ⟨gb273, 1, none⟩ = some (.string t264) := (blk_cell BK273.out 1).trans rfl; have hcz18_2 : w17.cell? ⟨gb273, 2, none⟩ = some (.slice Ao14 t265.length co14) := (blk_cell BK273.out 2).trans rfl; have hcz18_3 : w17.cell? ⟨gb273, 3, none⟩ = some (.bool t268) := (blk_cell BK273.out 3).trans rfl; have hcz18_4 : w17.cell? ⟨gb273, 4, none⟩ = some (.slice Ao15 t269.length co15) := (blk_cell BK273.out 4).trans rfl; have hfz18_0 := blk_frozen BK273.out 0; have hfz18_1 := blk_frozen BK273.out 1; have hfz18_2 := blk_frozen BK273.out 2; have hfz18_3 := blk_frozen BK273.out 3; have hfz18_4 := blk_frozen BK273.out 4) | (go_at_call 13; (with_reducible refine (spec_FjVal_Text.calls k t263 t264 _ _ t265 t268 _ _ t269 t278 _ ?side1 ?side2 ?side3 ?side4 A10.out).mono ?_); (case side1 => repeat (first | exact (Kd.R_reads' HO267.out).2.2 | (with_reducible refine Kd.C_alloc ?_ _) | (with_reducible refine Kd.C_drewN ?_ _) | (with_reducible refine Kd.C_drew ?_))); (case side2 => exact (Kd.R_reads' HO267.out).2.1); (case side3 => repeat (first | exact (Kd.R_reads' HO271.out).2.2 | (with_reducible refine Kd.C_alloc ?_ _) | (with_reducible refine Kd.C_drewN ?_ _) | (with_reducible refine Kd.C_drew ?_))); (case side4 => exact (Kd.R_reads' HO271.out).2.1); rintro e w19 ⟨rfl, hb⟩; have n0_ := Aside0.mk (Kd.R_below (by (with_reducible repeat (first | apply Kd.R_alloc | apply Kd.R_drewN | apply Kd.R_drew)); exact HO267.out) hb); have n1_ := Aside0.mk (Kd.R_below (by (with_reducible repeat (first | apply Kd.R_alloc | apply Kd.R_drewN | apply Kd.R_drew)); exact HO271.out) hb); have n2_ := Aside0.mk (blk_below (g := gb273) (o := .cells #[.int .i64 t263, .string t264, .slice Ao14 t265.length co14, .bool t268, .slice Ao15 t269.length co15] 30 (0, 0)) (by (with_reducible repeat (first | refine blk_drewN ?_ _ | refine blk_drew ?_ | refine blk_alloc ?_ _)); exact BK273.out) hb); have n3_ := Aside0.mk (below_step (by repeat (first | (with_reducible first | exact HB.out | apply below_alloc | apply pw_below_drewN | apply below_drew1 | refine below_set ?_ GE273.out) | exact HB.out)) hb); clear HO267; clear HO271; clear BK273; clear HB; have HO267 := n0_; have HO271 := n1_; have BK273 := n2_; have HB := n3_; clear n0_ n1_ n2_ n3_; (try clear hb); (try clear hb2); (try clear hk); (try clear hi)))
    go_ret
    exact ⟨by first | rfl | (simp [errW_none, errW_some] <;> rfl) | (simp [*, errW_none, errW_some] <;> rfl) | (simp [errW_none, errW_some] <;> exact ⟨rfl, rfl⟩) | (simp [*, errW_none, errW_some] <;> exact ⟨rfl, rfl⟩), by repeat (first | (with_reducible first | exact HB.out | apply below_alloc | apply pw_below_drewN | apply below_drew1 | refine below_set ?_ GE273.out) | exact HB.out)⟩
   replace c9 := Bool.eq_false_iff.mpr c9
   subst c9
   have H1 : (some true) = some r := by rw [if_neg (show ¬ (false = true) by decide)] at H; exact H
   clear H
   have H := H1
   clear H1
   obtain rfl := Option.some.inj H
   go_enter Tryd.func4, Tryd.ntmps4
   go_wp2_with (first | ((with_reducible refine gate_callee (f := 11) rfl ?_); refine goesL_ (some 17) rfl rfl Tryd.func11 (by kernel_rfl) rfl #[.string a0] rfl (by (try simp only [List.map_toArray, List.map_cons, List.map_nil]); first | done | rfl | (simp only [List.length_drop, List.length_take]; rfl)) ?_; (with_reducible refine (spec_ReadFj.calls k a0 t263 t264 t265 t268 t269 false _ A4.out).mono ?_); rintro e w20 ⟨v266, v270, rfl, ho0, ho1, hb⟩; refine ⟨_, rfl, ?_⟩; have n0_ := Aside0.mk (Kd.R_lower ho0 (below_size (by repeat (first | (with_reducible first | exact HB.out | apply below_alloc | apply pw_below_drewN | apply below_drew1) | exact HB.out)))); have n1_ := Aside0.mk (Kd.R_lower ho1 (below_size (by repeat (first | (with_reducible first | exact HB.out | apply below_alloc | apply pw_below_drewN | apply below_drew1) | exact HB.out)))); have n2_ := Aside0.mk (below_step (by repeat (first | (with_reducible first | exact HB.out | apply below_alloc | apply pw_below_drewN | apply below_drew1) | exact HB.out)) hb); clear HB; have HO267 := n0_; have HO271 := n1_; have HB := n2_; clear n0_ n1_ n2_; (try clear hb); (try clear hb2); (try clear hk); (try clear hi); (try clear ho0); (try clear ho1)) | ((with_reducible refine gate_dst (N := 3) rfl ?_); refine box_event ?hg (N := 3) ?hd (cs := #[.int .i64 0, .string (⟨#[]⟩ : ByteArray), .slice none 0 0, .bool false, .slice none 0 0]) (t := 30) ?hr ?_; (case hd => rfl); (case hg => rfl); (case hr => first | (go_simp; done) | (go_simp; rfl)); intro gb273 hg w21 hbox hb; have n0_ := Aside0.mk (Kd.R_below (by (with_reducible repeat (first | apply Kd.R_alloc | apply Kd.R_drewN | apply Kd.R_drew)); exact HO267.out) hb); have n1_ := Aside0.mk (Kd.R_below (Kd.R_elderB (by (with_reducible repeat (first | apply Kd.R_alloc | apply Kd.R_drewN | apply Kd.R_drew)); exact HO271.out) gb273 (Nat.le_of_eq hg.symm)) hb); have n2_ := Aside0.mk (below_step (by repeat (first | (with_reducible first | exact HB.out | apply below_alloc | apply pw_below_drewN | apply below_drew1) | exact HB.out)) hb); have n3_ := Aside0.mk (hbox); have n4_ := Aside0.mk ((by rw [hg]; exact (below_size (by repeat (first | (with_reducible first | exact HB.out | apply below_alloc | apply pw_below_drewN | apply below_drew1) | exact HB.out))) : w.heap.size ≤ gb273)); have n5_ := Aside0.mk ((by rw [hg]; exact (below_size (by repeat (first | (with_reducible first | exact HB.out | apply below_alloc | apply pw_below_drewN | apply below_drew1) | exact HB.out))) : w.heap.size ≤ gb273)); clear HO267; clear HO271; clear HB; have HO267 := n0_; have HO271 := n1_; have HB := n2_; have BK273 := n3_; have GW273 := n4_; have GE273 := n5_; clear n0_ n1_ n2_ n3_ n4_ n5_; clear hb hbox hg; have hcz22_0 : w21.cell? ⟨gb273, 0, none⟩ = some (.int .i64 0) := (blk_cell BK273.out 0).trans rfl; have hcz22_1 : w21.cell? ⟨gb273, 1, none⟩ = some (.string (⟨#[]⟩ : ByteArray)) := (blk_cell BK273.out 1).trans rfl; have hcz22_2 : w21.cell? ⟨gb273, 2, none⟩ = some (.slice none 0 0) := (blk_cell BK273.out 2).trans rfl; have hcz22_3 : w21.cell? ⟨gb273, 3, none⟩ = some (.bool false) := (blk_cell BK273.out 3).trans rfl; have hcz22_4 : w21.cell? ⟨gb273, 4, none⟩ = some (.slice none 0 0) := (blk_cell BK273.out 4).trans rfl; have hfz22_0 := blk_frozen BK273.out 0; have hfz22_1 := blk_frozen BK273.out 1; have hfz22_2 := blk_frozen BK273.out 2; have hfz22_3 := blk_frozen BK273.out 3; have hfz22_4 := blk_frozen BK273.out 4; obtain ⟨Ao23, co23, eo23⟩ := Kd.R_slice HO267.out; subst eo23; obtain ⟨Ao24, co24, eo24⟩ := Kd.R_slice HO271.out; subst eo24) | ((with_reducible refine gate_callee (f := 12) rfl ?_); refine goesL_ (some 22) rfl rfl Tryd.func12 (by kernel_rfl) rfl #[.string a0] rfl (by (try simp only [List.map_toArray, List.map_cons, List.map_nil]); first | done | rfl | (simp only [List.length_drop, List.length_take]; rfl)) ?_; (with_reducible refine (impl_FjReprint.calls k a0 t274 t275 _ A5.out).mono ?_); rintro e w25 ⟨rfl, hb⟩; refine ⟨_, rfl, ?_⟩; have n0_ := Aside0.mk (Kd.R_below (by (with_reducible repeat (first | apply Kd.R_alloc | apply Kd.R_drewN | apply Kd.R_drew)); exact (Kd.R_mono (Kd.R_far (p := ⟨gb273, 4, none⟩) (Kd.R_far (p := ⟨gb273, 3, none⟩) (Kd.R_far (p := ⟨gb273, 2, none⟩) (Kd.R_far (p := ⟨gb273, 1, none⟩) (Kd.R_far (p := ⟨gb273, 0, none⟩) (Kd.R_types HO267.out BK273.out (by decide)) (fun _ hk => hk.2) (.int .i64 t263)) (fun _ hk => hk.2) (.string t264)) (fun _ hk => hk.2) (.slice Ao23 t265.length co23)) (fun _ hk => hk.2) (.bool t268)) (fun _ hk => hk.2) (.slice Ao24 t269.length co24)) (fun _ h_ => h_.1))) hb); have n1_ := Aside0.mk (Kd.R_below (by (with_reducible repeat (first | apply Kd.R_alloc | apply Kd.R_drewN | apply Kd.R_drew)); exact (Kd.R_mono (Kd.R_far (p := ⟨gb273, 4, none⟩) (Kd.R_far (p := ⟨gb273, 3, none⟩) (Kd.R_far (p := ⟨gb273, 2, none⟩) (Kd.R_far (p := ⟨gb273, 1, none⟩) (Kd.R_far (p := ⟨gb273, 0, none⟩) (Kd.R_mono HO271.out (fun k_ hk => (⟨hk, hk.2⟩ : _ ∧ k_ ≠ gb273))) (fun _ hk => hk.2) (.int .i64 t263)) (fun _ hk => hk.2) (.string t264)) (fun _ hk => hk.2) (.slice Ao23 t265.length co23)) (fun _ hk => hk.2) (.bool t268)) (fun _ hk => hk.2) (.slice Ao24 t269.length co24)) (fun _ h_ => h_.1))) hb); have n2_ := Aside0.mk (blk_below (g := gb273) (o := .cells #[.int .i64 t263, .string t264, .slice Ao23 t265.length co23, .bool t268, .slice Ao24 t269.length co24] 30 (0, 0)) (by (with_reducible repeat (first | refine blk_drewN ?_ _ | refine blk_drew ?_ | refine blk_alloc ?_ _)); refine blk_put (cs := #[.int .i64 t263, .string t264, .slice Ao23 t265.length co23, .bool t268, .slice none 0 0]) ?_ 4 _ rfl; (with_reducible repeat (first | refine blk_drewN ?_ _ | refine blk_drew ?_ | refine blk_alloc ?_ _)); refine blk_put (cs := #[.int .i64 t263, .string t264, .slice Ao23 t265.length co23, .bool false, .slice none 0 0]) ?_ 3 _ rfl; (with_reducible repeat (first | refine blk_drewN ?_ _ | refine blk_drew ?_ | refine blk_alloc ?_ _)); refine blk_put (cs := #[.int .i64 t263, .string t264, .slice none 0 0, .bool false, .slice none 0 0]) ?_ 2 _ rfl; (with_reducible repeat (first | refine blk_drewN ?_ _ | refine blk_drew ?_ | refine blk_alloc ?_ _)); refine blk_put (cs := #[.int .i64 t263, .string (⟨#[]⟩ : ByteArray), .slice none 0 0, .bool false, .slice none 0 0]) ?_ 1 _ rfl; (with_reducible repeat (first | refine blk_drewN ?_ _ | refine blk_drew ?_ | refine blk_alloc ?_ _)); refine blk_put (cs := #[.int .i64 0, .string (⟨#[]⟩ : ByteArray), .slice none 0 0, .bool false, .slice none 0 0]) ?_ 0 _ rfl; (with_reducible repeat (first | refine blk_drewN ?_ _ | refine blk_drew ?_ | refine blk_alloc ?_ _)); exact BK273.out) hb); have n3_ := Aside0.mk (below_step (by repeat (first | (with_reducible first | exact HB.out | apply below_alloc | apply pw_below_drewN | apply below_drew1 | refine below_set ?_ GE273.out) | exact HB.out)) hb); clear HO267; clear HO271; clear BK273; clear HB; have HO267 := n0_; have HO271 := n1_; have BK273 := n2_; have HB := n3_; clear n0_ n1_ n2_ n3_; (try clear hb); (try clear hb2); (try clear hk); (try clear hi)) | ((with_reducible refine gate_callee (f := 12) rfl ?_); refine goesL_ (some 26) rfl rfl Tryd.func12 (by kernel_rfl) rfl #[.string (⟨#[91, 93]⟩ : ByteArray)] rfl (by (try simp only [List.map_toArray, List.map_cons, List.map_nil]); first | done | rfl | (simp only [List.length_drop, List.length_take]; rfl)) ?_; (with_reducible refine (impl_FjReprint.calls k (⟨#[91, 93]⟩ : ByteArray) t276 true _ A6.out).mono ?_); rintro e w26 ⟨rfl, hb⟩; refine ⟨_, rfl, ?_⟩; have n0_ := Aside0.mk (Kd.R_below (by (with_reducible repeat (first | apply Kd.R_alloc | apply Kd.R_drewN | apply Kd.R_drew)); exact HO267.out) hb); have n1_ := Aside0.mk (Kd.R_below (by (with_reducible repeat (first | apply Kd.R_alloc | apply Kd.R_drewN | apply Kd.R_drew)); exact HO271.out) hb); have n2_ := Aside0.mk (blk_below (g := gb273) (o := .cells #[.int .i64 t263, .string t264, .slice Ao23 t265.length co23, .bool t268, .slice Ao24 t269.length co24] 30 (0, 0)) (by (with_reducible repeat (first | refine blk_drewN ?_ _ | refine blk_drew ?_ | refine blk_alloc ?_ _)); exact BK273.out) hb); have n3_ := Aside0.mk (below_step (by repeat (first | (with_reducible first | exact HB.out | apply below_alloc | apply pw_below_drewN | apply below_drew1 | refine below_set ?_ GE273.out) | exact HB.out)) hb); clear HO267; clear HO271; clear BK273; clear HB; have HO267 := n0_; have HO271 := n1_; have BK273 := n2_; have HB := n3_; clear n0_ n1_ n2_ n3_; (try clear hb); (try clear hb2); (try clear hk); (try clear hi)))
   go_ret
   exact ⟨by first | rfl | (simp [errW_none, errW_some] <;> rfl) | (simp [*, errW_none, errW_some] <;> rfl) | (simp [errW_none, errW_some] <;> exact ⟨rfl, rfl⟩) | (simp [*, errW_none, errW_some] <;> exact ⟨rfl, rfl⟩), by repeat (first | (with_reducible first | exact HB.out | apply below_alloc | apply pw_below_drewN | apply below_drew1 | refine below_set ?_ GE273.out) | exact HB.out)⟩
  rw [if_neg c8] at H
  have c8b0 : (t272 == t275) = false := by simpa using c8
  (try (have c8b1 : decide (t272 = t275) = false := by simpa using c8))
  (try (have c8b2 : (t272 == t275) = false := by simpa using c8))
  (try (have c8b3 : ¬ (t272 = t275) := by simpa using c8))
  clear c8
  obtain rfl := Option.some.inj H
  go_enter Tryd.func4, Tryd.ntmps4
  go_wp2_with (first | ((with_reducible refine gate_callee (f := 11) rfl ?_); refine goesL_ (some 17) rfl rfl Tryd.func11 (by kernel_rfl) rfl #[.string a0] rfl (by (try simp only [List.map_toArray, List.map_cons, List.map_nil]); first | done | rfl | (simp only [List.length_drop, List.length_take]; rfl)) ?_; (with_reducible refine (spec_ReadFj.calls k a0 t263 t264 t265 t268 t269 t272 _ A4.out).mono ?_); rintro e w27 ⟨v266, v270, rfl, ho0, ho1, hb⟩; refine ⟨_, rfl, ?_⟩; have n0_ := Aside0.mk (Kd.R_lower ho0 (below_size (by repeat (first | (with_reducible first | exact HB.out | apply below_alloc | apply pw_below_drewN | apply below_drew1) | exact HB.out)))); have n1_ := Aside0.mk (Kd.R_lower ho1 (below_size (by repeat (first | (with_reducible first | exact HB.out | apply below_alloc | apply pw_below_drewN | apply below_drew1) | exact HB.out)))); have n2_ := Aside0.mk (below_step (by repeat (first | (with_reducible first | exact HB.out | apply below_alloc | apply pw_below_drewN | apply below_drew1) | exact HB.out)) hb); clear HB; have HO267 := n0_; have HO271 := n1_; have HB := n2_; clear n0_ n1_ n2_; (try clear hb); (try clear hb2); (try clear hk); (try clear hi); (try clear ho0); (try clear ho1)) | ((with_reducible refine gate_dst (N := 3) rfl ?_); refine box_event ?hg (N := 3) ?hd (cs := #[.int .i64 0, .string (⟨#[]⟩ : ByteArray), .slice none 0 0, .bool false, .slice none 0 0]) (t := 30) ?hr ?_; (case hd => rfl); (case hg => rfl); (case hr => first | (go_simp; done) | (go_simp; rfl)); intro gb273 hg w28 hbox hb; have n0_ := Aside0.mk (Kd.R_below (by (with_reducible repeat (first | apply Kd.R_alloc | apply Kd.R_drewN | apply Kd.R_drew)); exact HO267.out) hb); have n1_ := Aside0.mk (Kd.R_below (Kd.R_elderB (by (with_reducible repeat (first | apply Kd.R_alloc | apply Kd.R_drewN | apply Kd.R_drew)); exact HO271.out) gb273 (Nat.le_of_eq hg.symm)) hb); have n2_ := Aside0.mk (below_step (by repeat (first | (with_reducible first | exact HB.out | apply below_alloc | apply pw_below_drewN | apply below_drew1) | exact HB.out)) hb); have n3_ := Aside0.mk (hbox); have n4_ := Aside0.mk ((by rw [hg]; exact (below_size (by repeat (first | (with_reducible first | exact HB.out | apply below_alloc | apply pw_below_drewN | apply below_drew1) | exact HB.out))) : w.heap.size ≤ gb273)); have n5_ := Aside0.mk ((by rw [hg]; exact (below_size (by repeat (first | (with_reducible first | exact HB.out | apply below_alloc | apply pw_below_drewN | apply below_drew1) | exact HB.out))) : w.heap.size ≤ gb273)); clear HO267; clear HO271; clear HB; have HO267 := n0_; have HO271 := n1_; have HB := n2_; have BK273 := n3_; have GW273 := n4_; have GE273 := n5_; clear n0_ n1_ n2_ n3_ n4_ n5_; clear hb hbox hg; have hcz29_0 : w28.cell? ⟨gb273, 0, none⟩ = some (.int .i64 0) := (blk_cell BK273.out 0).trans rfl; have hcz29_1 : w28.cell? ⟨gb273, 1, none⟩ = some (.string (⟨#[]⟩ : ByteArray)) := (blk_cell BK273.out 1).trans rfl; have hcz29_2 : w28.cell? ⟨gb273, 2, none⟩ = some (.slice none 0 0) := (blk_cell BK273.out 2).trans rfl; have hcz29_3 : w28.cell? ⟨gb273, 3, none⟩ = some (.bool false) := (blk_cell BK273.out 3).trans rfl; have hcz29_4 : w28.cell? ⟨gb273, 4, none⟩ = some (.slice none 0 0) := (blk_cell BK273.out 4).trans rfl; have hfz29_0 := blk_frozen BK273.out 0; have hfz29_1 := blk_frozen BK273.out 1; have hfz29_2 := blk_frozen BK273.out 2; have hfz29_3 := blk_frozen BK273.out 3; have hfz29_4 := blk_frozen BK273.out 4; obtain ⟨Ao30, co30, eo30⟩ := Kd.R_slice HO267.out; subst eo30; obtain ⟨Ao31, co31, eo31⟩ := Kd.R_slice HO271.out; subst eo31) | ((with_reducible refine gate_callee (f := 12) rfl ?_); refine goesL_ (some 22) rfl rfl Tryd.func12 (by kernel_rfl) rfl #[.string a0] rfl (by (try simp only [List.map_toArray, List.map_cons, List.map_nil]); first | done | rfl | (simp only [List.length_drop, List.length_take]; rfl)) ?_; (with_reducible refine (impl_FjReprint.calls k a0 t274 t275 _ A5.out).mono ?_); rintro e w32 ⟨rfl, hb⟩; refine ⟨_, rfl, ?_⟩; have n0_ := Aside0.mk (Kd.R_below (by (with_reducible repeat (first | apply Kd.R_alloc | apply Kd.R_drewN | apply Kd.R_drew)); exact (Kd.R_mono (Kd.R_far (p := ⟨gb273, 4, none⟩) (Kd.R_far (p := ⟨gb273, 3, none⟩) (Kd.R_far (p := ⟨gb273, 2, none⟩) (Kd.R_far (p := ⟨gb273, 1, none⟩) (Kd.R_far (p := ⟨gb273, 0, none⟩) (Kd.R_types HO267.out BK273.out (by decide)) (fun _ hk => hk.2) (.int .i64 t263)) (fun _ hk => hk.2) (.string t264)) (fun _ hk => hk.2) (.slice Ao30 t265.length co30)) (fun _ hk => hk.2) (.bool t268)) (fun _ hk => hk.2) (.slice Ao31 t269.length co31)) (fun _ h_ => h_.1))) hb); have n1_ := Aside0.mk (Kd.R_below (by (with_reducible repeat (first | apply Kd.R_alloc | apply Kd.R_drewN | apply Kd.R_drew)); exact (Kd.R_mono (Kd.R_far (p := ⟨gb273, 4, none⟩) (Kd.R_far (p := ⟨gb273, 3, none⟩) (Kd.R_far (p := ⟨gb273, 2, none⟩) (Kd.R_far (p := ⟨gb273, 1, none⟩) (Kd.R_far (p := ⟨gb273, 0, none⟩) (Kd.R_mono HO271.out (fun k_ hk => (⟨hk, hk.2⟩ : _ ∧ k_ ≠ gb273))) (fun _ hk => hk.2) (.int .i64 t263)) (fun _ hk => hk.2) (.string t264)) (fun _ hk => hk.2) (.slice Ao30 t265.length co30)) (fun _ hk => hk.2) (.bool t268)) (fun _ hk => hk.2) (.slice Ao31 t269.length co31)) (fun _ h_ => h_.1))) hb); have n2_ := Aside0.mk (blk_below (g := gb273) (o := .cells #[.int .i64 t263, .string t264, .slice Ao30 t265.length co30, .bool t268, .slice Ao31 t269.length co31] 30 (0, 0)) (by (with_reducible repeat (first | refine blk_drewN ?_ _ | refine blk_drew ?_ | refine blk_alloc ?_ _)); refine blk_put (cs := #[.int .i64 t263, .string t264, .slice Ao30 t265.length co30, .bool t268, .slice none 0 0]) ?_ 4 _ rfl; (with_reducible repeat (first | refine blk_drewN ?_ _ | refine blk_drew ?_ | refine blk_alloc ?_ _)); refine blk_put (cs := #[.int .i64 t263, .string t264, .slice Ao30 t265.length co30, .bool false, .slice none 0 0]) ?_ 3 _ rfl; (with_reducible repeat (first | refine blk_drewN ?_ _ | refine blk_drew ?_ | refine blk_alloc ?_ _)); refine blk_put (cs := #[.int .i64 t263, .string t264, .slice none 0 0, .bool false, .slice none 0 0]) ?_ 2 _ rfl; (with_reducible repeat (first | refine blk_drewN ?_ _ | refine blk_drew ?_ | refine blk_alloc ?_ _)); refine blk_put (cs := #[.int .i64 t263, .string (⟨#[]⟩ : ByteArray), .slice none 0 0, .bool false, .slice none 0 0]) ?_ 1 _ rfl; (with_reducible repeat (first | refine blk_drewN ?_ _ | refine blk_drew ?_ | refine blk_alloc ?_ _)); refine blk_put (cs := #[.int .i64 0, .string (⟨#[]⟩ : ByteArray), .slice none 0 0, .bool false, .slice none 0 0]) ?_ 0 _ rfl; (with_reducible repeat (first | refine blk_drewN ?_ _ | refine blk_drew ?_ | refine blk_alloc ?_ _)); exact BK273.out) hb); have n3_ := Aside0.mk (below_step (by repeat (first | (with_reducible first | exact HB.out | apply below_alloc | apply pw_below_drewN | apply below_drew1 | refine below_set ?_ GE273.out) | exact HB.out)) hb); clear HO267; clear HO271; clear BK273; clear HB; have HO267 := n0_; have HO271 := n1_; have BK273 := n2_; have HB := n3_; clear n0_ n1_ n2_ n3_; (try clear hb); (try clear hb2); (try clear hk); (try clear hi)) | ((with_reducible refine gate_callee (f := 12) rfl ?_); refine goesL_ (some 26) rfl rfl Tryd.func12 (by kernel_rfl) rfl #[.string (⟨#[91, 93]⟩ : ByteArray)] rfl (by (try simp only [List.map_toArray, List.map_cons, List.map_nil]); first | done | rfl | (simp only [List.length_drop, List.length_take]; rfl)) ?_; (with_reducible refine (impl_FjReprint.calls k (⟨#[91, 93]⟩ : ByteArray) t276 true _ A6.out).mono ?_); rintro e w33 ⟨rfl, hb⟩; refine ⟨_, rfl, ?_⟩; have n0_ := Aside0.mk (Kd.R_below (by (with_reducible repeat (first | apply Kd.R_alloc | apply Kd.R_drewN | apply Kd.R_drew)); exact HO267.out) hb); have n1_ := Aside0.mk (Kd.R_below (by (with_reducible repeat (first | apply Kd.R_alloc | apply Kd.R_drewN | apply Kd.R_drew)); exact HO271.out) hb); have n2_ := Aside0.mk (blk_below (g := gb273) (o := .cells #[.int .i64 t263, .string t264, .slice Ao30 t265.length co30, .bool t268, .slice Ao31 t269.length co31] 30 (0, 0)) (by (with_reducible repeat (first | refine blk_drewN ?_ _ | refine blk_drew ?_ | refine blk_alloc ?_ _)); exact BK273.out) hb); have n3_ := Aside0.mk (below_step (by repeat (first | (with_reducible first | exact HB.out | apply below_alloc | apply pw_below_drewN | apply below_drew1 | refine below_set ?_ GE273.out) | exact HB.out)) hb); clear HO267; clear HO271; clear BK273; clear HB; have HO267 := n0_; have HO271 := n1_; have BK273 := n2_; have HB := n3_; clear n0_ n1_ n2_ n3_; (try clear hb); (try clear hb2); (try clear hk); (try clear hi)))
  go_ret
  exact ⟨by first | rfl | (simp [errW_none, errW_some] <;> rfl) | (simp [*, errW_none, errW_some] <;> rfl) | (simp [errW_none, errW_some] <;> exact ⟨rfl, rfl⟩) | (simp [*, errW_none, errW_some] <;> exact ⟨rfl, rfl⟩), by repeat (first | (with_reducible first | exact HB.out | apply below_alloc | apply pw_below_drewN | apply below_drew1 | refine below_set ?_ GE273.out) | exact HB.out)⟩
 replace c7 := Bool.eq_false_iff.mpr c7
 subst c7
 have H1 : (some false) = some r := by rw [if_neg (show ¬ (false = true) by decide)] at H; exact H
 clear H
 have H := H1
 clear H1
 obtain rfl := Option.some.inj H
 go_enter Tryd.func4, Tryd.ntmps4
 go_wp2_with (first | ((with_reducible refine gate_callee (f := 11) rfl ?_); refine goesL_ (some 17) rfl rfl Tryd.func11 (by kernel_rfl) rfl #[.string a0] rfl (by (try simp only [List.map_toArray, List.map_cons, List.map_nil]); first | done | rfl | (simp only [List.length_drop, List.length_take]; rfl)) ?_; (with_reducible refine (spec_ReadFj.calls k a0 t263 t264 t265 t268 t269 t272 _ A4.out).mono ?_); rintro e w34 ⟨v266, v270, rfl, ho0, ho1, hb⟩; refine ⟨_, rfl, ?_⟩; have n0_ := Aside0.mk (Kd.R_lower ho0 (below_size (by repeat (first | (with_reducible first | exact HB.out | apply below_alloc | apply pw_below_drewN | apply below_drew1) | exact HB.out)))); have n1_ := Aside0.mk (Kd.R_lower ho1 (below_size (by repeat (first | (with_reducible first | exact HB.out | apply below_alloc | apply pw_below_drewN | apply below_drew1) | exact HB.out)))); have n2_ := Aside0.mk (below_step (by repeat (first | (with_reducible first | exact HB.out | apply below_alloc | apply pw_below_drewN | apply below_drew1) | exact HB.out)) hb); clear HB; have HO267 := n0_; have HO271 := n1_; have HB := n2_; clear n0_ n1_ n2_; (try clear hb); (try clear hb2); (try clear hk); (try clear hi); (try clear ho0); (try clear ho1)) | ((with_reducible refine gate_dst (N := 3) rfl ?_); refine box_event ?hg (N := 3) ?hd (cs := #[.int .i64 0, .string (⟨#[]⟩ : ByteArray), .slice none 0 0, .bool false, .slice none 0 0]) (t := 30) ?hr ?_; (case hd => rfl); (case hg => rfl); (case hr => first | (go_simp; done) | (go_simp; rfl)); intro gb273 hg w35 hbox hb; have n0_ := Aside0.mk (Kd.R_below (by (with_reducible repeat (first | apply Kd.R_alloc | apply Kd.R_drewN | apply Kd.R_drew)); exact HO267.out) hb); have n1_ := Aside0.mk (Kd.R_below (Kd.R_elderB (by (with_reducible repeat (first | apply Kd.R_alloc | apply Kd.R_drewN | apply Kd.R_drew)); exact HO271.out) gb273 (Nat.le_of_eq hg.symm)) hb); have n2_ := Aside0.mk (below_step (by repeat (first | (with_reducible first | exact HB.out | apply below_alloc | apply pw_below_drewN | apply below_drew1) | exact HB.out)) hb); have n3_ := Aside0.mk (hbox); have n4_ := Aside0.mk ((by rw [hg]; exact (below_size (by repeat (first | (with_reducible first | exact HB.out | apply below_alloc | apply pw_below_drewN | apply below_drew1) | exact HB.out))) : w.heap.size ≤ gb273)); have n5_ := Aside0.mk ((by rw [hg]; exact (below_size (by repeat (first | (with_reducible first | exact HB.out | apply below_alloc | apply pw_below_drewN | apply below_drew1) | exact HB.out))) : w.heap.size ≤ gb273)); clear HO267; clear HO271; clear HB; have HO267 := n0_; have HO271 := n1_; have HB := n2_; have BK273 := n3_; have GW273 := n4_; have GE273 := n5_; clear n0_ n1_ n2_ n3_ n4_ n5_; clear hb hbox hg; have hcz36_0 : w35.cell? ⟨gb273, 0, none⟩ = some (.int .i64 0) := (blk_cell BK273.out 0).trans rfl; have hcz36_1 : w35.cell? ⟨gb273, 1, none⟩ = some (.string (⟨#[]⟩ : ByteArray)) := (blk_cell BK273.out 1).trans rfl; have hcz36_2 : w35.cell? ⟨gb273, 2, none⟩ = some (.slice none 0 0) := (blk_cell BK273.out 2).trans rfl; have hcz36_3 : w35.cell? ⟨gb273, 3, none⟩ = some (.bool false) := (blk_cell BK273.out 3).trans rfl; have hcz36_4 : w35.cell? ⟨gb273, 4, none⟩ = some (.slice none 0 0) := (blk_cell BK273.out 4).trans rfl; have hfz36_0 := blk_frozen BK273.out 0; have hfz36_1 := blk_frozen BK273.out 1; have hfz36_2 := blk_frozen BK273.out 2; have hfz36_3 := blk_frozen BK273.out 3; have hfz36_4 := blk_frozen BK273.out 4; obtain ⟨Ao37, co37, eo37⟩ := Kd.R_slice HO267.out; subst eo37; obtain ⟨Ao38, co38, eo38⟩ := Kd.R_slice HO271.out; subst eo38) | ((with_reducible refine gate_callee (f := 12) rfl ?_); refine goesL_ (some 22) rfl rfl Tryd.func12 (by kernel_rfl) rfl #[.string a0] rfl (by (try simp only [List.map_toArray, List.map_cons, List.map_nil]); first | done | rfl | (simp only [List.length_drop, List.length_take]; rfl)) ?_; (with_reducible refine (impl_FjReprint.calls k a0 t274 t275 _ A5.out).mono ?_); rintro e w39 ⟨rfl, hb⟩; refine ⟨_, rfl, ?_⟩; have n0_ := Aside0.mk (Kd.R_below (by (with_reducible repeat (first | apply Kd.R_alloc | apply Kd.R_drewN | apply Kd.R_drew)); exact (Kd.R_mono (Kd.R_far (p := ⟨gb273, 4, none⟩) (Kd.R_far (p := ⟨gb273, 3, none⟩) (Kd.R_far (p := ⟨gb273, 2, none⟩) (Kd.R_far (p := ⟨gb273, 1, none⟩) (Kd.R_far (p := ⟨gb273, 0, none⟩) (Kd.R_types HO267.out BK273.out (by decide)) (fun _ hk => hk.2) (.int .i64 t263)) (fun _ hk => hk.2) (.string t264)) (fun _ hk => hk.2) (.slice Ao37 t265.length co37)) (fun _ hk => hk.2) (.bool t268)) (fun _ hk => hk.2) (.slice Ao38 t269.length co38)) (fun _ h_ => h_.1))) hb); have n1_ := Aside0.mk (Kd.R_below (by (with_reducible repeat (first | apply Kd.R_alloc | apply Kd.R_drewN | apply Kd.R_drew)); exact (Kd.R_mono (Kd.R_far (p := ⟨gb273, 4, none⟩) (Kd.R_far (p := ⟨gb273, 3, none⟩) (Kd.R_far (p := ⟨gb273, 2, none⟩) (Kd.R_far (p := ⟨gb273, 1, none⟩) (Kd.R_far (p := ⟨gb273, 0, none⟩) (Kd.R_mono HO271.out (fun k_ hk => (⟨hk, hk.2⟩ : _ ∧ k_ ≠ gb273))) (fun _ hk => hk.2) (.int .i64 t263)) (fun _ hk => hk.2) (.string t264)) (fun _ hk => hk.2) (.slice Ao37 t265.length co37)) (fun _ hk => hk.2) (.bool t268)) (fun _ hk => hk.2) (.slice Ao38 t269.length co38)) (fun _ h_ => h_.1))) hb); have n2_ := Aside0.mk (blk_below (g := gb273) (o := .cells #[.int .i64 t263, .string t264, .slice Ao37 t265.length co37, .bool t268, .slice Ao38 t269.length co38] 30 (0, 0)) (by (with_reducible repeat (first | refine blk_drewN ?_ _ | refine blk_drew ?_ | refine blk_alloc ?_ _)); refine blk_put (cs := #[.int .i64 t263, .string t264, .slice Ao37 t265.length co37, .bool t268, .slice none 0 0]) ?_ 4 _ rfl; (with_reducible repeat (first | refine blk_drewN ?_ _ | refine blk_drew ?_ | refine blk_alloc ?_ _)); refine blk_put (cs := #[.int .i64 t263, .string t264, .slice Ao37 t265.length co37, .bool false, .slice none 0 0]) ?_ 3 _ rfl; (with_reducible repeat (first | refine blk_drewN ?_ _ | refine blk_drew ?_ | refine blk_alloc ?_ _)); refine blk_put (cs := #[.int .i64 t263, .string t264, .slice none 0 0, .bool false, .slice none 0 0]) ?_ 2 _ rfl; (with_reducible repeat (first | refine blk_drewN ?_ _ | refine blk_drew ?_ | refine blk_alloc ?_ _)); refine blk_put (cs := #[.int .i64 t263, .string (⟨#[]⟩ : ByteArray), .slice none 0 0, .bool false, .slice none 0 0]) ?_ 1 _ rfl; (with_reducible repeat (first | refine blk_drewN ?_ _ | refine blk_drew ?_ | refine blk_alloc ?_ _)); refine blk_put (cs := #[.int .i64 0, .string (⟨#[]⟩ : ByteArray), .slice none 0 0, .bool false, .slice none 0 0]) ?_ 0 _ rfl; (with_reducible repeat (first | refine blk_drewN ?_ _ | refine blk_drew ?_ | refine blk_alloc ?_ _)); exact BK273.out) hb); have n3_ := Aside0.mk (below_step (by repeat (first | (with_reducible first | exact HB.out | apply below_alloc | apply pw_below_drewN | apply below_drew1 | refine below_set ?_ GE273.out) | exact HB.out)) hb); clear HO267; clear HO271; clear BK273; clear HB; have HO267 := n0_; have HO271 := n1_; have BK273 := n2_; have HB := n3_; clear n0_ n1_ n2_ n3_; (try clear hb); (try clear hb2); (try clear hk); (try clear hi)) | ((with_reducible refine gate_callee (f := 12) rfl ?_); refine goesL_ (some 26) rfl rfl Tryd.func12 (by kernel_rfl) rfl #[.string (⟨#[91, 93]⟩ : ByteArray)] rfl (by (try simp only [List.map_toArray, List.map_cons, List.map_nil]); first | done | rfl | (simp only [List.length_drop, List.length_take]; rfl)) ?_; (with_reducible refine (impl_FjReprint.calls k (⟨#[91, 93]⟩ : ByteArray) t276 false _ A6.out).mono ?_); rintro e w40 ⟨rfl, hb⟩; refine ⟨_, rfl, ?_⟩; have n0_ := Aside0.mk (Kd.R_below (by (with_reducible repeat (first | apply Kd.R_alloc | apply Kd.R_drewN | apply Kd.R_drew)); exact HO267.out) hb); have n1_ := Aside0.mk (Kd.R_below (by (with_reducible repeat (first | apply Kd.R_alloc | apply Kd.R_drewN | apply Kd.R_drew)); exact HO271.out) hb); have n2_ := Aside0.mk (blk_below (g := gb273) (o := .cells #[.int .i64 t263, .string t264, .slice Ao37 t265.length co37, .bool t268, .slice Ao38 t269.length co38] 30 (0, 0)) (by (with_reducible repeat (first | refine blk_drewN ?_ _ | refine blk_drew ?_ | refine blk_alloc ?_ _)); exact BK273.out) hb); have n3_ := Aside0.mk (below_step (by repeat (first | (with_reducible first | exact HB.out | apply below_alloc | apply pw_below_drewN | apply below_drew1 | refine below_set ?_ GE273.out) | exact HB.out)) hb); clear HO267; clear HO271; clear BK273; clear HB; have HO267 := n0_; have HO271 := n1_; have BK273 := n2_; have HB := n3_; clear n0_ n1_ n2_ n3_; (try clear hb); (try clear hb2); (try clear hk); (try clear hi)))
 go_ret
 exact ⟨by first | rfl | (simp [errW_none, errW_some] <;> rfl) | (simp [*, errW_none, errW_some] <;> rfl) | (simp [errW_none, errW_some] <;> exact ⟨rfl, rfl⟩) | (simp [*, errW_none, errW_some] <;> exact ⟨rfl, rfl⟩), by repeat (first | (with_reducible first | exact HB.out | apply below_alloc | apply pw_below_drewN | apply below_drew1 | refine below_set ?_ GE273.out) | exact HB.out)⟩
/-- THE ONE PURE STATEMENT of laws_FnFjReprintAll: yours. -/
def laws_FnFjReprintAll.Pure : Prop := ∀ (a0 : ByteArray), a0.size ≤ 140737488351232 → ∃ k, laws_FnFjReprintAll.f k a0 = some true
end Go.Proofs.YtnajijaachgipaaDoor.PR
end
