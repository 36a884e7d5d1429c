-- Written by a program of this session out of the translation (a changed copy of the kit's print); Lean checks it.
import Derived.Test.YtfpbbnllaogclaaDoorPJx0
import Derived.Test.YtfpbbnllaogclaaDoorPJx8
import Derived.Test.YtfpbbnllaogclaaDoorPJx9
import Derived.Test.YtfpbbnllaogclaaDoorPJx12
namespace Go.Proofs.YtfpbbnllaogclaaDoor.PJ
open Go.RowKit Go.Proofs.YtfpbbnllaogclaaDoorW.PrintWords Go.Proofs.YtfpbbnllaogclaaDoorW.PrintLast Go.Proofs.YtfpbbnllaogclaaDoorW.PrintMore
attribute [local go_sem] max2_int min2_int max_two min_two max_three min_three max_four min_four   -- for this text's walks alone
set_option linter.unusedVariables false
set_option linter.unusedSimpArgs false

/-! ### spec_Unescape: function 24 -/
def spec_Unescape.l0 : Nat → ByteArray → Int → Option (ByteArray × Bool)
  | 0, _, _ => none
  | k + 1, x0, x4 => if x4 < (x0.size : Int) then (if 0 ≤ x4 then (if (bt x0 x4) = 92 then ((spec_reader_escape.f k x0 (wrap64 (x4 + 1))).bind fun bt174 => (if bt174.1 = true then (spec_Unescape.l0 k x0 (wrap64 ((wrap64 (bt174.2.2 - 1)) + 1))) else (some ((⟨#[]⟩ : ByteArray), false)))) else (spec_Unescape.l0 k x0 (wrap64 (x4 + 1)))) else (none)) else (if 1 + x0.size ≤ 9223372036854775807 then (if 1 + x0.size + 1 ≤ 9223372036854775807 then ((spec_Unquote.f k (((⟨#[34]⟩ : ByteArray) ++ x0) ++ (⟨#[34]⟩ : ByteArray))).bind fun t172 => (some (t172, true))) else (none)) else (none))
def spec_Unescape.f (k : Nat) (a0 : ByteArray) : Option (ByteArray × Bool) := spec_Unescape.l0 k a0 0
theorem spec_Unescape.mono_l : ∀ k, (∀ y0 y1, LeO (spec_Unescape.l0 k y0 y1) (spec_Unescape.l0 (k + 1) y0 y1))
  | 0 => fun _ _ r h => by simp [spec_Unescape.l0] at h
  | k + 1 => by
    have ih0 := spec_Unescape.mono_l k
    · intro y0 y1
      unfold spec_Unescape.l0
      repeat' first
      | (with_reducible exact ih0 _ _)
      | (with_reducible exact spec_Unquote.mono _ _)
      | (with_reducible exact spec_reader_escape.mono _ _ _)
      | (with_reducible exact LeO.refl _)
      | (with_reducible exact LeO.none _)
      | (with_reducible refine LeO.ite ?_ ?_)
      | (with_reducible refine LeO.bind ?_ (fun _ => ?_))
      | exact ih0 _ _
      | exact spec_Unquote.mono _ _
      | exact spec_reader_escape.mono _ _ _
      | exact LeO.none _
      | refine LeO.ite ?_ ?_
      | refine LeO.bind ?_ (fun _ => ?_)
theorem spec_Unescape.mono : ∀ a0 k, LeO (spec_Unescape.f k a0) (spec_Unescape.f (k + 1) a0) := by
  intro a0 k
  have ih0 := spec_Unescape.mono_l k
  unfold spec_Unescape.f
  repeat' first
      | (with_reducible exact ih0 _ _)
      | (with_reducible exact spec_Unquote.mono _ _)
      | (with_reducible exact spec_reader_escape.mono _ _ _)
      | (with_reducible exact LeO.refl _)
      | (with_reducible exact LeO.none _)
      | (with_reducible refine LeO.ite ?_ ?_)
      | (with_reducible refine LeO.bind ?_ (fun _ => ?_))
      | exact ih0 _ _
      | exact spec_Unquote.mono _ _
      | exact spec_reader_escape.mono _ _ _
      | exact LeO.none _
      | refine LeO.ite ?_ ?_
      | refine LeO.bind ?_ (fun _ => ?_)
set_option maxHeartbeats 8000000 in
set_option maxRecDepth 100000 in
theorem spec_Unescape.calls (k : Nat) (a0 : ByteArray) (r1 : ByteArray) (r2 : Bool) (w : World) (h : spec_Unescape.f k a0 = some (r1, r2)) :
    Calls Tryd.prog 24 #[.string a0] w fun e w' => e = .returned (.tuple #[.string r1, .bool r2]) ∧ Below w.heap.size w w' := by
  have hu70 := Tryd.underlying70
  have HB := Aside0.mk (Below.refl w.heap.size w)
  have H : (spec_Unescape.l0 k a0 0) = some (r1, r2) := h
  clear h
  have H' := Aside0.mk H
  clear H
  go_enter Tryd.func24, Tryd.ntmps24
  go_wp2
  try simp only [Act.put, List.setIfInBounds_toArray, List.set_cons_succ, List.set_cons_zero]
  go_loopg [4] k (fun kq v4 w' => ∃ (x4_1 : Int), v4 = .int .i64 x4_1 ∧ Aside0 (spec_Unescape.l0 kq a0 x4_1 = some (r1, r2)) ∧ Aside0 (kq ≤ k) ∧ Aside0 (Below w.heap.size w w'))
  case atStart => exact ⟨(0), (by first | rfl | (simp; done) | (simp [*]; done)), H', ⟨Nat.le_refl _⟩, ⟨by repeat (first | (with_reducible first | exact HB.out | apply below_alloc | apply pw_below_drewN | apply below_drew1) | exact HB.out)⟩⟩
  case round =>
    clear H'
    obtain ⟨x4_1, rfl, HA, HK1, HB⟩ := hrel
    cases gk with
    | zero => exact absurd HA.out (by simp [spec_Unescape.l0])
    | succ k1 =>
      have H := HA.out
      clear HA
      simp only [spec_Unescape.l0] at H
      by_cases c2 : x4_1 < (a0.size : Int)
      · rw [if_pos c2] at H
        have c2b0 : decide (x4_1 < (a0.size : Int)) = true := decide_eq_true c2
        clear c2
        by_cases c3 : 0 ≤ x4_1
        · rw [if_pos c3] at H
          have c3b0 : decide (0 ≤ x4_1) = true := decide_eq_true c3
          clear c3
          by_cases c5 : (bt a0 x4_1) = 92
          · rw [if_pos c5] at H
            have c5b0 : ((bt a0 x4_1) == 92) = true := beq_iff_eq.mpr c5
            have c5b1 : ((bt a0 x4_1) != 92) = false := bne_eq_false_iff_eq.mpr c5
            clear c5
            replace H := Option.bind_eq_some_iff.mp H
            obtain ⟨⟨t174, t175, t176⟩, A60, H⟩ := H
            replace H : (if t174 = true then (spec_Unescape.l0 k1 a0 (wrap64 ((wrap64 (t176 - 1)) + 1))) else (some ((⟨#[]⟩ : ByteArray), false))) = some (r1, r2) := H
            have A6 := Aside0.mk A60
            clear A60
            by_cases c7 : t174 = true
            · subst c7
              have H1 : (spec_Unescape.l0 k1 a0 (wrap64 ((wrap64 (t176 - 1)) + 1))) = some (r1, r2) := by rw [if_pos rfl] at H; exact H
              clear H
              have H := H1
              clear H1
              have H' := Aside0.mk H
              clear H
              have p4 : 0 ≤ (x4_1 : Int) := of_decide_eq_true (by first | (with_reducible assumption) | assumption)
              have q4 : x4_1 < (a0.size : Int) := of_decide_eq_true (by first | (with_reducible assumption) | assumption)
              have hx4 := bt_at a0 x4_1
              replace p4 := eq_true p4
              replace q4 := eq_true q4
              go_wp2_with (first | ((with_reducible refine gate_dst (N := 5) rfl ?_); refine box_event ?hg (N := 5) ?hd (cs := #[.string (⟨#[]⟩ : ByteArray), .int .i64 0]) (t := 70) ?hr ?_; (case hd => rfl); (case hg => rfl); (case hr => first | (go_simp; done) | (go_simp; rfl)); intro gb173 hg w8 hbox hb; have n0_ := Aside0.mk (below_step (by repeat (first | (with_reducible first | exact HB.out | apply below_alloc | apply pw_below_drewN | apply below_drew1) | exact HB.out)) hb); have n1_ := Aside0.mk ((by rw [hg]; exact (below_size (by repeat (first | (with_reducible first | exact HB.out | apply below_alloc | apply pw_below_drewN | apply below_drew1) | exact HB.out))) : w.heap.size ≤ gb173)); have n2_ := Aside0.mk ((by rw [hg]; exact (below_size (by repeat (first | (with_reducible first | exact HB.out | apply below_alloc | apply pw_below_drewN | apply below_drew1) | exact HB.out))) : w.heap.size ≤ gb173)); have n3_ := Aside0.mk ((show IsS70 w w8 gb173 (⟨#[]⟩ : ByteArray) 0 from ⟨hbox, by rw [hg]; exact (below_size (by repeat (first | (with_reducible first | exact HB.out | apply below_alloc | apply pw_below_drewN | apply below_drew1) | exact HB.out)))⟩)); clear HB; have HB := n0_; have GW173 := n1_; have GE173 := n2_; have HI173 := n3_; clear n0_ n1_ n2_ n3_; clear hb hbox hg; obtain ⟨HGz9, hgz9⟩ := HI173.out; have hcz9_0 := cellS70_0 HGz9; have hcz9_1 := cellS70_1 HGz9; have hfz9_0 := blk_frozen HGz9 0; have hfz9_1 := blk_frozen HGz9 1; clear HGz9 hgz9) | ((with_reducible refine gate_callee (f := 45) rfl ?_); refine goesL_ (some 20) rfl rfl Tryd.func45 (by kernel_rfl) rfl #[.pointer (some ⟨gb173, 0, none⟩)] rfl (by (try simp only [List.map_toArray, List.map_cons, List.map_nil]); first | done | rfl | (simp only [List.length_drop, List.length_take]; rfl)) ?_; (with_reducible refine (spec_reader_escape.calls k1 gb173 a0 (wrap64 (x4_1 + 1)) true t175 t176 w _ ?side1 ?side2 A6.out).mono ?_); (case side1 => repeat (first | (with_reducible first | exact HI173.out | apply IsS70.alloc | apply IsS70.drewN | apply IsS70.drew | apply IsS70.set_0 | apply IsS70.set_1) | exact HI173.out)); (case side2 => repeat (first | (with_reducible first | exact HB.out | apply below_alloc | apply pw_below_drewN | apply below_drew1 | refine below_set ?_ (IsS70.ge HI173.out)) | exact HB.out)); rintro e w10 ⟨rfl, hi, hb, hk⟩; refine ⟨_, rfl, ?_⟩; have n0_ := Aside0.mk (hb); have n1_ := Aside0.mk (hi); clear HB; clear HI173; have HB := n0_; have HI173 := n1_; clear n0_ n1_; (try clear hb); (try clear hb2); (try clear hk); (try clear hi); obtain ⟨HGz11, hgz11⟩ := HI173.out; have hcz11_0 := cellS70_0 HGz11; have hcz11_1 := cellS70_1 HGz11; have hfz11_0 := blk_frozen HGz11 0; have hfz11_1 := blk_frozen HGz11 1; clear HGz11 hgz11))
              go_roundg k1
              case measure => have := HK1.out; omega
              case rel => exact ⟨(wrap64 ((wrap64 (t176 - 1)) + 1)), (by first | rfl | (simp; done) | (simp [*]; done)), H', ⟨by have := HK1.out; omega⟩, ⟨by repeat (first | (with_reducible first | exact HB.out | apply below_alloc | apply pw_below_drewN | apply below_drew1 | refine below_set ?_ (IsS70.ge HI173.out)) | exact HB.out)⟩⟩
            · replace c7 := Bool.eq_false_iff.mpr c7
              subst c7
              have H1 : (some ((⟨#[]⟩ : ByteArray), false)) = some (r1, r2) := by rw [if_neg (show ¬ (false = true) by decide)] at H; exact H
              clear H
              have H := H1
              clear H1
              simp only [Option.some.injEq, Prod.mk.injEq] at H
              obtain ⟨rfl, rfl⟩ := H
              have p4 : 0 ≤ (x4_1 : Int) := of_decide_eq_true (by first | (with_reducible assumption) | assumption)
              have q4 : x4_1 < (a0.size : Int) := of_decide_eq_true (by first | (with_reducible assumption) | assumption)
              have hx4 := bt_at a0 x4_1
              replace p4 := eq_true p4
              replace q4 := eq_true q4
              go_wp2_with (first | ((with_reducible refine gate_dst (N := 5) rfl ?_); refine box_event ?hg (N := 5) ?hd (cs := #[.string (⟨#[]⟩ : ByteArray), .int .i64 0]) (t := 70) ?hr ?_; (case hd => rfl); (case hg => rfl); (case hr => first | (go_simp; done) | (go_simp; rfl)); intro gb173 hg w12 hbox hb; have n0_ := Aside0.mk (below_step (by repeat (first | (with_reducible first | exact HB.out | apply below_alloc | apply pw_below_drewN | apply below_drew1) | exact HB.out)) hb); have n1_ := Aside0.mk ((by rw [hg]; exact (below_size (by repeat (first | (with_reducible first | exact HB.out | apply below_alloc | apply pw_below_drewN | apply below_drew1) | exact HB.out))) : w.heap.size ≤ gb173)); have n2_ := Aside0.mk ((by rw [hg]; exact (below_size (by repeat (first | (with_reducible first | exact HB.out | apply below_alloc | apply pw_below_drewN | apply below_drew1) | exact HB.out))) : w.heap.size ≤ gb173)); have n3_ := Aside0.mk ((show IsS70 w w12 gb173 (⟨#[]⟩ : ByteArray) 0 from ⟨hbox, by rw [hg]; exact (below_size (by repeat (first | (with_reducible first | exact HB.out | apply below_alloc | apply pw_below_drewN | apply below_drew1) | exact HB.out)))⟩)); clear HB; have HB := n0_; have GW173 := n1_; have GE173 := n2_; have HI173 := n3_; clear n0_ n1_ n2_ n3_; clear hb hbox hg; obtain ⟨HGz13, hgz13⟩ := HI173.out; have hcz13_0 := cellS70_0 HGz13; have hcz13_1 := cellS70_1 HGz13; have hfz13_0 := blk_frozen HGz13 0; have hfz13_1 := blk_frozen HGz13 1; clear HGz13 hgz13) | ((with_reducible refine gate_callee (f := 45) rfl ?_); refine goesL_ (some 20) rfl rfl Tryd.func45 (by kernel_rfl) rfl #[.pointer (some ⟨gb173, 0, none⟩)] rfl (by (try simp only [List.map_toArray, List.map_cons, List.map_nil]); first | done | rfl | (simp only [List.length_drop, List.length_take]; rfl)) ?_; (with_reducible refine (spec_reader_escape.calls k1 gb173 a0 (wrap64 (x4_1 + 1)) false t175 t176 w _ ?side1 ?side2 A6.out).mono ?_); (case side1 => repeat (first | (with_reducible first | exact HI173.out | apply IsS70.alloc | apply IsS70.drewN | apply IsS70.drew | apply IsS70.set_0 | apply IsS70.set_1) | exact HI173.out)); (case side2 => repeat (first | (with_reducible first | exact HB.out | apply below_alloc | apply pw_below_drewN | apply below_drew1 | refine below_set ?_ (IsS70.ge HI173.out)) | exact HB.out)); rintro e w14 ⟨rfl, hi, hb, hk⟩; refine ⟨_, rfl, ?_⟩; have n0_ := Aside0.mk (hb); have n1_ := Aside0.mk (hi); clear HB; clear HI173; have HB := n0_; have HI173 := n1_; clear n0_ n1_; (try clear hb); (try clear hb2); (try clear hk); (try clear hi)))
              go_ret2
              exact ⟨by first | rfl | (simp [errW_none, errW_some] <;> rfl) | (simp [*, errW_none, errW_some] <;> rfl), by repeat (first | (with_reducible first | exact HB.out | apply below_alloc | apply pw_below_drewN | apply below_drew1 | refine below_set ?_ (IsS70.ge HI173.out)) | exact HB.out)⟩
          · rw [if_neg c5] at H
            have c5b0 : ((bt a0 x4_1) == 92) = false := beq_eq_false_iff_ne.mpr c5
            have c5b1 : ((bt a0 x4_1) != 92) = true := bne_iff_ne.mpr c5
            have H' := Aside0.mk H
            clear H
            have p4 : 0 ≤ (x4_1 : Int) := of_decide_eq_true (by first | (with_reducible assumption) | assumption)
            have q4 : x4_1 < (a0.size : Int) := of_decide_eq_true (by first | (with_reducible assumption) | assumption)
            have hx4 := bt_at a0 x4_1
            replace p4 := eq_true p4
            replace q4 := eq_true q4
            go_wp2
            go_roundg k1
            case measure => have := HK1.out; omega
            case rel => exact ⟨(wrap64 (x4_1 + 1)), (by first | rfl | (simp; done) | (simp [*]; done)), H', ⟨by have := HK1.out; omega⟩, ⟨by repeat (first | (with_reducible first | exact HB.out | apply below_alloc | apply pw_below_drewN | apply below_drew1) | exact HB.out)⟩⟩
        · rw [if_neg c3] at H
          exact absurd H (by simp)
      · rw [if_neg c2] at H
        have c2b0 : decide (x4_1 < (a0.size : Int)) = false := decide_eq_false c2
        clear c2
        by_cases c15 : 1 + a0.size ≤ 9223372036854775807
        · rw [if_pos c15] at H
          have c15b0 := eq_true c15
          have c15b1 : decide (1 + a0.size ≤ 9223372036854775807) = true := decide_eq_true c15
          try have c15b2 : (9223372036854775807 < 1 + a0.size) = False := eq_false (Nat.not_lt.2 c15)
          clear c15
          by_cases c16 : 1 + a0.size + 1 ≤ 9223372036854775807
          · rw [if_pos c16] at H
            have c16b0 := eq_true c16
            have c16b1 : decide (1 + a0.size + 1 ≤ 9223372036854775807) = true := decide_eq_true c16
            try have c16b2 : (9223372036854775807 < 1 + a0.size + 1) = False := eq_false (Nat.not_lt.2 c16)
            clear c16
            replace H := Option.bind_eq_some_iff.mp H
            obtain ⟨t172, A170, H⟩ := H
            replace H : (some (t172, true)) = some (r1, r2) := H
            have A17 := Aside0.mk A170
            clear A170
            simp only [Option.some.injEq, Prod.mk.injEq] at H
            obtain ⟨rfl, rfl⟩ := H
            go_wp2_with (first | ((with_reducible refine gate_callee (f := 46) rfl ?_); refine goesL_ (some 28) rfl rfl Tryd.func46 (by kernel_rfl) rfl #[.string (((⟨#[34]⟩ : ByteArray) ++ a0) ++ (⟨#[34]⟩ : ByteArray))] rfl (by (try simp only [List.map_toArray, List.map_cons, List.map_nil]); first | done | rfl | (simp only [List.length_drop, List.length_take]; rfl)) ?_; (with_reducible refine (spec_Unquote.calls k1 (((⟨#[34]⟩ : ByteArray) ++ a0) ++ (⟨#[34]⟩ : ByteArray)) t172 _ A17.out).mono ?_); rintro e w18 ⟨rfl, hb⟩; refine ⟨_, rfl, ?_⟩; have n0_ := Aside0.mk (below_step (by repeat (first | (with_reducible first | exact HB.out | apply below_alloc | apply pw_below_drewN | apply below_drew1) | exact HB.out)) hb); clear HB; have HB := n0_; clear n0_; (try clear hb); (try clear hb2); (try clear hk); (try clear hi)))
            go_ret2
            exact ⟨by first | rfl | (simp [errW_none, errW_some] <;> rfl) | (simp [*, errW_none, errW_some] <;> rfl), by repeat (first | (with_reducible first | exact HB.out | apply below_alloc | apply pw_below_drewN | apply below_drew1) | exact HB.out)⟩
          · rw [if_neg c16] at H
            exact absurd H (by simp)
        · rw [if_neg c15] at H
          exact absurd H (by simp)

end Go.Proofs.YtfpbbnllaogclaaDoor.PJ
