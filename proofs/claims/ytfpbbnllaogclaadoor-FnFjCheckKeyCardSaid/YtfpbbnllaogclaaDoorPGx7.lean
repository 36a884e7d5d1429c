-- Written by a program of this session out of the translation (a changed copy of the kit's print); Lean checks it.
import Derived.Test.YtfpbbnllaogclaaDoorPGx0
import Derived.Test.YtfpbbnllaogclaaDoorPGx5
import Derived.Test.YtfpbbnllaogclaaDoorPGx6
namespace Go.Proofs.YtfpbbnllaogclaaDoor.PG
open Go.RowKit Go.Proofs.YtfpbbnllaogclaaDoorW.PrintWords Go.Proofs.YtfpbbnllaogclaaDoorW.PrintLast Go.Proofs.YtfpbbnllaogclaaDoorW.PrintMore
attribute [local go_sem] max2_int min2_int max_two min_two max_three min_three max_four min_four   -- for this text's walks alone
set_option linter.unusedVariables false
set_option linter.unusedSimpArgs false

/-! ### spec_Escapes: function 49 -/
def spec_Escapes.l0 : Nat → ByteArray → ByteArray → Int → Option (Bool)
  | 0, _, _, _ => none
  | k + 1, x0, x110000, x110001 => if x110001 < (x0.size : Int) then (if 0 ≤ (wrap64 ((wrap64 (x110001 + 1)) - 1)) then (if (wrap64 ((wrap64 (x110001 + 1)) - 1)) < (x0.size : Int) then (if (bt x0 (wrap64 ((wrap64 (x110001 + 1)) - 1))) = 92 then ((spec_reader_escape.f k x110000 (wrap64 (x110001 + 1))).bind fun bt110 => (if bt110.1 = true then (spec_Escapes.l0 k x0 bt110.2.1 bt110.2.2) else (some false))) else (spec_Escapes.l0 k x0 x110000 (wrap64 (x110001 + 1)))) else (none)) else (none)) else (some true)
def spec_Escapes.f (k : Nat) (a0 : ByteArray) : Option (Bool) := spec_Escapes.l0 k a0 a0 0
theorem spec_Escapes.mono_l : ∀ k, (∀ y0 y1 y2, LeO (spec_Escapes.l0 k y0 y1 y2) (spec_Escapes.l0 (k + 1) y0 y1 y2))
  | 0 => fun _ _ _ r h => by simp [spec_Escapes.l0] at h
  | k + 1 => by
    have ih0 := spec_Escapes.mono_l k
    · intro y0 y1 y2
      unfold spec_Escapes.l0
      repeat' first
      | (with_reducible exact ih0 _ _ _)
      | (with_reducible exact spec_reader_escape.mono _ _ _)
      | (with_reducible exact LeO.refl _)
      | (with_reducible exact LeO.none _)
      | (with_reducible refine LeO.ite ?_ ?_)
      | (with_reducible refine LeO.bind ?_ (fun _ => ?_))
      | exact ih0 _ _ _
      | exact spec_reader_escape.mono _ _ _
      | exact LeO.none _
      | refine LeO.ite ?_ ?_
      | refine LeO.bind ?_ (fun _ => ?_)
theorem spec_Escapes.mono : ∀ a0 k, LeO (spec_Escapes.f k a0) (spec_Escapes.f (k + 1) a0) := by
  intro a0 k
  have ih0 := spec_Escapes.mono_l k
  unfold spec_Escapes.f
  repeat' first
      | (with_reducible exact ih0 _ _ _)
      | (with_reducible exact spec_reader_escape.mono _ _ _)
      | (with_reducible exact LeO.refl _)
      | (with_reducible exact LeO.none _)
      | (with_reducible refine LeO.ite ?_ ?_)
      | (with_reducible refine LeO.bind ?_ (fun _ => ?_))
      | exact ih0 _ _ _
      | exact spec_reader_escape.mono _ _ _
      | exact LeO.none _
      | refine LeO.ite ?_ ?_
      | refine LeO.bind ?_ (fun _ => ?_)
set_option maxHeartbeats 8000000 in
set_option maxRecDepth 100000 in
theorem spec_Escapes.calls (k : Nat) (a0 : ByteArray) (r : Bool) (w : World) (h : spec_Escapes.f k a0 = some r) :
    Calls Tryd.prog 49 #[.string a0] w fun e w' => e = .returned (.bool r) ∧ Below w.heap.size w w' := by
  have hu70 := Tryd.underlying70
  have HB := Aside0.mk (Below.refl w.heap.size w)
  have H : (spec_Escapes.l0 k a0 a0 0) = some r := h
  clear h
  have H' := Aside0.mk H
  clear H
  go_enter Tryd.func49, Tryd.ntmps49
  go_wp2_with (first | ((with_reducible refine gate_dst (N := 3) rfl ?_); refine box_event ?hg (N := 3) ?hd (cs := #[.string (⟨#[]⟩ : ByteArray), .int .i64 0]) (t := 70) ?hr ?_; (case hd => rfl); (case hg => rfl); (case hr => first | (go_simp; done) | (go_simp; rfl)); intro gb109 hg w2 hbox hb; have n0_ := Aside0.mk (below_step (by repeat (first | (with_reducible first | exact HB.out | apply below_alloc | apply pw_below_drewN | apply below_drew1) | exact HB.out)) hb); have n1_ := Aside0.mk ((by rw [hg]; exact (below_size (by repeat (first | (with_reducible first | exact HB.out | apply below_alloc | apply pw_below_drewN | apply below_drew1) | exact HB.out))) : w.heap.size ≤ gb109)); have n2_ := Aside0.mk ((by rw [hg]; exact (below_size (by repeat (first | (with_reducible first | exact HB.out | apply below_alloc | apply pw_below_drewN | apply below_drew1) | exact HB.out))) : w.heap.size ≤ gb109)); have n3_ := Aside0.mk ((show IsS70 w w2 gb109 (⟨#[]⟩ : ByteArray) 0 from ⟨hbox, by rw [hg]; exact (below_size (by repeat (first | (with_reducible first | exact HB.out | apply below_alloc | apply pw_below_drewN | apply below_drew1) | exact HB.out)))⟩)); clear HB; have HB := n0_; have GW109 := n1_; have GE109 := n2_; have HI109 := n3_; clear n0_ n1_ n2_ n3_; clear hb hbox hg; obtain ⟨HGz3, hgz3⟩ := HI109.out; have hcz3_0 := cellS70_0 HGz3; have hcz3_1 := cellS70_1 HGz3; have hfz3_0 := blk_frozen HGz3 0; have hfz3_1 := blk_frozen HGz3 1; clear HGz3 hgz3))
  try simp only [Act.put, List.setIfInBounds_toArray, List.set_cons_succ, List.set_cons_zero]
  go_loopg [] k (fun kq w' => ∃ (x110000_1 : ByteArray) (x110001_1 : Int), Aside0 (spec_Escapes.l0 kq a0 x110000_1 x110001_1 = some r) ∧ Aside0 (kq ≤ k) ∧ Aside0 (IsS70 w w' gb109 x110000_1 x110001_1) ∧ Aside0 (Below w.heap.size w w'))
  case atStart => exact ⟨(a0), (0), H', ⟨Nat.le_refl _⟩, ⟨by repeat (first | (with_reducible first | exact HI109.out | apply IsS70.alloc | apply IsS70.drewN | apply IsS70.drew | apply IsS70.set_0 | apply IsS70.set_1) | exact HI109.out)⟩, ⟨by repeat (first | (with_reducible first | exact HB.out | apply below_alloc | apply pw_below_drewN | apply below_drew1 | refine below_set ?_ (IsS70.ge HI109.out)) | exact HB.out)⟩⟩
  case round =>
    clear H'
    try clear p2
    try clear hcz3_0
    try clear hcz3_1
    try clear hfz3_0
    try clear hfz3_1
    obtain ⟨x110000_1, x110001_1, HA, HK1, HI109, HB⟩ := hrel
    cases gk with
    | zero => exact absurd HA.out (by simp [spec_Escapes.l0])
    | succ k1 =>
      have H := HA.out
      clear HA
      simp only [spec_Escapes.l0] at H
      by_cases c4 : x110001_1 < (a0.size : Int)
      · rw [if_pos c4] at H
        have c4b0 : decide (x110001_1 < (a0.size : Int)) = true := decide_eq_true c4
        clear c4
        obtain ⟨ji5, hji5⟩ : ∃ j_ : Int, (wrap64 ((wrap64 (x110001_1 + 1)) - 1)) = j_ := ⟨_, rfl⟩
        replace H : (if 0 ≤ (ji5) then (if (ji5) < (a0.size : Int) then (if (bt a0 (ji5)) = 92 then ((spec_reader_escape.f k1 x110000_1 (wrap64 (x110001_1 + 1))).bind fun bt110 => (if bt110.1 = true then (spec_Escapes.l0 k1 a0 bt110.2.1 bt110.2.2) else (some false))) else (spec_Escapes.l0 k1 a0 x110000_1 (wrap64 (x110001_1 + 1)))) else (none)) else (none)) = some r := by first | (rw [hji5] at H; exact H) | (simp only [hji5] at H ⊢; exact H)
        have hji5w : (IntKind.i64.wrap ((wrap64 (x110001_1 + 1)) - 1)) = ji5 := (i64_w _).trans hji5
        by_cases c6 : 0 ≤ (ji5)
        · rw [if_pos c6] at H
          have c6b0 : decide (0 ≤ (ji5)) = true := decide_eq_true c6
          clear c6
          by_cases c7 : (ji5) < (a0.size : Int)
          · rw [if_pos c7] at H
            have c7b0 : decide ((ji5) < (a0.size : Int)) = true := decide_eq_true c7
            clear c7
            by_cases c9 : (bt a0 (ji5)) = 92
            · rw [if_pos c9] at H
              have c9b0 : ((bt a0 (ji5)) == 92) = true := beq_iff_eq.mpr c9
              have c9b1 : ((bt a0 (ji5)) != 92) = false := bne_eq_false_iff_eq.mpr c9
              clear c9
              replace H := Option.bind_eq_some_iff.mp H
              obtain ⟨⟨t110, t111, t112⟩, A100, H⟩ := H
              replace H : (if t110 = true then (spec_Escapes.l0 k1 a0 t111 t112) else (some false)) = some r := H
              have A10 := Aside0.mk A100
              clear A100
              by_cases c11 : t110 = true
              · subst c11
                have H1 : (spec_Escapes.l0 k1 a0 t111 t112) = some r := by rw [if_pos rfl] at H; exact H
                clear H
                have H := H1
                clear H1
                have H' := Aside0.mk H
                clear H
                obtain ⟨HGz12, hgz12⟩ := HI109.out
                have hcz12_0 := cellS70_0 HGz12
                have hcz12_1 := cellS70_1 HGz12
                have hfz12_0 := blk_frozen HGz12 0
                have hfz12_1 := blk_frozen HGz12 1
                clear HGz12 hgz12
                have p8 : 0 ≤ ((ji5) : Int) := of_decide_eq_true (by first | (with_reducible assumption) | assumption)
                have q8 : (ji5) < (a0.size : Int) := of_decide_eq_true (by first | (with_reducible assumption) | assumption)
                have hx8 := bt_at a0 (ji5)
                replace p8 := eq_true p8
                replace q8 := eq_true q8
                go_wp2_with (first | (go_at_call 45; (with_reducible refine (spec_reader_escape.calls k1 gb109 x110000_1 (wrap64 (x110001_1 + 1)) true t111 t112 w _ ?side1 ?side2 A10.out).mono ?_); (case side1 => repeat (first | (with_reducible first | exact HI109.out | apply IsS70.alloc | apply IsS70.drewN | apply IsS70.drew | apply IsS70.set_0 | apply IsS70.set_1) | exact HI109.out)); (case side2 => repeat (first | (with_reducible first | exact HB.out | apply below_alloc | apply pw_below_drewN | apply below_drew1 | refine below_set ?_ (IsS70.ge HI109.out)) | exact HB.out)); rintro e w13 ⟨rfl, hi, hb, hk⟩; have n0_ := Aside0.mk (hb); have n1_ := Aside0.mk (hi); clear HB; clear HI109; have HB := n0_; have HI109 := n1_; clear n0_ n1_; (try clear hb); (try clear hb2); (try clear hk); (try clear hi)))
                go_roundg k1
                case measure => have := HK1.out; omega
                case rel => exact ⟨(t111), (t112), H', ⟨by have := HK1.out; omega⟩, ⟨by repeat (first | (with_reducible first | exact HI109.out | apply IsS70.alloc | apply IsS70.drewN | apply IsS70.drew | apply IsS70.set_0 | apply IsS70.set_1) | exact HI109.out)⟩, ⟨by repeat (first | (with_reducible first | exact HB.out | apply below_alloc | apply pw_below_drewN | apply below_drew1 | refine below_set ?_ (IsS70.ge HI109.out)) | exact HB.out)⟩⟩
              · replace c11 := Bool.eq_false_iff.mpr c11
                subst c11
                have H1 : (some false) = some r := by rw [if_neg (show ¬ (false = true) by decide)] at H; exact H
                clear H
                have H := H1
                clear H1
                obtain rfl := Option.some.inj H
                obtain ⟨HGz14, hgz14⟩ := HI109.out
                have hcz14_0 := cellS70_0 HGz14
                have hcz14_1 := cellS70_1 HGz14
                have hfz14_0 := blk_frozen HGz14 0
                have hfz14_1 := blk_frozen HGz14 1
                clear HGz14 hgz14
                have p8 : 0 ≤ ((ji5) : Int) := of_decide_eq_true (by first | (with_reducible assumption) | assumption)
                have q8 : (ji5) < (a0.size : Int) := of_decide_eq_true (by first | (with_reducible assumption) | assumption)
                have hx8 := bt_at a0 (ji5)
                replace p8 := eq_true p8
                replace q8 := eq_true q8
                go_wp2_with (first | (go_at_call 45; (with_reducible refine (spec_reader_escape.calls k1 gb109 x110000_1 (wrap64 (x110001_1 + 1)) false t111 t112 w _ ?side1 ?side2 A10.out).mono ?_); (case side1 => repeat (first | (with_reducible first | exact HI109.out | apply IsS70.alloc | apply IsS70.drewN | apply IsS70.drew | apply IsS70.set_0 | apply IsS70.set_1) | exact HI109.out)); (case side2 => repeat (first | (with_reducible first | exact HB.out | apply below_alloc | apply pw_below_drewN | apply below_drew1 | refine below_set ?_ (IsS70.ge HI109.out)) | exact HB.out)); rintro e w15 ⟨rfl, hi, hb, hk⟩; have n0_ := Aside0.mk (hb); have n1_ := Aside0.mk (hi); clear HB; clear HI109; have HB := n0_; have HI109 := n1_; clear n0_ n1_; (try clear hb); (try clear hb2); (try clear hk); (try clear hi)))
                go_ret
                exact ⟨by first | rfl | (simp [errW_none, errW_some] <;> rfl) | (simp only [← hji5]; first | rfl | (simp [errW_none, errW_some] <;> rfl)) | (simp [*, errW_none, errW_some] <;> rfl), by repeat (first | (with_reducible first | exact HB.out | apply below_alloc | apply pw_below_drewN | apply below_drew1 | refine below_set ?_ (IsS70.ge HI109.out)) | exact HB.out)⟩
            · rw [if_neg c9] at H
              have c9b0 : ((bt a0 (ji5)) == 92) = false := beq_eq_false_iff_ne.mpr c9
              have c9b1 : ((bt a0 (ji5)) != 92) = true := bne_iff_ne.mpr c9
              have H' := Aside0.mk H
              clear H
              obtain ⟨HGz16, hgz16⟩ := HI109.out
              have hcz16_0 := cellS70_0 HGz16
              have hcz16_1 := cellS70_1 HGz16
              have hfz16_0 := blk_frozen HGz16 0
              have hfz16_1 := blk_frozen HGz16 1
              clear HGz16 hgz16
              have p8 : 0 ≤ ((ji5) : Int) := of_decide_eq_true (by first | (with_reducible assumption) | assumption)
              have q8 : (ji5) < (a0.size : Int) := of_decide_eq_true (by first | (with_reducible assumption) | assumption)
              have hx8 := bt_at a0 (ji5)
              replace p8 := eq_true p8
              replace q8 := eq_true q8
              go_wp2
              go_roundg k1
              case measure => have := HK1.out; omega
              case rel => exact ⟨(x110000_1), (wrap64 (x110001_1 + 1)), H', ⟨by have := HK1.out; omega⟩, ⟨by repeat (first | (with_reducible first | exact HI109.out | apply IsS70.alloc | apply IsS70.drewN | apply IsS70.drew | apply IsS70.set_0 | apply IsS70.set_1) | exact HI109.out)⟩, ⟨by repeat (first | (with_reducible first | exact HB.out | apply below_alloc | apply pw_below_drewN | apply below_drew1 | refine below_set ?_ (IsS70.ge HI109.out)) | exact HB.out)⟩⟩
          · rw [if_neg c7] at H
            exact absurd H (by simp)
        · rw [if_neg c6] at H
          exact absurd H (by simp)
      · rw [if_neg c4] at H
        have c4b0 : decide (x110001_1 < (a0.size : Int)) = false := decide_eq_false c4
        clear c4
        obtain rfl := Option.some.inj H
        obtain ⟨HGz17, hgz17⟩ := HI109.out
        have hcz17_0 := cellS70_0 HGz17
        have hcz17_1 := cellS70_1 HGz17
        have hfz17_0 := blk_frozen HGz17 0
        have hfz17_1 := blk_frozen HGz17 1
        clear HGz17 hgz17
        go_wp2
        go_ret
        exact ⟨by first | rfl | (simp [errW_none, errW_some] <;> rfl) | (simp [*, errW_none, errW_some] <;> rfl), by repeat (first | (with_reducible first | exact HB.out | apply below_alloc | apply pw_below_drewN | apply below_drew1 | refine below_set ?_ (IsS70.ge HI109.out)) | exact HB.out)⟩

end Go.Proofs.YtfpbbnllaogclaaDoor.PG
