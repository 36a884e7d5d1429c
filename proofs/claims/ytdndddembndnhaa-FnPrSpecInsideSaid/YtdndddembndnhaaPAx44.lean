-- Written by a program of this session out of the translation (a changed copy of the kit's print); Lean checks it.
import Derived.Test.YtdndddembndnhaaPAx0
namespace Go.Proofs.Ytdndddembndnhaa.PA
open Go.RowKit Go.Proofs.YtdndddembndnhaaW.PrintWords Go.Proofs.YtdndddembndnhaaW.PrintLast Go.Proofs.YtdndddembndnhaaW.PrintMore
attribute [local go_sem] max2_int min2_int max_two min_two max_three min_three max_four min_four   -- for this text's walks alone
set_option linter.unusedVariables false
set_option linter.unusedSimpArgs false

/-! ### pretty_spec: function 48 -/
mutual
def pretty_spec.l0 : Nat → List Int → List Int → Int → Option (List Int)
  | 0, _, _, _ => none
  | k + 1, x0, x1, x5 => if x5 < (x0.length : Int) then (if 0 ≤ x5 then (if (rd x0 x5) = 47 then (if x5 < (wrap64 ((x0.length : Int) - 1)) then (if 0 ≤ (wrap64 (x5 + 1)) then (if (wrap64 (x5 + 1)) < (x0.length : Int) then (if (rd x0 (wrap64 (x5 + 1))) = 47 then ((some (([32, 32] : List Int) : List Int)).bind fun y416 => (if x1.length + y416.length < 140737488355328 then (pretty_spec.l1 k x0 (x1 ++ y416) (wrap64 (x5 + 2))) else (none))) else (if (rd x0 (wrap64 (x5 + 1))) = 42 then ((some (([32, 32] : List Int) : List Int)).bind fun y440 => (if x1.length + y440.length < 140737488355328 then (pretty_spec.l2 k x0 (x1 ++ y440) (wrap64 (x5 + 2))) else (none))) else (pretty_spec.j4 k x0 x1 x5))) else (none)) else (none)) else (pretty_spec.j4 k x0 x1 x5)) else (pretty_spec.j4 k x0 x1 x5)) else (none)) else (some x1)
def pretty_spec.j4 : Nat → List Int → List Int → Int → Option (List Int)
  | 0, _, _, _ => none
  | k + 1, x0, x1, x5 => if 0 ≤ x5 then (if x5 < (x0.length : Int) then (if x1.length < 140737488355328 then ((some (x1 ++ [rd x0 x5] : List Int)).bind fun y473 => (if (rd x0 x5) = 34 then (pretty_spec.l3 k x0 y473 (wrap64 (x5 + 1))) else (if (rd x0 x5) = 125 then (pretty_spec.j7 k x0 y473 x5 true) else (pretty_spec.j7 k x0 y473 x5 ((rd x0 x5) == 93))))) else (none)) else (none)) else (none)
def pretty_spec.l3 : Nat → List Int → List Int → Int → Option (List Int)
  | 0, _, _, _ => none
  | k + 1, x0, x1, x5 => if x5 < (x0.length : Int) then (if 0 ≤ x5 then (if x1.length < 140737488355328 then ((some (x1 ++ [rd x0 x5] : List Int)).bind fun y478 => (if (rd x0 x5) = 34 then (pretty_spec.l4 k x0 y478 x5 (wrap64 (x5 - 1))) else (pretty_spec.l3 k x0 y478 (wrap64 (x5 + 1))))) else (none)) else (none)) else (pretty_spec.l0 k x0 x1 (wrap64 (x5 + 1)))
def pretty_spec.l4 : Nat → List Int → List Int → Int → Int → Option (List Int)
  | 0, _, _, _, _ => none
  | k + 1, x0, x1, x5, x6 => if 0 ≤ x6 then (if x6 < (x0.length : Int) then (if (rd x0 x6) = 92 then (pretty_spec.l4 k x0 x1 x5 (wrap64 (x6 - 1))) else (if (Int.tmod (wrap64 (x6 - x5)) 2) = 0 then (pretty_spec.l3 k x0 x1 (wrap64 (x5 + 1))) else (pretty_spec.l0 k x0 x1 (wrap64 (x5 + 1))))) else (none)) else (none)
def pretty_spec.j7 : Nat → List Int → List Int → Int → Bool → Option (List Int)
  | 0, _, _, _, _ => none
  | k + 1, x0, x1, x5, x195 => if x195 = true then (pretty_spec.l5 k x0 x1 x5 (wrap64 ((x1.length : Int) - 2))) else (pretty_spec.l0 k x0 x1 (wrap64 (x5 + 1)))
def pretty_spec.l5 : Nat → List Int → List Int → Int → Int → Option (List Int)
  | 0, _, _, _, _ => none
  | k + 1, x0, x1, x5, x7 => if x7 ≥ 0 then (if 0 ≤ x7 then (if x7 < (x1.length : Int) then (if (rd x1 x7) ≤ 32 then (pretty_spec.l5 k x0 x1 x5 (wrap64 (x7 - 1))) else (if (rd x1 x7) = 44 then (pretty_spec.l0 k x0 (x1.set (x7 : Int).toNat 32) (wrap64 (x5 + 1))) else (pretty_spec.l0 k x0 x1 (wrap64 (x5 + 1))))) else (none)) else (none)) else (pretty_spec.l0 k x0 x1 (wrap64 (x5 + 1)))
def pretty_spec.l1 : Nat → List Int → List Int → Int → Option (List Int)
  | 0, _, _, _ => none
  | k + 1, x0, x1, x5 => if x5 < (x0.length : Int) then (if 0 ≤ x5 then (if (rd x0 x5) = 10 then (if x1.length < 140737488355328 then (pretty_spec.l0 k x0 (x1 ++ [10]) (wrap64 (x5 + 1))) else (none)) else (if (rd x0 x5) = 9 then (if x1.length < 140737488355328 then (pretty_spec.l1 k x0 (x1 ++ [rd x0 x5]) (wrap64 (x5 + 1))) else (none)) else (if (rd x0 x5) = 13 then (if x1.length < 140737488355328 then (pretty_spec.l1 k x0 (x1 ++ [rd x0 x5]) (wrap64 (x5 + 1))) else (none)) else (if x1.length < 140737488355328 then (pretty_spec.l1 k x0 (x1 ++ [32]) (wrap64 (x5 + 1))) else (none))))) else (none)) else (pretty_spec.l0 k x0 x1 (wrap64 (x5 + 1)))
def pretty_spec.l2 : Nat → List Int → List Int → Int → Option (List Int)
  | 0, _, _, _ => none
  | k + 1, x0, x1, x5 => if x5 < (wrap64 ((x0.length : Int) - 1)) then (if 0 ≤ x5 then (if x5 < (x0.length : Int) then (if (rd x0 x5) = 42 then (if 0 ≤ (wrap64 (x5 + 1)) then (if (wrap64 (x5 + 1)) < (x0.length : Int) then (pretty_spec.j3 k x0 x1 x5 ((rd x0 (wrap64 (x5 + 1))) == 47)) else (none)) else (none)) else (pretty_spec.j3 k x0 x1 x5 false)) else (none)) else (none)) else (pretty_spec.l0 k x0 x1 (wrap64 (x5 + 1)))
def pretty_spec.j3 : Nat → List Int → List Int → Int → Bool → Option (List Int)
  | 0, _, _, _, _ => none
  | k + 1, x0, x1, x5, x103 => if x103 = true then ((some (([32, 32] : List Int) : List Int)).bind fun y448 => (if x1.length + y448.length < 140737488355328 then (pretty_spec.l0 k x0 (x1 ++ y448) (wrap64 ((wrap64 (x5 + 1)) + 1))) else (none))) else (if 0 ≤ x5 then (if x5 < (x0.length : Int) then (if (rd x0 x5) = 10 then (if x1.length < 140737488355328 then (pretty_spec.l2 k x0 (x1 ++ [rd x0 x5]) (wrap64 (x5 + 1))) else (none)) else (if (rd x0 x5) = 9 then (if x1.length < 140737488355328 then (pretty_spec.l2 k x0 (x1 ++ [rd x0 x5]) (wrap64 (x5 + 1))) else (none)) else (if (rd x0 x5) = 13 then (if x1.length < 140737488355328 then (pretty_spec.l2 k x0 (x1 ++ [rd x0 x5]) (wrap64 (x5 + 1))) else (none)) else (if x1.length < 140737488355328 then (pretty_spec.l2 k x0 (x1 ++ [32]) (wrap64 (x5 + 1))) else (none))))) else (none)) else (none))
end
def pretty_spec.f (k : Nat) (l0 : List Int) (l1 : List Int) : Option (List Int) := if 0 ≤ (l1.length : Int) then (pretty_spec.l0 k l0 (l1.take (0 : Int).toNat) 0) else (none)
theorem pretty_spec.mono_l : ∀ k, (∀ y0 y1 y2, LeO (pretty_spec.l0 k y0 y1 y2) (pretty_spec.l0 (k + 1) y0 y1 y2)) ∧ (∀ y0 y1 y2, LeO (pretty_spec.j4 k y0 y1 y2) (pretty_spec.j4 (k + 1) y0 y1 y2)) ∧ (∀ y0 y1 y2, LeO (pretty_spec.l3 k y0 y1 y2) (pretty_spec.l3 (k + 1) y0 y1 y2)) ∧ (∀ y0 y1 y2 y3, LeO (pretty_spec.l4 k y0 y1 y2 y3) (pretty_spec.l4 (k + 1) y0 y1 y2 y3)) ∧ (∀ y0 y1 y2 y3, LeO (pretty_spec.j7 k y0 y1 y2 y3) (pretty_spec.j7 (k + 1) y0 y1 y2 y3)) ∧ (∀ y0 y1 y2 y3, LeO (pretty_spec.l5 k y0 y1 y2 y3) (pretty_spec.l5 (k + 1) y0 y1 y2 y3)) ∧ (∀ y0 y1 y2, LeO (pretty_spec.l1 k y0 y1 y2) (pretty_spec.l1 (k + 1) y0 y1 y2)) ∧ (∀ y0 y1 y2, LeO (pretty_spec.l2 k y0 y1 y2) (pretty_spec.l2 (k + 1) y0 y1 y2)) ∧ (∀ y0 y1 y2 y3, LeO (pretty_spec.j3 k y0 y1 y2 y3) (pretty_spec.j3 (k + 1) y0 y1 y2 y3))
  | 0 => ⟨fun _ _ _ r h => by simp [pretty_spec.l0] at h, fun _ _ _ r h => by simp [pretty_spec.j4] at h, fun _ _ _ r h => by simp [pretty_spec.l3] at h, fun _ _ _ _ r h => by simp [pretty_spec.l4] at h, fun _ _ _ _ r h => by simp [pretty_spec.j7] at h, fun _ _ _ _ r h => by simp [pretty_spec.l5] at h, fun _ _ _ r h => by simp [pretty_spec.l1] at h, fun _ _ _ r h => by simp [pretty_spec.l2] at h, fun _ _ _ _ r h => by simp [pretty_spec.j3] at h⟩
  | k + 1 => by
    obtain ⟨ih0, ih1, ih2, ih3, ih4, ih5, ih6, ih7, ih8⟩ := pretty_spec.mono_l k
    refine ⟨?_, ?_, ?_, ?_, ?_, ?_, ?_, ?_, ?_⟩
    · intro y0 y1 y2
      unfold pretty_spec.l0
      repeat' first
      | (with_reducible exact ih0 _ _ _)
      | (with_reducible exact ih1 _ _ _)
      | (with_reducible exact ih2 _ _ _)
      | (with_reducible exact ih3 _ _ _ _)
      | (with_reducible exact ih4 _ _ _ _)
      | (with_reducible exact ih5 _ _ _ _)
      | (with_reducible exact ih6 _ _ _)
      | (with_reducible exact ih7 _ _ _)
      | (with_reducible exact ih8 _ _ _ _)
      | (with_reducible exact LeO.refl _)
      | (with_reducible exact LeO.none _)
      | (with_reducible refine LeO.ite ?_ ?_)
      | (with_reducible refine LeO.bind ?_ (fun _ => ?_))
      | exact ih0 _ _ _
      | exact ih1 _ _ _
      | exact ih2 _ _ _
      | exact ih3 _ _ _ _
      | exact ih4 _ _ _ _
      | exact ih5 _ _ _ _
      | exact ih6 _ _ _
      | exact ih7 _ _ _
      | exact ih8 _ _ _ _
      | exact LeO.none _
      | refine LeO.ite ?_ ?_
      | refine LeO.bind ?_ (fun _ => ?_)
    · intro y0 y1 y2
      unfold pretty_spec.j4
      repeat' first
      | (with_reducible exact ih0 _ _ _)
      | (with_reducible exact ih1 _ _ _)
      | (with_reducible exact ih2 _ _ _)
      | (with_reducible exact ih3 _ _ _ _)
      | (with_reducible exact ih4 _ _ _ _)
      | (with_reducible exact ih5 _ _ _ _)
      | (with_reducible exact ih6 _ _ _)
      | (with_reducible exact ih7 _ _ _)
      | (with_reducible exact ih8 _ _ _ _)
      | (with_reducible exact LeO.refl _)
      | (with_reducible exact LeO.none _)
      | (with_reducible refine LeO.ite ?_ ?_)
      | (with_reducible refine LeO.bind ?_ (fun _ => ?_))
      | exact ih0 _ _ _
      | exact ih1 _ _ _
      | exact ih2 _ _ _
      | exact ih3 _ _ _ _
      | exact ih4 _ _ _ _
      | exact ih5 _ _ _ _
      | exact ih6 _ _ _
      | exact ih7 _ _ _
      | exact ih8 _ _ _ _
      | exact LeO.none _
      | refine LeO.ite ?_ ?_
      | refine LeO.bind ?_ (fun _ => ?_)
    · intro y0 y1 y2
      unfold pretty_spec.l3
      repeat' first
      | (with_reducible exact ih0 _ _ _)
      | (with_reducible exact ih1 _ _ _)
      | (with_reducible exact ih2 _ _ _)
      | (with_reducible exact ih3 _ _ _ _)
      | (with_reducible exact ih4 _ _ _ _)
      | (with_reducible exact ih5 _ _ _ _)
      | (with_reducible exact ih6 _ _ _)
      | (with_reducible exact ih7 _ _ _)
      | (with_reducible exact ih8 _ _ _ _)
      | (with_reducible exact LeO.refl _)
      | (with_reducible exact LeO.none _)
      | (with_reducible refine LeO.ite ?_ ?_)
      | (with_reducible refine LeO.bind ?_ (fun _ => ?_))
      | exact ih0 _ _ _
      | exact ih1 _ _ _
      | exact ih2 _ _ _
      | exact ih3 _ _ _ _
      | exact ih4 _ _ _ _
      | exact ih5 _ _ _ _
      | exact ih6 _ _ _
      | exact ih7 _ _ _
      | exact ih8 _ _ _ _
      | exact LeO.none _
      | refine LeO.ite ?_ ?_
      | refine LeO.bind ?_ (fun _ => ?_)
    · intro y0 y1 y2 y3
      unfold pretty_spec.l4
      repeat' first
      | (with_reducible exact ih0 _ _ _)
      | (with_reducible exact ih1 _ _ _)
      | (with_reducible exact ih2 _ _ _)
      | (with_reducible exact ih3 _ _ _ _)
      | (with_reducible exact ih4 _ _ _ _)
      | (with_reducible exact ih5 _ _ _ _)
      | (with_reducible exact ih6 _ _ _)
      | (with_reducible exact ih7 _ _ _)
      | (with_reducible exact ih8 _ _ _ _)
      | (with_reducible exact LeO.refl _)
      | (with_reducible exact LeO.none _)
      | (with_reducible refine LeO.ite ?_ ?_)
      | (with_reducible refine LeO.bind ?_ (fun _ => ?_))
      | exact ih0 _ _ _
      | exact ih1 _ _ _
      | exact ih2 _ _ _
      | exact ih3 _ _ _ _
      | exact ih4 _ _ _ _
      | exact ih5 _ _ _ _
      | exact ih6 _ _ _
      | exact ih7 _ _ _
      | exact ih8 _ _ _ _
      | exact LeO.none _
      | refine LeO.ite ?_ ?_
      | refine LeO.bind ?_ (fun _ => ?_)
    · intro y0 y1 y2 y3
      unfold pretty_spec.j7
      repeat' first
      | (with_reducible exact ih0 _ _ _)
      | (with_reducible exact ih1 _ _ _)
      | (with_reducible exact ih2 _ _ _)
      | (with_reducible exact ih3 _ _ _ _)
      | (with_reducible exact ih4 _ _ _ _)
      | (with_reducible exact ih5 _ _ _ _)
      | (with_reducible exact ih6 _ _ _)
      | (with_reducible exact ih7 _ _ _)
      | (with_reducible exact ih8 _ _ _ _)
      | (with_reducible exact LeO.refl _)
      | (with_reducible exact LeO.none _)
      | (with_reducible refine LeO.ite ?_ ?_)
      | (with_reducible refine LeO.bind ?_ (fun _ => ?_))
      | exact ih0 _ _ _
      | exact ih1 _ _ _
      | exact ih2 _ _ _
      | exact ih3 _ _ _ _
      | exact ih4 _ _ _ _
      | exact ih5 _ _ _ _
      | exact ih6 _ _ _
      | exact ih7 _ _ _
      | exact ih8 _ _ _ _
      | exact LeO.none _
      | refine LeO.ite ?_ ?_
      | refine LeO.bind ?_ (fun _ => ?_)
    · intro y0 y1 y2 y3
      unfold pretty_spec.l5
      repeat' first
      | (with_reducible exact ih0 _ _ _)
      | (with_reducible exact ih1 _ _ _)
      | (with_reducible exact ih2 _ _ _)
      | (with_reducible exact ih3 _ _ _ _)
      | (with_reducible exact ih4 _ _ _ _)
      | (with_reducible exact ih5 _ _ _ _)
      | (with_reducible exact ih6 _ _ _)
      | (with_reducible exact ih7 _ _ _)
      | (with_reducible exact ih8 _ _ _ _)
      | (with_reducible exact LeO.refl _)
      | (with_reducible exact LeO.none _)
      | (with_reducible refine LeO.ite ?_ ?_)
      | (with_reducible refine LeO.bind ?_ (fun _ => ?_))
      | exact ih0 _ _ _
      | exact ih1 _ _ _
      | exact ih2 _ _ _
      | exact ih3 _ _ _ _
      | exact ih4 _ _ _ _
      | exact ih5 _ _ _ _
      | exact ih6 _ _ _
      | exact ih7 _ _ _
      | exact ih8 _ _ _ _
      | exact LeO.none _
      | refine LeO.ite ?_ ?_
      | refine LeO.bind ?_ (fun _ => ?_)
    · intro y0 y1 y2
      unfold pretty_spec.l1
      repeat' first
      | (with_reducible exact ih0 _ _ _)
      | (with_reducible exact ih1 _ _ _)
      | (with_reducible exact ih2 _ _ _)
      | (with_reducible exact ih3 _ _ _ _)
      | (with_reducible exact ih4 _ _ _ _)
      | (with_reducible exact ih5 _ _ _ _)
      | (with_reducible exact ih6 _ _ _)
      | (with_reducible exact ih7 _ _ _)
      | (with_reducible exact ih8 _ _ _ _)
      | (with_reducible exact LeO.refl _)
      | (with_reducible exact LeO.none _)
      | (with_reducible refine LeO.ite ?_ ?_)
      | (with_reducible refine LeO.bind ?_ (fun _ => ?_))
      | exact ih0 _ _ _
      | exact ih1 _ _ _
      | exact ih2 _ _ _
      | exact ih3 _ _ _ _
      | exact ih4 _ _ _ _
      | exact ih5 _ _ _ _
      | exact ih6 _ _ _
      | exact ih7 _ _ _
      | exact ih8 _ _ _ _
      | exact LeO.none _
      | refine LeO.ite ?_ ?_
      | refine LeO.bind ?_ (fun _ => ?_)
    · intro y0 y1 y2
      unfold pretty_spec.l2
      repeat' first
      | (with_reducible exact ih0 _ _ _)
      | (with_reducible exact ih1 _ _ _)
      | (with_reducible exact ih2 _ _ _)
      | (with_reducible exact ih3 _ _ _ _)
      | (with_reducible exact ih4 _ _ _ _)
      | (with_reducible exact ih5 _ _ _ _)
      | (with_reducible exact ih6 _ _ _)
      | (with_reducible exact ih7 _ _ _)
      | (with_reducible exact ih8 _ _ _ _)
      | (with_reducible exact LeO.refl _)
      | (with_reducible exact LeO.none _)
      | (with_reducible refine LeO.ite ?_ ?_)
      | (with_reducible refine LeO.bind ?_ (fun _ => ?_))
      | exact ih0 _ _ _
      | exact ih1 _ _ _
      | exact ih2 _ _ _
      | exact ih3 _ _ _ _
      | exact ih4 _ _ _ _
      | exact ih5 _ _ _ _
      | exact ih6 _ _ _
      | exact ih7 _ _ _
      | exact ih8 _ _ _ _
      | exact LeO.none _
      | refine LeO.ite ?_ ?_
      | refine LeO.bind ?_ (fun _ => ?_)
    · intro y0 y1 y2 y3
      unfold pretty_spec.j3
      repeat' first
      | (with_reducible exact ih0 _ _ _)
      | (with_reducible exact ih1 _ _ _)
      | (with_reducible exact ih2 _ _ _)
      | (with_reducible exact ih3 _ _ _ _)
      | (with_reducible exact ih4 _ _ _ _)
      | (with_reducible exact ih5 _ _ _ _)
      | (with_reducible exact ih6 _ _ _)
      | (with_reducible exact ih7 _ _ _)
      | (with_reducible exact ih8 _ _ _ _)
      | (with_reducible exact LeO.refl _)
      | (with_reducible exact LeO.none _)
      | (with_reducible refine LeO.ite ?_ ?_)
      | (with_reducible refine LeO.bind ?_ (fun _ => ?_))
      | exact ih0 _ _ _
      | exact ih1 _ _ _
      | exact ih2 _ _ _
      | exact ih3 _ _ _ _
      | exact ih4 _ _ _ _
      | exact ih5 _ _ _ _
      | exact ih6 _ _ _
      | exact ih7 _ _ _
      | exact ih8 _ _ _ _
      | exact LeO.none _
      | refine LeO.ite ?_ ?_
      | refine LeO.bind ?_ (fun _ => ?_)
theorem pretty_spec.mono : ∀ a0 a1 k, LeO (pretty_spec.f k a0 a1) (pretty_spec.f (k + 1) a0 a1) := by
  intro a0 a1 k
  obtain ⟨ih0, ih1, ih2, ih3, ih4, ih5, ih6, ih7, ih8⟩ := pretty_spec.mono_l k
  unfold pretty_spec.f
  repeat' first
      | (with_reducible exact ih0 _ _ _)
      | (with_reducible exact ih1 _ _ _)
      | (with_reducible exact ih2 _ _ _)
      | (with_reducible exact ih3 _ _ _ _)
      | (with_reducible exact ih4 _ _ _ _)
      | (with_reducible exact ih5 _ _ _ _)
      | (with_reducible exact ih6 _ _ _)
      | (with_reducible exact ih7 _ _ _)
      | (with_reducible exact ih8 _ _ _ _)
      | (with_reducible exact LeO.refl _)
      | (with_reducible exact LeO.none _)
      | (with_reducible refine LeO.ite ?_ ?_)
      | (with_reducible refine LeO.bind ?_ (fun _ => ?_))
      | exact ih0 _ _ _
      | exact ih1 _ _ _
      | exact ih2 _ _ _
      | exact ih3 _ _ _ _
      | exact ih4 _ _ _ _
      | exact ih5 _ _ _ _
      | exact ih6 _ _ _
      | exact ih7 _ _ _
      | exact ih8 _ _ _ _
      | exact LeO.none _
      | refine LeO.ite ?_ ?_
      | refine LeO.bind ?_ (fun _ => ?_)
set_option maxHeartbeats 8000000 in
set_option maxRecDepth 100000 in
theorem pretty_spec.calls (k : Nat) (A0 : Option Addr) (c0 : Nat) (l0 : List Int) (P1_ : Nat → Prop) (u9000_ : Value) (l1 : List Int) (r : List Int) (w0 w : World) (hB : Below w0.heap.size w0 w) (hr0 : ∀ W_, Kept w W_ (fun k_ => P1_ k_) → Kd.C (Kd.int .u8) W_ A0 l0.length l0) (hc0 : l0.length ≤ c0) (ho1 : Kd.R (Kd.int .u8) 5 w w0.heap.size P1_ u9000_ l1) (h : pretty_spec.f k l0 l1 = some r) :
    Calls Try.prog 48 #[.slice A0 l0.length c0, u9000_] w fun e w' => ∃ v0_ : Value, e = .returned (v0_) ∧ Kd.R (Kd.int .u8) 5 w' w0.heap.size (fun k_ => (P1_ k_ ∨ w.heap.size ≤ k_)) v0_ r ∧ Below w0.heap.size w0 w' ∧ Kept w w' (fun k_ => P1_ k_) := by
  have HR0 := Aside0.mk hr0
  have HC0 := Aside0.mk hc0
  clear hr0 hc0
  have HO1 := Aside0.mk (show Kd.R (Kd.int .u8) 5 w w0.heap.size (fun k_ => (P1_ k_ ∨ w.heap.size ≤ k_)) u9000_ l1 from Kd.R_mono ho1 (fun k_ hk => (.inl hk)))
  have HK := Aside0.mk (Kept.refl w (fun k_ => P1_ k_))
  have HW0 := Aside0.mk hB.size
  have HB := Aside0.mk hB
  clear hB
  have H : (if 0 ≤ (l1.length : Int) then (pretty_spec.l0 k l0 (l1.take (0 : Int).toNat) 0) else (none)) = some r := h
  clear h
  by_cases c3 : 0 ≤ (l1.length : Int)
  · rw [if_pos c3] at H
    have c3b0 := eq_true c3
    have c3b1 : decide (0 ≤ (l1.length : Int)) = true := decide_eq_true c3
    clear c3
    obtain ⟨y411, hy411⟩ : ∃ y_ : List Int, y_ = (l1.take (0 : Int).toNat) := ⟨_, rfl⟩
    replace H : (pretty_spec.l0 k l0 y411 0) = some r := by first | (rw [hy411]; with_reducible exact H) | (have H2_ := (Option.bind_some _ _).symm.trans H; rw [hy411]; with_reducible exact H2_) | (have H2_ := (Option.bind_some _ _).symm.trans H; with_reducible exact H2_) | with_reducible exact H | (rw [hy411]; exact H) | exact H
    have Ny411 := Aside0.mk hy411
    clear hy411
    have H' := Aside0.mk H
    clear H
    obtain ⟨Ao4, co4, eo4⟩ := Kd.R_slice HO1.out
    subst eo4
    have q5 : (0 : Int) ≤ ((l1.length : Int) : Int) := of_decide_eq_true (by first | (with_reducible assumption) | assumption)
    obtain ⟨i05, hi05, _, hsz5, _⟩ := info_parts info5
    have hcut5 := cut_to (P := Try.prog) 42 5 .i64 Try.underlying42 hi05 Ao4 l1.length co4 0 (by omega) q5 (Kd.R_reads' HO1.out).2.1
    have hr5 := Kd.R_take (m := (0 : Int).toNat) HO1.out (by omega)
    have hy5 : y411.length = (0 : Int).toNat := (by rw [Ny411.out, List.length_take]; omega)
    rw [← Ny411.out] at hr5
    rw [← hy5] at hr5 hcut5
    clear hy5 hi05 hsz5 HO1
    have HO413 := Aside0.mk hr5
    clear hr5
    replace q5 := eq_true q5
    go_enter Try.func48, Try.ntmps48
    go_wp2
    try simp only [Act.put, List.setIfInBounds_toArray, List.set_cons_succ, List.set_cons_zero]
    go_loopg [1, 5] k (fun kq v1 v5 w' => ∃ (x1_1 : List Int) (x5_1 : Int), v5 = .int .i64 x5_1 ∧ Aside0 (pretty_spec.l0 kq l0 x1_1 x5_1 = some r) ∧ Aside0 (kq ≤ k) ∧ Aside0 (Kd.R (Kd.int .u8) 5 w' w0.heap.size (fun k_ => (P1_ k_ ∨ w.heap.size ≤ k_)) v1 x1_1) ∧ Aside0 (Kept w w' (fun k_ => P1_ k_)) ∧ Aside0 (Below w0.heap.size w0 w'))
    case atStart => exact ⟨(y411), (0), (by first | rfl | (simp; done) | (simp [*]; done)), H', ⟨Nat.le_refl _⟩, ⟨by (with_reducible repeat (first | apply Kd.R_alloc | apply Kd.R_drewN | apply Kd.R_drew)); exact HO413.out⟩, ⟨by repeat (first | (with_reducible first | exact HK.out | apply Kept.alloc | apply Kept.drewN | apply Kept.drew) | exact HK.out)⟩, ⟨by repeat (first | (with_reducible first | exact HB.out | apply below_alloc | apply pw_below_drewN | apply below_drew1) | exact HB.out)⟩⟩
    case round => as_aux_lemma =>
      clear H'
      try clear p2
      try clear c3
      try clear c3b0
      try clear c3b1
      try clear c4
      try clear q5
      try clear q5
      obtain ⟨x1_1, x5_1, rfl, HA, HK1, HO_1, HK, HB⟩ := hrel
      cases gk with
      | zero => exact absurd HA.out (by simp [pretty_spec.l0])
      | succ k1 =>
        have H := HA.out
        clear HA
        simp only [pretty_spec.l0] at H
        by_cases c6 : x5_1 < (l0.length : Int)
        · rw [if_pos c6] at H
          have c6b0 : decide (x5_1 < (l0.length : Int)) = true := decide_eq_true c6
          clear c6
          by_cases c7 : 0 ≤ x5_1
          · rw [if_pos c7] at H
            have c7b0 : decide (0 ≤ x5_1) = true := decide_eq_true c7
            clear c7
            have HC8 := Aside0.mk H
            clear H
            have p414 : 0 ≤ (x5_1 : Int) := of_decide_eq_true (by first | (with_reducible assumption) | assumption)
            have q414 : x5_1 < (l0.length : Int) := of_decide_eq_true (by first | (with_reducible assumption) | assumption)
            obtain ⟨ad414, e414, hx414_0⟩ := Kd.at_int (Kd.C_kept_now HR0.out HK.out) x5_1 p414 q414
            cases e414
            replace p414 := eq_true p414
            replace q414 := eq_true q414
            go_upto_if 20 with (fail)
            go_cut [1, 5] (fun v1 v5 wc => ∃ (kq : Nat) (x1_7 : List Int) (x5_7 : Int), v5 = .int .i64 x5_7 ∧ Aside0 (pretty_spec.j4 kq l0 x1_7 x5_7 = some r) ∧ Aside0 (kq ≤ k1) ∧ Aside0 (Kd.R (Kd.int .u8) 5 wc w0.heap.size (fun k_ => (P1_ k_ ∨ w.heap.size ≤ k_)) v1 x1_7) ∧ Aside0 (Kept w wc (fun k_ => P1_ k_)) ∧ Aside0 (Below w0.heap.size w0 wc))
            case first =>
              have H := HC8.out
              clear HC8
              by_cases c9 : (rd l0 x5_1) = 47
              · rw [if_pos c9] at H
                have c9b0 : ((rd l0 x5_1) == 47) = true := beq_iff_eq.mpr c9
                have c9b1 : ((rd l0 x5_1) != 47) = false := bne_eq_false_iff_eq.mpr c9
                clear c9
                (first | rw [c9b0] | (simp only [i64_w, i32_w]; rw [c9b0]) | skip)
                by_cases c10 : x5_1 < (wrap64 ((l0.length : Int) - 1))
                · rw [if_pos c10] at H
                  have c10b0 : decide (x5_1 < (wrap64 ((l0.length : Int) - 1))) = true := decide_eq_true c10
                  clear c10
                  obtain ⟨ji11, hji11⟩ : ∃ j_ : Int, (wrap64 (x5_1 + 1)) = j_ := ⟨_, rfl⟩
                  replace H : (if 0 ≤ (ji11) then (if (ji11) < (l0.length : Int) then (if (rd l0 (ji11)) = 47 then ((some (([32, 32] : List Int) : List Int)).bind fun y416 => (if x1_1.length + y416.length < 140737488355328 then (pretty_spec.l1 k1 l0 (x1_1 ++ y416) (wrap64 (x5_1 + 2))) else (none))) else (if (rd l0 (ji11)) = 42 then ((some (([32, 32] : List Int) : List Int)).bind fun y440 => (if x1_1.length + y440.length < 140737488355328 then (pretty_spec.l2 k1 l0 (x1_1 ++ y440) (wrap64 (x5_1 + 2))) else (none))) else (pretty_spec.j4 k1 l0 x1_1 x5_1))) else (none)) else (none)) = some r := by first | (rw [hji11] at H; exact H) | (simp only [hji11] at H ⊢; exact H)
                  have hji11w : (IntKind.i64.wrap (x5_1 + 1)) = ji11 := (i64_w _).trans hji11
                  by_cases c12 : 0 ≤ (ji11)
                  · rw [if_pos c12] at H
                    have c12b0 : decide (0 ≤ (ji11)) = true := decide_eq_true c12
                    clear c12
                    by_cases c13 : (ji11) < (l0.length : Int)
                    · rw [if_pos c13] at H
                      have c13b0 : decide ((ji11) < (l0.length : Int)) = true := decide_eq_true c13
                      clear c13
                      by_cases c14 : (rd l0 (ji11)) = 47
                      · rw [if_pos c14] at H
                        have c14b0 : ((rd l0 (ji11)) == 47) = true := beq_iff_eq.mpr c14
                        have c14b1 : ((rd l0 (ji11)) != 47) = false := bne_eq_false_iff_eq.mpr c14
                        clear c14
                        obtain ⟨y416, hy416⟩ : ∃ y_ : List Int, y_ = (([32, 32] : List Int)) := ⟨_, rfl⟩
                        replace H : (if x1_1.length + y416.length < 140737488355328 then (pretty_spec.l1 k1 l0 (x1_1 ++ y416) (wrap64 (x5_1 + 2))) else (none)) = some r := by first | (rw [hy416]; with_reducible exact H) | (have H2_ := (Option.bind_some _ _).symm.trans H; rw [hy416]; with_reducible exact H2_) | (have H2_ := (Option.bind_some _ _).symm.trans H; with_reducible exact H2_) | with_reducible exact H | (rw [hy416]; exact H) | exact H
                        have Ny416 := Aside0.mk hy416
                        clear hy416
                        by_cases c15 : x1_1.length + y416.length < 140737488355328
                        · rw [if_pos c15] at H
                          have LMc15 := Aside0.mk c15
                          clear c15
                          obtain ⟨y419, hy419⟩ : ∃ y_ : List Int, y_ = (x1_1 ++ y416) := ⟨_, rfl⟩
                          replace H : (pretty_spec.l1 k1 l0 y419 (wrap64 (x5_1 + 2))) = some r := by first | (rw [hy419]; with_reducible exact H) | (have H2_ := (Option.bind_some _ _).symm.trans H; rw [hy419]; with_reducible exact H2_) | (have H2_ := (Option.bind_some _ _).symm.trans H; with_reducible exact H2_) | with_reducible exact H | (rw [hy419]; exact H) | exact H
                          have Ny419 := Aside0.mk hy419
                          clear hy419
                          have H' := Aside0.mk H
                          clear H
                          have p415 : 0 ≤ ((ji11) : Int) := of_decide_eq_true (by first | (with_reducible assumption) | assumption)
                          have q415 : (ji11) < (l0.length : Int) := of_decide_eq_true (by first | (with_reducible assumption) | assumption)
                          obtain ⟨ad415, e415, hx415_0⟩ := Kd.at_int (Kd.C_kept_now HR0.out HK.out) (ji11) p415 q415
                          obtain rfl : ad414 = ad415 := (by injection e415)
                          replace p415 := eq_true p415
                          replace q415 := eq_true q415
                          go_wp2_with (first | ((with_reducible refine gate_dst (N := 33) rfl ?_); refine Kd.R_lit (Kd.int .u8) _ 5 ?hg (N := 33) ?hd (xs := ([32, 32] : List Int)) (inner := [.int .u8 32, .int .u8 32]) (ok := fun _ => True) (okp := fun _ => True) ?hr ?hp (fun _ hk => hk) trivial (Below.refl _ _) (Nat.le_refl _) (by simp) ?_; (case hd => rfl); (case hg => rfl); (case hr => first | (go_simp; done) | (go_simp; rfl)); (case hp => exact (Reps.one (show Kd.M (Kd.int .u8) _ _ _ 32 [.int .u8 32] from rfl) (Reps.one (show Kd.M (Kd.int .u8) _ _ _ 32 [.int .u8 32] from rfl) (Reps.none _ _)))); intro v417 w16 ho17 hb hg_ hnew_; clear hg_ hnew_; (first | rw [← Ny416.out] at ho17 | (simp only [Int.reduceToNat] at ho17; rw [← Ny416.out] at ho17)); have n0_ := Aside0.mk (Kd.R_elder' (by (with_reducible repeat (first | apply Kd.R_alloc | apply Kd.R_drewN | apply Kd.R_drew)); exact HO_1.out) (Kd.R_base ho17) hb); have n1_ := Aside0.mk (Kd.R_lower (Kd.R_new' (Kd.R_newM (M := fun k_ => (P1_ k_ ∨ w.heap.size ≤ k_)) ho17 (by first | exact HK.out.1 | exact (show Kept w _ (fun k_ => P1_ k_) from by repeat (first | (with_reducible first | exact HK.out | apply Kept.alloc | apply Kept.drewN | apply Kept.drew) | exact HK.out)).1) (fun k_ h_ => .inr h_)) (Kd.R_lt (by (with_reducible repeat (first | apply Kd.R_alloc | apply Kd.R_drewN | apply Kd.R_drew)); exact HO_1.out))) (below_size (by repeat (first | (with_reducible first | exact HB.out | apply below_alloc | apply pw_below_drewN | apply below_drew1) | exact HB.out)))); have n2_ := Aside0.mk (Kept.below (S := (fun k_ => P1_ k_)) (by repeat (first | (with_reducible first | exact HK.out | apply Kept.alloc | apply Kept.drewN | apply Kept.drew) | exact HK.out)) hb); have n3_ := Aside0.mk (below_step (by repeat (first | (with_reducible first | exact HB.out | apply below_alloc | apply pw_below_drewN | apply below_drew1) | exact HB.out)) hb); clear HO_1; clear HK; clear HB; have HO_1 := n0_; have HO418 := n1_; have HK := n2_; have HB := n3_; clear n0_ n1_ n2_ n3_; clear hb ho17; obtain ⟨Ao19, co19, eo19⟩ := Kd.R_slice HO418.out; subst eo19) | ((with_reducible refine gate_builtin (b := .append) (xs := #[.tmp 32, .tmp 33]) rfl ?_); at_builtin; refine Kd.R_append_rows (Kd.int .u8) (w0 := w0) w0.heap.size rfl (.tmp 32) (.tmp 33) 42 5 (.int .u8 0) 1 rfl Try.underlying42 info5 rfl (by decide) (by omega) u1 x1_1 y416 _ _ _ (fun k_ => (P1_ k_ ∨ w.heap.size ≤ k_) ∧ some k_ ≠ (.slice Ao19 y416.length co19 : Value).ownBlock) (fun _ => False) rfl rfl ?aO ?aR (fun _ _ h => h) (fun _ h => h.elim) ?aF ?aB ?aS ?aL ?_; (case aR => repeat (first | exact (Kd.R_reads' HO418.out).2.2 | (with_reducible refine Kd.C_alloc ?_ _) | (with_reducible refine Kd.C_drewN ?_ _) | (with_reducible refine Kd.C_drew ?_))); (case aB => exact (by repeat (first | (with_reducible first | exact HB.out | apply below_alloc | apply pw_below_drewN | apply below_drew1) | exact HB.out))); (case aF => exact (fun k_ hk => ⟨(.inr (Nat.le_trans (by first | exact HK.out.1 | exact (show Kept w _ (fun k_ => P1_ k_) from by repeat (first | (with_reducible first | exact HK.out | apply Kept.alloc | apply Kept.drewN | apply Kept.drew) | exact HK.out)).1) hk)), Kd.fresh' (Kd.R_lt (by (with_reducible repeat (first | apply Kd.R_alloc | apply Kd.R_drewN | apply Kd.R_drew)); exact HO418.out)) k_ hk⟩)); (case aO => exact (by (with_reducible repeat (first | apply Kd.R_alloc | apply Kd.R_drewN | apply Kd.R_drew)); exact HO_1.out)); (case aS => exact (below_size (by repeat (first | (with_reducible first | exact HB.out | apply below_alloc | apply pw_below_drewN | apply below_drew1) | exact HB.out)))); (case aL => have := LMc15.out; omega); intro v420 w18 ho hb hg hat; rw [← Ny419.out] at ho; have n0_ := Aside0.mk (Kd.R_after (ok := (fun k_ => (P1_ k_ ∨ w.heap.size ≤ k_))) (by (with_reducible repeat (first | apply Kd.R_alloc | apply Kd.R_drewN | apply Kd.R_drew)); exact Kd.R_mono HO418.out (fun _ hk => ⟨hk.1.1, hk.2⟩)) hg hat); have n1_ := Aside0.mk (hb); have n2_ := Aside0.mk (Kept.of_grown (S := (fun k_ => P1_ k_)) hg (by repeat (first | (with_reducible first | exact HK.out | apply Kept.alloc | apply Kept.drewN | apply Kept.drew) | exact HK.out)) (fun k_ e_ => (HO_1.out.1 k_ e_).1)); have n3_ := Aside0.mk (ho); clear HO418; clear HB; clear HK; clear HO_1; have HO418 := n0_; have HB := n1_; have HK := n2_; have HO421 := n3_; clear n0_ n1_ n2_ n3_; clear ho hb hg hat))
                          try simp only [Act.put, List.setIfInBounds_toArray, List.set_cons_succ, List.set_cons_zero]
                          go_loopg [1, 5] k1 (fun kq v1 v5 w' => ∃ (x1_2 : List Int) (x5_2 : Int), v5 = .int .i64 x5_2 ∧ Aside0 (pretty_spec.l1 kq l0 x1_2 x5_2 = some r) ∧ Aside0 (kq ≤ k1) ∧ Aside0 (Kd.R (Kd.int .u8) 5 w' w0.heap.size (fun k_ => (P1_ k_ ∨ w.heap.size ≤ k_)) v1 x1_2) ∧ Aside0 (Kept w w' (fun k_ => P1_ k_)) ∧ Aside0 (Below w0.heap.size w0 w'))
                          case atStart => exact ⟨(y419), (wrap64 (x5_1 + 2)), (by first | rfl | (simp; done) | (simp [*]; done)), H', ⟨Nat.le_refl _⟩, ⟨by (with_reducible repeat (first | apply Kd.R_alloc | apply Kd.R_drewN | apply Kd.R_drew)); exact Kd.R_mono HO421.out (fun _ hk => hk.1)⟩, ⟨by repeat (first | (with_reducible first | exact HK.out | apply Kept.alloc | apply Kept.drewN | apply Kept.drew) | exact HK.out)⟩, ⟨by repeat (first | (with_reducible first | exact HB.out | apply below_alloc | apply pw_below_drewN | apply below_drew1) | exact HB.out)⟩⟩
                          case round => as_aux_lemma =>
                            clear H'
                            try clear c1
                            try clear p2
                            try clear c3
                            try clear c3b0
                            try clear c3b1
                            try clear c4
                            try clear p4
                            try clear q4
                            try clear hx4
                            try clear q5
                            try clear c6
                            try clear c6b0
                            try clear p6
                            try clear c7
                            try clear c7b0
                            try clear c9
                            try clear c9b0
                            try clear c9b1
                            try clear c10
                            try clear c10b0
                            try clear c12
                            try clear c12b0
                            try clear c13
                            try clear c13b0
                            try clear c14
                            try clear c14b0
                            try clear c14b1
                            try clear c15
                            try clear hx414_0
                            try clear hx415_0
                            try clear p2
                            try clear p414
                            try clear p415
                            try clear q414
                            try clear q415
                            try clear q5
                            obtain ⟨x1_2, x5_2, rfl, HA, HK2, HO_1, HK, HB⟩ := hrel
                            cases gk with
                            | zero => exact absurd HA.out (by simp [pretty_spec.l1])
                            | succ k2 =>
                              have H := HA.out
                              clear HA
                              simp only [pretty_spec.l1] at H
                              by_cases c20 : x5_2 < (l0.length : Int)
                              · rw [if_pos c20] at H
                                have c20b0 : decide (x5_2 < (l0.length : Int)) = true := decide_eq_true c20
                                clear c20
                                by_cases c21 : 0 ≤ x5_2
                                · rw [if_pos c21] at H
                                  have c21b0 : decide (0 ≤ x5_2) = true := decide_eq_true c21
                                  clear c21
                                  by_cases c22 : (rd l0 x5_2) = 10
                                  · rw [if_pos c22] at H
                                    have c22b0 : ((rd l0 x5_2) == 10) = true := beq_iff_eq.mpr c22
                                    have c22b1 : ((rd l0 x5_2) != 10) = false := bne_eq_false_iff_eq.mpr c22
                                    clear c22
                                    by_cases c23 : x1_2.length < 140737488355328
                                    · rw [if_pos c23] at H
                                      have LMc23 := Aside0.mk c23
                                      clear c23
                                      obtain ⟨y423, hy423⟩ : ∃ y_ : List Int, y_ = (x1_2 ++ [10]) := ⟨_, rfl⟩
                                      replace H : (pretty_spec.l0 k2 l0 y423 (wrap64 (x5_2 + 1))) = some r := by first | (rw [hy423]; with_reducible exact H) | (have H2_ := (Option.bind_some _ _).symm.trans H; rw [hy423]; with_reducible exact H2_) | (have H2_ := (Option.bind_some _ _).symm.trans H; with_reducible exact H2_) | with_reducible exact H | (rw [hy423]; exact H) | exact H
                                      have Ny423 := Aside0.mk hy423
                                      clear hy423
                                      have H' := Aside0.mk H
                                      clear H
                                      have p422 : 0 ≤ (x5_2 : Int) := of_decide_eq_true (by first | (with_reducible assumption) | assumption)
                                      have q422 : x5_2 < (l0.length : Int) := of_decide_eq_true (by first | (with_reducible assumption) | assumption)
                                      obtain ⟨ad422, e422, hx422_0⟩ := Kd.at_int (Kd.C_kept_now HR0.out HK.out) x5_2 p422 q422
                                      obtain rfl : ad414 = ad422 := (by injection e422)
                                      replace p422 := eq_true p422
                                      replace q422 := eq_true q422
                                      go_wp2_with (first | ((with_reducible refine gate_builtin (b := .append) (xs := #[.tmp 48, .tmp 49]) rfl ?_); at_builtin; refine Kd.R_append (Kd.int .u8) (w0 := w0) w0.heap.size rfl (.tmp 48) (.tmp 49) 42 5 (.int .u8 0) 1 rfl Try.underlying42 info5 rfl (by decide) (by omega) u1 x1_2 10 [.int .u8 10] (fun k_ => (P1_ k_ ∨ w.heap.size ≤ k_)) (fun _ => False) rfl rfl ?aP (fun _ hk => hk.elim) ?aF ?aO ?aB ?aS ?aL ?_; (case aP => exact rfl); (case aB => exact (by repeat (first | (with_reducible first | exact HB.out | apply below_alloc | apply pw_below_drewN | apply below_drew1) | exact HB.out))); (case aF => exact (fun k_ hk => (.inr (Nat.le_trans (by first | exact HK.out.1 | exact (show Kept w _ (fun k_ => P1_ k_) from by repeat (first | (with_reducible first | exact HK.out | apply Kept.alloc | apply Kept.drewN | apply Kept.drew) | exact HK.out)).1) hk)))); (case aO => exact (by (with_reducible repeat (first | apply Kd.R_alloc | apply Kd.R_drewN | apply Kd.R_drew)); exact HO_1.out)); (case aS => exact (below_size (by repeat (first | (with_reducible first | exact HB.out | apply below_alloc | apply pw_below_drewN | apply below_drew1) | exact HB.out)))); (case aL => have := LMc23.out; omega); intro v424 w24 ho hb hg hat; rw [← Ny423.out] at ho; have n0_ := Aside0.mk (hb); have n1_ := Aside0.mk (Kept.of_grown (S := (fun k_ => P1_ k_)) hg (by repeat (first | (with_reducible first | exact HK.out | apply Kept.alloc | apply Kept.drewN | apply Kept.drew) | exact HK.out)) (fun k_ e_ => (HO_1.out.1 k_ e_))); have n2_ := Aside0.mk (ho); clear HB; clear HK; clear HO_1; have HB := n0_; have HK := n1_; have HO425 := n2_; clear n0_ n1_ n2_; clear ho hb hg hat))
                                      go_roundg k2
                                      case measure => have := HK1.out; have := HK2.out; omega
                                      case rel => exact ⟨(y423), (wrap64 (x5_2 + 1)), (by first | rfl | (simp; done) | (simp [*]; done)), H', ⟨by have := HK1.out; have := HK2.out; omega⟩, ⟨by (with_reducible repeat (first | apply Kd.R_alloc | apply Kd.R_drewN | apply Kd.R_drew)); exact HO425.out⟩, ⟨by repeat (first | (with_reducible first | exact HK.out | apply Kept.alloc | apply Kept.drewN | apply Kept.drew) | exact HK.out)⟩, ⟨by repeat (first | (with_reducible first | exact HB.out | apply below_alloc | apply pw_below_drewN | apply below_drew1) | exact HB.out)⟩⟩
                                    · rw [if_neg c23] at H
                                      exact absurd H (by simp)
                                  · rw [if_neg c22] at H
                                    have c22b0 : ((rd l0 x5_2) == 10) = false := beq_eq_false_iff_ne.mpr c22
                                    have c22b1 : ((rd l0 x5_2) != 10) = true := bne_iff_ne.mpr c22
                                    by_cases c25 : (rd l0 x5_2) = 9
                                    · rw [if_pos c25] at H
                                      have c25b0 : ((rd l0 x5_2) == 9) = true := beq_iff_eq.mpr c25
                                      have c25b1 : ((rd l0 x5_2) != 9) = false := bne_eq_false_iff_eq.mpr c25
                                      clear c25
                                      by_cases c26 : x1_2.length < 140737488355328
                                      · rw [if_pos c26] at H
                                        have LMc26 := Aside0.mk c26
                                        clear c26
                                        obtain ⟨y428, hy428⟩ : ∃ y_ : List Int, y_ = (x1_2 ++ [rd l0 x5_2]) := ⟨_, rfl⟩
                                        replace H : (pretty_spec.l1 k2 l0 y428 (wrap64 (x5_2 + 1))) = some r := by first | (rw [hy428]; with_reducible exact H) | (have H2_ := (Option.bind_some _ _).symm.trans H; rw [hy428]; with_reducible exact H2_) | (have H2_ := (Option.bind_some _ _).symm.trans H; with_reducible exact H2_) | with_reducible exact H | (rw [hy428]; exact H) | exact H
                                        have Ny428 := Aside0.mk hy428
                                        clear hy428
                                        have H' := Aside0.mk H
                                        clear H
                                        have p422 : 0 ≤ (x5_2 : Int) := of_decide_eq_true (by first | (with_reducible assumption) | assumption)
                                        have q422 : x5_2 < (l0.length : Int) := of_decide_eq_true (by first | (with_reducible assumption) | assumption)
                                        obtain ⟨ad422, e422, hx422_0⟩ := Kd.at_int (Kd.C_kept_now HR0.out HK.out) x5_2 p422 q422
                                        obtain rfl : ad414 = ad422 := (by injection e422)
                                        replace p422 := eq_true p422
                                        replace q422 := eq_true q422
                                        have p426 : 0 ≤ (x5_2 : Int) := of_decide_eq_true (by first | (with_reducible assumption) | assumption)
                                        have q426 : x5_2 < (l0.length : Int) := of_decide_eq_true (by first | (with_reducible assumption) | assumption)
                                        obtain ⟨ad426, e426, hx426_0⟩ := Kd.at_int (Kd.C_kept_now HR0.out HK.out) x5_2 p426 q426
                                        obtain rfl : ad414 = ad426 := (by injection e426)
                                        replace p426 := eq_true p426
                                        replace q426 := eq_true q426
                                        have p427 : 0 ≤ (x5_2 : Int) := of_decide_eq_true (by first | (with_reducible assumption) | assumption)
                                        have q427 : x5_2 < (l0.length : Int) := of_decide_eq_true (by first | (with_reducible assumption) | assumption)
                                        obtain ⟨ad427, e427, hx427_0⟩ := Kd.at_int (Kd.C_kept_now HR0.out HK.out) x5_2 p427 q427
                                        obtain rfl : ad414 = ad427 := (by injection e427)
                                        replace p427 := eq_true p427
                                        replace q427 := eq_true q427
                                        go_wp2_with (first | ((with_reducible refine gate_builtin (b := .append) (xs := #[.tmp 63, .tmp 68]) rfl ?_); at_builtin; refine Kd.R_append (Kd.int .u8) (w0 := w0) w0.heap.size rfl (.tmp 63) (.tmp 68) 42 5 (.int .u8 0) 1 rfl Try.underlying42 info5 rfl (by decide) (by omega) u1 x1_2 (rd l0 x5_2) [.int .u8 (rd l0 x5_2)] (fun k_ => (P1_ k_ ∨ w.heap.size ≤ k_)) (fun _ => False) rfl rfl ?aP (fun _ hk => hk.elim) ?aF ?aO ?aB ?aS ?aL ?_; (case aP => exact rfl); (case aB => exact (by repeat (first | (with_reducible first | exact HB.out | apply below_alloc | apply pw_below_drewN | apply below_drew1) | exact HB.out))); (case aF => exact (fun k_ hk => (.inr (Nat.le_trans (by first | exact HK.out.1 | exact (show Kept w _ (fun k_ => P1_ k_) from by repeat (first | (with_reducible first | exact HK.out | apply Kept.alloc | apply Kept.drewN | apply Kept.drew) | exact HK.out)).1) hk)))); (case aO => exact (by (with_reducible repeat (first | apply Kd.R_alloc | apply Kd.R_drewN | apply Kd.R_drew)); exact HO_1.out)); (case aS => exact (below_size (by repeat (first | (with_reducible first | exact HB.out | apply below_alloc | apply pw_below_drewN | apply below_drew1) | exact HB.out)))); (case aL => have := LMc26.out; omega); intro v429 w27 ho hb hg hat; rw [← Ny428.out] at ho; have n0_ := Aside0.mk (hb); have n1_ := Aside0.mk (Kept.of_grown (S := (fun k_ => P1_ k_)) hg (by repeat (first | (with_reducible first | exact HK.out | apply Kept.alloc | apply Kept.drewN | apply Kept.drew) | exact HK.out)) (fun k_ e_ => (HO_1.out.1 k_ e_))); have n2_ := Aside0.mk (ho); clear HB; clear HK; clear HO_1; have HB := n0_; have HK := n1_; have HO430 := n2_; clear n0_ n1_ n2_; clear ho hb hg hat))
                                        go_roundg k2
                                        case measure => have := HK1.out; have := HK2.out; omega
                                        case rel => exact ⟨(y428), (wrap64 (x5_2 + 1)), (by first | rfl | (simp; done) | (simp [*]; done)), H', ⟨by have := HK1.out; have := HK2.out; omega⟩, ⟨by (with_reducible repeat (first | apply Kd.R_alloc | apply Kd.R_drewN | apply Kd.R_drew)); exact HO430.out⟩, ⟨by repeat (first | (with_reducible first | exact HK.out | apply Kept.alloc | apply Kept.drewN | apply Kept.drew) | exact HK.out)⟩, ⟨by repeat (first | (with_reducible first | exact HB.out | apply below_alloc | apply pw_below_drewN | apply below_drew1) | exact HB.out)⟩⟩
                                      · rw [if_neg c26] at H
                                        exact absurd H (by simp)
                                    · rw [if_neg c25] at H
                                      have c25b0 : ((rd l0 x5_2) == 9) = false := beq_eq_false_iff_ne.mpr c25
                                      have c25b1 : ((rd l0 x5_2) != 9) = true := bne_iff_ne.mpr c25
                                      by_cases c28 : (rd l0 x5_2) = 13
                                      · rw [if_pos c28] at H
                                        have c28b0 : ((rd l0 x5_2) == 13) = true := beq_iff_eq.mpr c28
                                        have c28b1 : ((rd l0 x5_2) != 13) = false := bne_eq_false_iff_eq.mpr c28
                                        clear c28
                                        by_cases c29 : x1_2.length < 140737488355328
                                        · rw [if_pos c29] at H
                                          have LMc29 := Aside0.mk c29
                                          clear c29
                                          obtain ⟨y433, hy433⟩ : ∃ y_ : List Int, y_ = (x1_2 ++ [rd l0 x5_2]) := ⟨_, rfl⟩
                                          replace H : (pretty_spec.l1 k2 l0 y433 (wrap64 (x5_2 + 1))) = some r := by first | (rw [hy433]; with_reducible exact H) | (have H2_ := (Option.bind_some _ _).symm.trans H; rw [hy433]; with_reducible exact H2_) | (have H2_ := (Option.bind_some _ _).symm.trans H; with_reducible exact H2_) | with_reducible exact H | (rw [hy433]; exact H) | exact H
                                          have Ny433 := Aside0.mk hy433
                                          clear hy433
                                          have H' := Aside0.mk H
                                          clear H
                                          have p422 : 0 ≤ (x5_2 : Int) := of_decide_eq_true (by first | (with_reducible assumption) | assumption)
                                          have q422 : x5_2 < (l0.length : Int) := of_decide_eq_true (by first | (with_reducible assumption) | assumption)
                                          obtain ⟨ad422, e422, hx422_0⟩ := Kd.at_int (Kd.C_kept_now HR0.out HK.out) x5_2 p422 q422
                                          obtain rfl : ad414 = ad422 := (by injection e422)
                                          replace p422 := eq_true p422
                                          replace q422 := eq_true q422
                                          have p426 : 0 ≤ (x5_2 : Int) := of_decide_eq_true (by first | (with_reducible assumption) | assumption)
                                          have q426 : x5_2 < (l0.length : Int) := of_decide_eq_true (by first | (with_reducible assumption) | assumption)
                                          obtain ⟨ad426, e426, hx426_0⟩ := Kd.at_int (Kd.C_kept_now HR0.out HK.out) x5_2 p426 q426
                                          obtain rfl : ad414 = ad426 := (by injection e426)
                                          replace p426 := eq_true p426
                                          replace q426 := eq_true q426
                                          have p431 : 0 ≤ (x5_2 : Int) := of_decide_eq_true (by first | (with_reducible assumption) | assumption)
                                          have q431 : x5_2 < (l0.length : Int) := of_decide_eq_true (by first | (with_reducible assumption) | assumption)
                                          obtain ⟨ad431, e431, hx431_0⟩ := Kd.at_int (Kd.C_kept_now HR0.out HK.out) x5_2 p431 q431
                                          obtain rfl : ad414 = ad431 := (by injection e431)
                                          replace p431 := eq_true p431
                                          replace q431 := eq_true q431
                                          have p432 : 0 ≤ (x5_2 : Int) := of_decide_eq_true (by first | (with_reducible assumption) | assumption)
                                          have q432 : x5_2 < (l0.length : Int) := of_decide_eq_true (by first | (with_reducible assumption) | assumption)
                                          obtain ⟨ad432, e432, hx432_0⟩ := Kd.at_int (Kd.C_kept_now HR0.out HK.out) x5_2 p432 q432
                                          obtain rfl : ad414 = ad432 := (by injection e432)
                                          replace p432 := eq_true p432
                                          replace q432 := eq_true q432
                                          go_wp2_with (first | ((with_reducible refine gate_builtin (b := .append) (xs := #[.tmp 63, .tmp 68]) rfl ?_); at_builtin; refine Kd.R_append (Kd.int .u8) (w0 := w0) w0.heap.size rfl (.tmp 63) (.tmp 68) 42 5 (.int .u8 0) 1 rfl Try.underlying42 info5 rfl (by decide) (by omega) u1 x1_2 (rd l0 x5_2) [.int .u8 (rd l0 x5_2)] (fun k_ => (P1_ k_ ∨ w.heap.size ≤ k_)) (fun _ => False) rfl rfl ?aP (fun _ hk => hk.elim) ?aF ?aO ?aB ?aS ?aL ?_; (case aP => exact rfl); (case aB => exact (by repeat (first | (with_reducible first | exact HB.out | apply below_alloc | apply pw_below_drewN | apply below_drew1) | exact HB.out))); (case aF => exact (fun k_ hk => (.inr (Nat.le_trans (by first | exact HK.out.1 | exact (show Kept w _ (fun k_ => P1_ k_) from by repeat (first | (with_reducible first | exact HK.out | apply Kept.alloc | apply Kept.drewN | apply Kept.drew) | exact HK.out)).1) hk)))); (case aO => exact (by (with_reducible repeat (first | apply Kd.R_alloc | apply Kd.R_drewN | apply Kd.R_drew)); exact HO_1.out)); (case aS => exact (below_size (by repeat (first | (with_reducible first | exact HB.out | apply below_alloc | apply pw_below_drewN | apply below_drew1) | exact HB.out)))); (case aL => have := LMc29.out; omega); intro v434 w30 ho hb hg hat; rw [← Ny433.out] at ho; have n0_ := Aside0.mk (hb); have n1_ := Aside0.mk (Kept.of_grown (S := (fun k_ => P1_ k_)) hg (by repeat (first | (with_reducible first | exact HK.out | apply Kept.alloc | apply Kept.drewN | apply Kept.drew) | exact HK.out)) (fun k_ e_ => (HO_1.out.1 k_ e_))); have n2_ := Aside0.mk (ho); clear HB; clear HK; clear HO_1; have HB := n0_; have HK := n1_; have HO435 := n2_; clear n0_ n1_ n2_; clear ho hb hg hat))
                                          go_roundg k2
                                          case measure => have := HK1.out; have := HK2.out; omega
                                          case rel => exact ⟨(y433), (wrap64 (x5_2 + 1)), (by first | rfl | (simp; done) | (simp [*]; done)), H', ⟨by have := HK1.out; have := HK2.out; omega⟩, ⟨by (with_reducible repeat (first | apply Kd.R_alloc | apply Kd.R_drewN | apply Kd.R_drew)); exact HO435.out⟩, ⟨by repeat (first | (with_reducible first | exact HK.out | apply Kept.alloc | apply Kept.drewN | apply Kept.drew) | exact HK.out)⟩, ⟨by repeat (first | (with_reducible first | exact HB.out | apply below_alloc | apply pw_below_drewN | apply below_drew1) | exact HB.out)⟩⟩
                                        · rw [if_neg c29] at H
                                          exact absurd H (by simp)
                                      · rw [if_neg c28] at H
                                        have c28b0 : ((rd l0 x5_2) == 13) = false := beq_eq_false_iff_ne.mpr c28
                                        have c28b1 : ((rd l0 x5_2) != 13) = true := bne_iff_ne.mpr c28
                                        by_cases c31 : x1_2.length < 140737488355328
                                        · rw [if_pos c31] at H
                                          have LMc31 := Aside0.mk c31
                                          clear c31
                                          obtain ⟨y436, hy436⟩ : ∃ y_ : List Int, y_ = (x1_2 ++ [32]) := ⟨_, rfl⟩
                                          replace H : (pretty_spec.l1 k2 l0 y436 (wrap64 (x5_2 + 1))) = some r := by first | (rw [hy436]; with_reducible exact H) | (have H2_ := (Option.bind_some _ _).symm.trans H; rw [hy436]; with_reducible exact H2_) | (have H2_ := (Option.bind_some _ _).symm.trans H; with_reducible exact H2_) | with_reducible exact H | (rw [hy436]; exact H) | exact H
                                          have Ny436 := Aside0.mk hy436
                                          clear hy436
                                          have H' := Aside0.mk H
                                          clear H
                                          have p422 : 0 ≤ (x5_2 : Int) := of_decide_eq_true (by first | (with_reducible assumption) | assumption)
                                          have q422 : x5_2 < (l0.length : Int) := of_decide_eq_true (by first | (with_reducible assumption) | assumption)
                                          obtain ⟨ad422, e422, hx422_0⟩ := Kd.at_int (Kd.C_kept_now HR0.out HK.out) x5_2 p422 q422
                                          obtain rfl : ad414 = ad422 := (by injection e422)
                                          replace p422 := eq_true p422
                                          replace q422 := eq_true q422
                                          have p426 : 0 ≤ (x5_2 : Int) := of_decide_eq_true (by first | (with_reducible assumption) | assumption)
                                          have q426 : x5_2 < (l0.length : Int) := of_decide_eq_true (by first | (with_reducible assumption) | assumption)
                                          obtain ⟨ad426, e426, hx426_0⟩ := Kd.at_int (Kd.C_kept_now HR0.out HK.out) x5_2 p426 q426
                                          obtain rfl : ad414 = ad426 := (by injection e426)
                                          replace p426 := eq_true p426
                                          replace q426 := eq_true q426
                                          have p431 : 0 ≤ (x5_2 : Int) := of_decide_eq_true (by first | (with_reducible assumption) | assumption)
                                          have q431 : x5_2 < (l0.length : Int) := of_decide_eq_true (by first | (with_reducible assumption) | assumption)
                                          obtain ⟨ad431, e431, hx431_0⟩ := Kd.at_int (Kd.C_kept_now HR0.out HK.out) x5_2 p431 q431
                                          obtain rfl : ad414 = ad431 := (by injection e431)
                                          replace p431 := eq_true p431
                                          replace q431 := eq_true q431
                                          go_wp2_with (first | ((with_reducible refine gate_builtin (b := .append) (xs := #[.tmp 70, .tmp 71]) rfl ?_); at_builtin; refine Kd.R_append (Kd.int .u8) (w0 := w0) w0.heap.size rfl (.tmp 70) (.tmp 71) 42 5 (.int .u8 0) 1 rfl Try.underlying42 info5 rfl (by decide) (by omega) u1 x1_2 32 [.int .u8 32] (fun k_ => (P1_ k_ ∨ w.heap.size ≤ k_)) (fun _ => False) rfl rfl ?aP (fun _ hk => hk.elim) ?aF ?aO ?aB ?aS ?aL ?_; (case aP => exact rfl); (case aB => exact (by repeat (first | (with_reducible first | exact HB.out | apply below_alloc | apply pw_below_drewN | apply below_drew1) | exact HB.out))); (case aF => exact (fun k_ hk => (.inr (Nat.le_trans (by first | exact HK.out.1 | exact (show Kept w _ (fun k_ => P1_ k_) from by repeat (first | (with_reducible first | exact HK.out | apply Kept.alloc | apply Kept.drewN | apply Kept.drew) | exact HK.out)).1) hk)))); (case aO => exact (by (with_reducible repeat (first | apply Kd.R_alloc | apply Kd.R_drewN | apply Kd.R_drew)); exact HO_1.out)); (case aS => exact (below_size (by repeat (first | (with_reducible first | exact HB.out | apply below_alloc | apply pw_below_drewN | apply below_drew1) | exact HB.out)))); (case aL => have := LMc31.out; omega); intro v437 w32 ho hb hg hat; rw [← Ny436.out] at ho; have n0_ := Aside0.mk (hb); have n1_ := Aside0.mk (Kept.of_grown (S := (fun k_ => P1_ k_)) hg (by repeat (first | (with_reducible first | exact HK.out | apply Kept.alloc | apply Kept.drewN | apply Kept.drew) | exact HK.out)) (fun k_ e_ => (HO_1.out.1 k_ e_))); have n2_ := Aside0.mk (ho); clear HB; clear HK; clear HO_1; have HB := n0_; have HK := n1_; have HO438 := n2_; clear n0_ n1_ n2_; clear ho hb hg hat))
                                          go_roundg k2
                                          case measure => have := HK1.out; have := HK2.out; omega
                                          case rel => exact ⟨(y436), (wrap64 (x5_2 + 1)), (by first | rfl | (simp; done) | (simp [*]; done)), H', ⟨by have := HK1.out; have := HK2.out; omega⟩, ⟨by (with_reducible repeat (first | apply Kd.R_alloc | apply Kd.R_drewN | apply Kd.R_drew)); exact HO438.out⟩, ⟨by repeat (first | (with_reducible first | exact HK.out | apply Kept.alloc | apply Kept.drewN | apply Kept.drew) | exact HK.out)⟩, ⟨by repeat (first | (with_reducible first | exact HB.out | apply below_alloc | apply pw_below_drewN | apply below_drew1) | exact HB.out)⟩⟩
                                        · rw [if_neg c31] at H
                                          exact absurd H (by simp)
                                · rw [if_neg c21] at H
                                  exact absurd H (by simp)
                              · rw [if_neg c20] at H
                                have c20b0 : decide (x5_2 < (l0.length : Int)) = false := decide_eq_false c20
                                clear c20
                                have H' := Aside0.mk H
                                clear H
                                go_wp2
                                go_roundg k2
                                case measure => have := HK1.out; have := HK2.out; omega
                                case rel => exact ⟨(x1_2), (wrap64 (x5_2 + 1)), (by first | rfl | (simp; done) | (simp [*]; done)), H', ⟨by have := HK1.out; have := HK2.out; omega⟩, ⟨by (with_reducible repeat (first | apply Kd.R_alloc | apply Kd.R_drewN | apply Kd.R_drew)); exact HO_1.out⟩, ⟨by repeat (first | (with_reducible first | exact HK.out | apply Kept.alloc | apply Kept.drewN | apply Kept.drew) | exact HK.out)⟩, ⟨by repeat (first | (with_reducible first | exact HB.out | apply below_alloc | apply pw_below_drewN | apply below_drew1) | exact HB.out)⟩⟩
                        · rw [if_neg c15] at H
                          exact absurd H (by simp)
                      · rw [if_neg c14] at H
                        have c14b0 : ((rd l0 (ji11)) == 47) = false := beq_eq_false_iff_ne.mpr c14
                        have c14b1 : ((rd l0 (ji11)) != 47) = true := bne_iff_ne.mpr c14
                        by_cases c33 : (rd l0 (ji11)) = 42
                        · rw [if_pos c33] at H
                          have c33b0 : ((rd l0 (ji11)) == 42) = true := beq_iff_eq.mpr c33
                          have c33b1 : ((rd l0 (ji11)) != 42) = false := bne_eq_false_iff_eq.mpr c33
                          clear c33
                          obtain ⟨y440, hy440⟩ : ∃ y_ : List Int, y_ = (([32, 32] : List Int)) := ⟨_, rfl⟩
                          replace H : (if x1_1.length + y440.length < 140737488355328 then (pretty_spec.l2 k1 l0 (x1_1 ++ y440) (wrap64 (x5_1 + 2))) else (none)) = some r := by first | (rw [hy440]; with_reducible exact H) | (have H2_ := (Option.bind_some _ _).symm.trans H; rw [hy440]; with_reducible exact H2_) | (have H2_ := (Option.bind_some _ _).symm.trans H; with_reducible exact H2_) | with_reducible exact H | (rw [hy440]; exact H) | exact H
                          have Ny440 := Aside0.mk hy440
                          clear hy440
                          by_cases c34 : x1_1.length + y440.length < 140737488355328
                          · rw [if_pos c34] at H
                            have LMc34 := Aside0.mk c34
                            clear c34
                            obtain ⟨y443, hy443⟩ : ∃ y_ : List Int, y_ = (x1_1 ++ y440) := ⟨_, rfl⟩
                            replace H : (pretty_spec.l2 k1 l0 y443 (wrap64 (x5_1 + 2))) = some r := by first | (rw [hy443]; with_reducible exact H) | (have H2_ := (Option.bind_some _ _).symm.trans H; rw [hy443]; with_reducible exact H2_) | (have H2_ := (Option.bind_some _ _).symm.trans H; with_reducible exact H2_) | with_reducible exact H | (rw [hy443]; exact H) | exact H
                            have Ny443 := Aside0.mk hy443
                            clear hy443
                            have H' := Aside0.mk H
                            clear H
                            have p415 : 0 ≤ ((ji11) : Int) := of_decide_eq_true (by first | (with_reducible assumption) | assumption)
                            have q415 : (ji11) < (l0.length : Int) := of_decide_eq_true (by first | (with_reducible assumption) | assumption)
                            obtain ⟨ad415, e415, hx415_0⟩ := Kd.at_int (Kd.C_kept_now HR0.out HK.out) (ji11) p415 q415
                            obtain rfl : ad414 = ad415 := (by injection e415)
                            replace p415 := eq_true p415
                            replace q415 := eq_true q415
                            have p439 : 0 ≤ ((ji11) : Int) := of_decide_eq_true (by first | (with_reducible assumption) | assumption)
                            have q439 : (ji11) < (l0.length : Int) := of_decide_eq_true (by first | (with_reducible assumption) | assumption)
                            obtain ⟨ad439, e439, hx439_0⟩ := Kd.at_int (Kd.C_kept_now HR0.out HK.out) (ji11) p439 q439
                            obtain rfl : ad414 = ad439 := (by injection e439)
                            replace p439 := eq_true p439
                            replace q439 := eq_true q439
                            go_wp2_with (first | ((with_reducible refine gate_dst (N := 80) rfl ?_); refine Kd.R_lit (Kd.int .u8) _ 5 ?hg (N := 80) ?hd (xs := ([32, 32] : List Int)) (inner := [.int .u8 32, .int .u8 32]) (ok := fun _ => True) (okp := fun _ => True) ?hr ?hp (fun _ hk => hk) trivial (Below.refl _ _) (Nat.le_refl _) (by simp) ?_; (case hd => rfl); (case hg => rfl); (case hr => first | (go_simp; done) | (go_simp; rfl)); (case hp => exact (Reps.one (show Kd.M (Kd.int .u8) _ _ _ 32 [.int .u8 32] from rfl) (Reps.one (show Kd.M (Kd.int .u8) _ _ _ 32 [.int .u8 32] from rfl) (Reps.none _ _)))); intro v441 w35 ho36 hb hg_ hnew_; clear hg_ hnew_; (first | rw [← Ny440.out] at ho36 | (simp only [Int.reduceToNat] at ho36; rw [← Ny440.out] at ho36)); have n0_ := Aside0.mk (Kd.R_elder' (by (with_reducible repeat (first | apply Kd.R_alloc | apply Kd.R_drewN | apply Kd.R_drew)); exact HO_1.out) (Kd.R_base ho36) hb); have n1_ := Aside0.mk (Kd.R_lower (Kd.R_new' (Kd.R_newM (M := fun k_ => (P1_ k_ ∨ w.heap.size ≤ k_)) ho36 (by first | exact HK.out.1 | exact (show Kept w _ (fun k_ => P1_ k_) from by repeat (first | (with_reducible first | exact HK.out | apply Kept.alloc | apply Kept.drewN | apply Kept.drew) | exact HK.out)).1) (fun k_ h_ => .inr h_)) (Kd.R_lt (by (with_reducible repeat (first | apply Kd.R_alloc | apply Kd.R_drewN | apply Kd.R_drew)); exact HO_1.out))) (below_size (by repeat (first | (with_reducible first | exact HB.out | apply below_alloc | apply pw_below_drewN | apply below_drew1) | exact HB.out)))); have n2_ := Aside0.mk (Kept.below (S := (fun k_ => P1_ k_)) (by repeat (first | (with_reducible first | exact HK.out | apply Kept.alloc | apply Kept.drewN | apply Kept.drew) | exact HK.out)) hb); have n3_ := Aside0.mk (below_step (by repeat (first | (with_reducible first | exact HB.out | apply below_alloc | apply pw_below_drewN | apply below_drew1) | exact HB.out)) hb); clear HO_1; clear HK; clear HB; have HO_1 := n0_; have HO442 := n1_; have HK := n2_; have HB := n3_; clear n0_ n1_ n2_ n3_; clear hb ho36; obtain ⟨Ao38, co38, eo38⟩ := Kd.R_slice HO442.out; subst eo38) | ((with_reducible refine gate_builtin (b := .append) (xs := #[.tmp 79, .tmp 80]) rfl ?_); at_builtin; refine Kd.R_append_rows (Kd.int .u8) (w0 := w0) w0.heap.size rfl (.tmp 79) (.tmp 80) 42 5 (.int .u8 0) 1 rfl Try.underlying42 info5 rfl (by decide) (by omega) u1 x1_1 y440 _ _ _ (fun k_ => (P1_ k_ ∨ w.heap.size ≤ k_) ∧ some k_ ≠ (.slice Ao38 y440.length co38 : Value).ownBlock) (fun _ => False) rfl rfl ?aO ?aR (fun _ _ h => h) (fun _ h => h.elim) ?aF ?aB ?aS ?aL ?_; (case aR => repeat (first | exact (Kd.R_reads' HO442.out).2.2 | (with_reducible refine Kd.C_alloc ?_ _) | (with_reducible refine Kd.C_drewN ?_ _) | (with_reducible refine Kd.C_drew ?_))); (case aB => exact (by repeat (first | (with_reducible first | exact HB.out | apply below_alloc | apply pw_below_drewN | apply below_drew1) | exact HB.out))); (case aF => exact (fun k_ hk => ⟨(.inr (Nat.le_trans (by first | exact HK.out.1 | exact (show Kept w _ (fun k_ => P1_ k_) from by repeat (first | (with_reducible first | exact HK.out | apply Kept.alloc | apply Kept.drewN | apply Kept.drew) | exact HK.out)).1) hk)), Kd.fresh' (Kd.R_lt (by (with_reducible repeat (first | apply Kd.R_alloc | apply Kd.R_drewN | apply Kd.R_drew)); exact HO442.out)) k_ hk⟩)); (case aO => exact (by (with_reducible repeat (first | apply Kd.R_alloc | apply Kd.R_drewN | apply Kd.R_drew)); exact HO_1.out)); (case aS => exact (below_size (by repeat (first | (with_reducible first | exact HB.out | apply below_alloc | apply pw_below_drewN | apply below_drew1) | exact HB.out)))); (case aL => have := LMc34.out; omega); intro v444 w37 ho hb hg hat; rw [← Ny443.out] at ho; have n0_ := Aside0.mk (Kd.R_after (ok := (fun k_ => (P1_ k_ ∨ w.heap.size ≤ k_))) (by (with_reducible repeat (first | apply Kd.R_alloc | apply Kd.R_drewN | apply Kd.R_drew)); exact Kd.R_mono HO442.out (fun _ hk => ⟨hk.1.1, hk.2⟩)) hg hat); have n1_ := Aside0.mk (hb); have n2_ := Aside0.mk (Kept.of_grown (S := (fun k_ => P1_ k_)) hg (by repeat (first | (with_reducible first | exact HK.out | apply Kept.alloc | apply Kept.drewN | apply Kept.drew) | exact HK.out)) (fun k_ e_ => (HO_1.out.1 k_ e_).1)); have n3_ := Aside0.mk (ho); clear HO442; clear HB; clear HK; clear HO_1; have HO442 := n0_; have HB := n1_; have HK := n2_; have HO445 := n3_; clear n0_ n1_ n2_ n3_; clear ho hb hg hat))
                            try simp only [Act.put, List.setIfInBounds_toArray, List.set_cons_succ, List.set_cons_zero]
                            go_loopg [1, 5] k1 (fun kq v1 v5 w' => ∃ (x1_2 : List Int) (x5_2 : Int), v5 = .int .i64 x5_2 ∧ Aside0 (pretty_spec.l2 kq l0 x1_2 x5_2 = some r) ∧ Aside0 (kq ≤ k1) ∧ Aside0 (Kd.R (Kd.int .u8) 5 w' w0.heap.size (fun k_ => (P1_ k_ ∨ w.heap.size ≤ k_)) v1 x1_2) ∧ Aside0 (Kept w w' (fun k_ => P1_ k_)) ∧ Aside0 (Below w0.heap.size w0 w'))
                            case atStart => exact ⟨(y443), (wrap64 (x5_1 + 2)), (by first | rfl | (simp; done) | (simp [*]; done)), H', ⟨Nat.le_refl _⟩, ⟨by (with_reducible repeat (first | apply Kd.R_alloc | apply Kd.R_drewN | apply Kd.R_drew)); exact Kd.R_mono HO445.out (fun _ hk => hk.1)⟩, ⟨by repeat (first | (with_reducible first | exact HK.out | apply Kept.alloc | apply Kept.drewN | apply Kept.drew) | exact HK.out)⟩, ⟨by repeat (first | (with_reducible first | exact HB.out | apply below_alloc | apply pw_below_drewN | apply below_drew1) | exact HB.out)⟩⟩
                            case round => as_aux_lemma =>
                              clear H'
                              try clear c1
                              try clear c2
                              try clear p2
                              try clear c3
                              try clear c3b0
                              try clear c3b1
                              try clear c4
                              try clear p4
                              try clear q4
                              try clear hx4
                              try clear q5
                              try clear c6
                              try clear c6b0
                              try clear p6
                              try clear c7
                              try clear c7b0
                              try clear c9
                              try clear c9b0
                              try clear c9b1
                              try clear c10
                              try clear c10b0
                              try clear c12
                              try clear c12b0
                              try clear c13
                              try clear c13b0
                              try clear c14
                              try clear c14b0
                              try clear c14b1
                              try clear c15
                              try clear c20
                              try clear c20b0
                              try clear c21
                              try clear c21b0
                              try clear c22
                              try clear c22b0
                              try clear c22b1
                              try clear c23
                              try clear c25
                              try clear c25b0
                              try clear c25b1
                              try clear c26
                              try clear c28
                              try clear c28b0
                              try clear c28b1
                              try clear c29
                              try clear c31
                              try clear c33
                              try clear c33b0
                              try clear c33b1
                              try clear c34
                              try clear hx414_0
                              try clear hx415_0
                              try clear hx422_0
                              try clear hx426_0
                              try clear hx427_0
                              try clear hx431_0
                              try clear hx432_0
                              try clear hx439_0
                              try clear p2
                              try clear p4
                              try clear p414
                              try clear p415
                              try clear p422
                              try clear p426
                              try clear p427
                              try clear p431
                              try clear p432
                              try clear p439
                              try clear p6
                              try clear q4
                              try clear q414
                              try clear q415
                              try clear q422
                              try clear q426
                              try clear q427
                              try clear q431
                              try clear q432
                              try clear q439
                              try clear q5
                              obtain ⟨x1_2, x5_2, rfl, HA, HK2, HO_1, HK, HB⟩ := hrel
                              cases gk with
                              | zero => exact absurd HA.out (by simp [pretty_spec.l2])
                              | succ k2 =>
                                have H := HA.out
                                clear HA
                                simp only [pretty_spec.l2] at H
                                by_cases c39 : x5_2 < (wrap64 ((l0.length : Int) - 1))
                                · rw [if_pos c39] at H
                                  have c39b0 : decide (x5_2 < (wrap64 ((l0.length : Int) - 1))) = true := decide_eq_true c39
                                  clear c39
                                  have HC40 := Aside0.mk H
                                  clear H
                                  go_upto_region 22 with (fail)
                                  go_cut [103] (fun v103 wc => ∃ (kq : Nat) (x103_39 : Bool), v103 = .bool x103_39 ∧ Aside0 (pretty_spec.j3 kq l0 x1_2 x5_2 x103_39 = some r) ∧ Aside0 (kq ≤ k2) ∧ Aside0 (Kd.R (Kd.int .u8) 5 wc w0.heap.size (fun k_ => (P1_ k_ ∨ w.heap.size ≤ k_)) u1 x1_2) ∧ Aside0 (Kept w wc (fun k_ => P1_ k_)) ∧ Aside0 (Below w0.heap.size w0 wc))
                                  case first =>
                                    have H := HC40.out
                                    clear HC40
                                    by_cases c41 : 0 ≤ x5_2
                                    · rw [if_pos c41] at H
                                      have c41b0 : decide (0 ≤ x5_2) = true := decide_eq_true c41
                                      clear c41
                                      (first | rw [c41b0] | (simp only [i64_w, i32_w]; rw [c41b0]) | skip)
                                      by_cases c42 : x5_2 < (l0.length : Int)
                                      · rw [if_pos c42] at H
                                        have c42b0 : decide (x5_2 < (l0.length : Int)) = true := decide_eq_true c42
                                        clear c42
                                        by_cases c43 : (rd l0 x5_2) = 42
                                        · rw [if_pos c43] at H
                                          have c43b0 : ((rd l0 x5_2) == 42) = true := beq_iff_eq.mpr c43
                                          have c43b1 : ((rd l0 x5_2) != 42) = false := bne_eq_false_iff_eq.mpr c43
                                          clear c43
                                          obtain ⟨ji44, hji44⟩ : ∃ j_ : Int, (wrap64 (x5_2 + 1)) = j_ := ⟨_, rfl⟩
                                          replace H : (if 0 ≤ (ji44) then (if (ji44) < (l0.length : Int) then (pretty_spec.j3 k2 l0 x1_2 x5_2 ((rd l0 (ji44)) == 47)) else (none)) else (none)) = some r := by first | (rw [hji44] at H; exact H) | (simp only [hji44] at H ⊢; exact H)
                                          have hji44w : (IntKind.i64.wrap (x5_2 + 1)) = ji44 := (i64_w _).trans hji44
                                          by_cases c45 : 0 ≤ (ji44)
                                          · rw [if_pos c45] at H
                                            have c45b0 : decide (0 ≤ (ji44)) = true := decide_eq_true c45
                                            clear c45
                                            by_cases c46 : (ji44) < (l0.length : Int)
                                            · rw [if_pos c46] at H
                                              have c46b0 : decide ((ji44) < (l0.length : Int)) = true := decide_eq_true c46
                                              clear c46
                                              have H' := Aside0.mk H
                                              clear H
                                              have p446 : 0 ≤ (x5_2 : Int) := of_decide_eq_true (by first | (with_reducible assumption) | assumption)
                                              have q446 : x5_2 < (l0.length : Int) := of_decide_eq_true (by first | (with_reducible assumption) | assumption)
                                              obtain ⟨ad446, e446, hx446_0⟩ := Kd.at_int (Kd.C_kept_now HR0.out HK.out) x5_2 p446 q446
                                              obtain rfl : ad414 = ad446 := (by injection e446)
                                              replace p446 := eq_true p446
                                              replace q446 := eq_true q446
                                              have p447 : 0 ≤ ((ji44) : Int) := of_decide_eq_true (by first | (with_reducible assumption) | assumption)
                                              have q447 : (ji44) < (l0.length : Int) := of_decide_eq_true (by first | (with_reducible assumption) | assumption)
                                              obtain ⟨ad447, e447, hx447_0⟩ := Kd.at_int (Kd.C_kept_now HR0.out HK.out) (ji44) p447 q447
                                              obtain rfl : ad414 = ad447 := (by injection e447)
                                              replace p447 := eq_true p447
                                              replace q447 := eq_true q447
                                              go_wp2
                                              go_meet
                                              case rel => exact ⟨_, (((rd l0 (ji44)) == 47)), (by first | rfl | (simp; done) | (simp only [← hji44] <;> (first | rfl | (simp; done))) | (simp [*]; done)), H', ⟨by have := HK1.out; have := HK2.out; first | omega | exact Nat.le_refl _⟩, ⟨by (with_reducible repeat (first | apply Kd.R_alloc | apply Kd.R_drewN | apply Kd.R_drew)); exact HO_1.out⟩, ⟨by repeat (first | (with_reducible first | exact HK.out | apply Kept.alloc | apply Kept.drewN | apply Kept.drew) | exact HK.out)⟩, ⟨by repeat (first | (with_reducible first | exact HB.out | apply below_alloc | apply pw_below_drewN | apply below_drew1) | exact HB.out)⟩⟩
                                            · rw [if_neg c46] at H
                                              exact absurd H (by simp)
                                          · rw [if_neg c45] at H
                                            exact absurd H (by simp)
                                        · rw [if_neg c43] at H
                                          have c43b0 : ((rd l0 x5_2) == 42) = false := beq_eq_false_iff_ne.mpr c43
                                          have c43b1 : ((rd l0 x5_2) != 42) = true := bne_iff_ne.mpr c43
                                          have H' := Aside0.mk H
                                          clear H
                                          have p446 : 0 ≤ (x5_2 : Int) := of_decide_eq_true (by first | (with_reducible assumption) | assumption)
                                          have q446 : x5_2 < (l0.length : Int) := of_decide_eq_true (by first | (with_reducible assumption) | assumption)
                                          obtain ⟨ad446, e446, hx446_0⟩ := Kd.at_int (Kd.C_kept_now HR0.out HK.out) x5_2 p446 q446
                                          obtain rfl : ad414 = ad446 := (by injection e446)
                                          replace p446 := eq_true p446
                                          replace q446 := eq_true q446
                                          go_wp2
                                          go_meet
                                          case rel => exact ⟨_, (false), (by first | rfl | (simp; done) | (simp [*]; done)), H', ⟨by have := HK1.out; have := HK2.out; first | omega | exact Nat.le_refl _⟩, ⟨by (with_reducible repeat (first | apply Kd.R_alloc | apply Kd.R_drewN | apply Kd.R_drew)); exact HO_1.out⟩, ⟨by repeat (first | (with_reducible first | exact HK.out | apply Kept.alloc | apply Kept.drewN | apply Kept.drew) | exact HK.out)⟩, ⟨by repeat (first | (with_reducible first | exact HB.out | apply below_alloc | apply pw_below_drewN | apply below_drew1) | exact HB.out)⟩⟩
                                      · rw [if_neg c42] at H
                                        exact absurd H (by simp)
                                    · rw [if_neg c41] at H
                                      exact absurd H (by simp)
                                  case rest => as_aux_lemma =>
                                    clear HC40
                                    try clear c1
                                    try clear c2
                                    try clear p2
                                    try clear c3
                                    try clear c3b0
                                    try clear c3b1
                                    try clear c4
                                    try clear p4
                                    try clear q4
                                    try clear hx4
                                    try clear q5
                                    try clear c6
                                    try clear c6b0
                                    try clear p6
                                    try clear c7
                                    try clear c7b0
                                    try clear c9
                                    try clear c9b0
                                    try clear c9b1
                                    try clear c10
                                    try clear c10b0
                                    try clear c12
                                    try clear c12b0
                                    try clear c13
                                    try clear c13b0
                                    try clear c14
                                    try clear c14b0
                                    try clear c14b1
                                    try clear c15
                                    try clear c20
                                    try clear c20b0
                                    try clear c21
                                    try clear c21b0
                                    try clear c22
                                    try clear c22b0
                                    try clear c22b1
                                    try clear c23
                                    try clear c25
                                    try clear c25b0
                                    try clear c25b1
                                    try clear c26
                                    try clear c28
                                    try clear c28b0
                                    try clear c28b1
                                    try clear c29
                                    try clear c31
                                    try clear c33
                                    try clear c33b0
                                    try clear c33b1
                                    try clear c34
                                    try clear c39
                                    try clear c39b0
                                    try clear c41
                                    try clear c41b0
                                    try clear p41
                                    try clear q41
                                    try clear hx41
                                    try clear c42
                                    try clear c42b0
                                    try clear p42
                                    try clear q42
                                    try clear hx42
                                    try clear c43
                                    try clear c43b0
                                    try clear c43b1
                                    try clear p43
                                    try clear q43
                                    try clear hx43
                                    try clear p44
                                    try clear q44
                                    try clear hx44
                                    try clear c45
                                    try clear c45b0
                                    try clear c46
                                    try clear c46b0
                                    try clear hx414_0
                                    try clear hx415_0
                                    try clear hx422_0
                                    try clear hx426_0
                                    try clear hx427_0
                                    try clear hx431_0
                                    try clear hx432_0
                                    try clear hx439_0
                                    try clear hx446_0
                                    try clear hx447_0
                                    try clear p2
                                    try clear p4
                                    try clear p414
                                    try clear p415
                                    try clear p422
                                    try clear p426
                                    try clear p427
                                    try clear p431
                                    try clear p432
                                    try clear p439
                                    try clear p446
                                    try clear p447
                                    try clear p6
                                    try clear q4
                                    try clear q414
                                    try clear q415
                                    try clear q422
                                    try clear q426
                                    try clear q427
                                    try clear q431
                                    try clear q432
                                    try clear q439
                                    try clear q446
                                    try clear q447
                                    try clear q5
                                    obtain ⟨kq, x103_39, rfl, HA, HJ39, HO_1, HK, HB⟩ := hcut
                                    cases kq with
                                    | zero => exact absurd HA.out (by simp [pretty_spec.j3])
                                    | succ kj39 =>
                                      have H := HA.out
                                      clear HA
                                      simp only [pretty_spec.j3] at H
                                      by_cases c47 : x103_39 = true
                                      · subst c47
                                        have H1 : ((some (([32, 32] : List Int) : List Int)).bind fun y448 => (if x1_2.length + y448.length < 140737488355328 then (pretty_spec.l0 kj39 l0 (x1_2 ++ y448) (wrap64 ((wrap64 (x5_2 + 1)) + 1))) else (none))) = some r := by rw [if_pos rfl] at H; exact H
                                        clear H
                                        have H := H1
                                        clear H1
                                        obtain ⟨y448, hy448⟩ : ∃ y_ : List Int, y_ = (([32, 32] : List Int)) := ⟨_, rfl⟩
                                        replace H : (if x1_2.length + y448.length < 140737488355328 then (pretty_spec.l0 kj39 l0 (x1_2 ++ y448) (wrap64 ((wrap64 (x5_2 + 1)) + 1))) else (none)) = some r := by first | (rw [hy448]; with_reducible exact H) | (have H2_ := (Option.bind_some _ _).symm.trans H; rw [hy448]; with_reducible exact H2_) | (have H2_ := (Option.bind_some _ _).symm.trans H; with_reducible exact H2_) | with_reducible exact H | (rw [hy448]; exact H) | exact H
                                        have Ny448 := Aside0.mk hy448
                                        clear hy448
                                        by_cases c48 : x1_2.length + y448.length < 140737488355328
                                        · rw [if_pos c48] at H
                                          have LMc48 := Aside0.mk c48
                                          clear c48
                                          obtain ⟨y451, hy451⟩ : ∃ y_ : List Int, y_ = (x1_2 ++ y448) := ⟨_, rfl⟩
                                          replace H : (pretty_spec.l0 kj39 l0 y451 (wrap64 ((wrap64 (x5_2 + 1)) + 1))) = some r := by first | (rw [hy451]; with_reducible exact H) | (have H2_ := (Option.bind_some _ _).symm.trans H; rw [hy451]; with_reducible exact H2_) | (have H2_ := (Option.bind_some _ _).symm.trans H; with_reducible exact H2_) | with_reducible exact H | (rw [hy451]; exact H) | exact H
                                          have Ny451 := Aside0.mk hy451
                                          clear hy451
                                          have H' := Aside0.mk H
                                          clear H
                                          go_wp2_with (first | ((with_reducible refine gate_dst (N := 105) rfl ?_); refine Kd.R_lit (Kd.int .u8) _ 5 ?hg (N := 105) ?hd (xs := ([32, 32] : List Int)) (inner := [.int .u8 32, .int .u8 32]) (ok := fun _ => True) (okp := fun _ => True) ?hr ?hp (fun _ hk => hk) trivial (Below.refl _ _) (Nat.le_refl _) (by simp) ?_; (case hd => rfl); (case hg => rfl); (case hr => first | (go_simp; done) | (go_simp; rfl)); (case hp => exact (Reps.one (show Kd.M (Kd.int .u8) _ _ _ 32 [.int .u8 32] from rfl) (Reps.one (show Kd.M (Kd.int .u8) _ _ _ 32 [.int .u8 32] from rfl) (Reps.none _ _)))); intro v449 w49 ho50 hb hg_ hnew_; clear hg_ hnew_; (first | rw [← Ny448.out] at ho50 | (simp only [Int.reduceToNat] at ho50; rw [← Ny448.out] at ho50)); have n0_ := Aside0.mk (Kd.R_elder' (by (with_reducible repeat (first | apply Kd.R_alloc | apply Kd.R_drewN | apply Kd.R_drew)); exact HO_1.out) (Kd.R_base ho50) hb); have n1_ := Aside0.mk (Kd.R_lower (Kd.R_new' (Kd.R_newM (M := fun k_ => (P1_ k_ ∨ w.heap.size ≤ k_)) ho50 (by first | exact HK.out.1 | exact (show Kept w _ (fun k_ => P1_ k_) from by repeat (first | (with_reducible first | exact HK.out | apply Kept.alloc | apply Kept.drewN | apply Kept.drew) | exact HK.out)).1) (fun k_ h_ => .inr h_)) (Kd.R_lt (by (with_reducible repeat (first | apply Kd.R_alloc | apply Kd.R_drewN | apply Kd.R_drew)); exact HO_1.out))) (below_size (by repeat (first | (with_reducible first | exact HB.out | apply below_alloc | apply pw_below_drewN | apply below_drew1) | exact HB.out)))); have n2_ := Aside0.mk (Kept.below (S := (fun k_ => P1_ k_)) (by repeat (first | (with_reducible first | exact HK.out | apply Kept.alloc | apply Kept.drewN | apply Kept.drew) | exact HK.out)) hb); have n3_ := Aside0.mk (below_step (by repeat (first | (with_reducible first | exact HB.out | apply below_alloc | apply pw_below_drewN | apply below_drew1) | exact HB.out)) hb); clear HO_1; clear HK; clear HB; have HO_1 := n0_; have HO450 := n1_; have HK := n2_; have HB := n3_; clear n0_ n1_ n2_ n3_; clear hb ho50; obtain ⟨Ao52, co52, eo52⟩ := Kd.R_slice HO450.out; subst eo52) | ((with_reducible refine gate_builtin (b := .append) (xs := #[.tmp 104, .tmp 105]) rfl ?_); at_builtin; refine Kd.R_append_rows (Kd.int .u8) (w0 := w0) w0.heap.size rfl (.tmp 104) (.tmp 105) 42 5 (.int .u8 0) 1 rfl Try.underlying42 info5 rfl (by decide) (by omega) u1 x1_2 y448 _ _ _ (fun k_ => (P1_ k_ ∨ w.heap.size ≤ k_) ∧ some k_ ≠ (.slice Ao52 y448.length co52 : Value).ownBlock) (fun _ => False) rfl rfl ?aO ?aR (fun _ _ h => h) (fun _ h => h.elim) ?aF ?aB ?aS ?aL ?_; (case aR => repeat (first | exact (Kd.R_reads' HO450.out).2.2 | (with_reducible refine Kd.C_alloc ?_ _) | (with_reducible refine Kd.C_drewN ?_ _) | (with_reducible refine Kd.C_drew ?_))); (case aB => exact (by repeat (first | (with_reducible first | exact HB.out | apply below_alloc | apply pw_below_drewN | apply below_drew1) | exact HB.out))); (case aF => exact (fun k_ hk => ⟨(.inr (Nat.le_trans (by first | exact HK.out.1 | exact (show Kept w _ (fun k_ => P1_ k_) from by repeat (first | (with_reducible first | exact HK.out | apply Kept.alloc | apply Kept.drewN | apply Kept.drew) | exact HK.out)).1) hk)), Kd.fresh' (Kd.R_lt (by (with_reducible repeat (first | apply Kd.R_alloc | apply Kd.R_drewN | apply Kd.R_drew)); exact HO450.out)) k_ hk⟩)); (case aO => exact (by (with_reducible repeat (first | apply Kd.R_alloc | apply Kd.R_drewN | apply Kd.R_drew)); exact HO_1.out)); (case aS => exact (below_size (by repeat (first | (with_reducible first | exact HB.out | apply below_alloc | apply pw_below_drewN | apply below_drew1) | exact HB.out)))); (case aL => have := LMc48.out; omega); intro v452 w51 ho hb hg hat; rw [← Ny451.out] at ho; have n0_ := Aside0.mk (Kd.R_after (ok := (fun k_ => (P1_ k_ ∨ w.heap.size ≤ k_))) (by (with_reducible repeat (first | apply Kd.R_alloc | apply Kd.R_drewN | apply Kd.R_drew)); exact Kd.R_mono HO450.out (fun _ hk => ⟨hk.1.1, hk.2⟩)) hg hat); have n1_ := Aside0.mk (hb); have n2_ := Aside0.mk (Kept.of_grown (S := (fun k_ => P1_ k_)) hg (by repeat (first | (with_reducible first | exact HK.out | apply Kept.alloc | apply Kept.drewN | apply Kept.drew) | exact HK.out)) (fun k_ e_ => (HO_1.out.1 k_ e_).1)); have n3_ := Aside0.mk (ho); clear HO450; clear HB; clear HK; clear HO_1; have HO450 := n0_; have HB := n1_; have HK := n2_; have HO453 := n3_; clear n0_ n1_ n2_ n3_; clear ho hb hg hat))
                                          go_roundg kj39
                                          case measure => have := HK1.out; have := HK2.out; have := HJ39.out; omega
                                          case rel => exact ⟨(y451), (wrap64 ((wrap64 (x5_2 + 1)) + 1)), (by first | rfl | (simp; done) | (simp [*]; done)), H', ⟨by have := HK1.out; have := HK2.out; have := HJ39.out; omega⟩, ⟨by (with_reducible repeat (first | apply Kd.R_alloc | apply Kd.R_drewN | apply Kd.R_drew)); exact Kd.R_mono HO453.out (fun _ hk => hk.1)⟩, ⟨by repeat (first | (with_reducible first | exact HK.out | apply Kept.alloc | apply Kept.drewN | apply Kept.drew) | exact HK.out)⟩, ⟨by repeat (first | (with_reducible first | exact HB.out | apply below_alloc | apply pw_below_drewN | apply below_drew1) | exact HB.out)⟩⟩
                                        · rw [if_neg c48] at H
                                          exact absurd H (by simp)
                                      · replace c47 := Bool.eq_false_iff.mpr c47
                                        subst c47
                                        have H1 : (if 0 ≤ x5_2 then (if x5_2 < (l0.length : Int) then (if (rd l0 x5_2) = 10 then (if x1_2.length < 140737488355328 then (pretty_spec.l2 kj39 l0 (x1_2 ++ [rd l0 x5_2]) (wrap64 (x5_2 + 1))) else (none)) else (if (rd l0 x5_2) = 9 then (if x1_2.length < 140737488355328 then (pretty_spec.l2 kj39 l0 (x1_2 ++ [rd l0 x5_2]) (wrap64 (x5_2 + 1))) else (none)) else (if (rd l0 x5_2) = 13 then (if x1_2.length < 140737488355328 then (pretty_spec.l2 kj39 l0 (x1_2 ++ [rd l0 x5_2]) (wrap64 (x5_2 + 1))) else (none)) else (if x1_2.length < 140737488355328 then (pretty_spec.l2 kj39 l0 (x1_2 ++ [32]) (wrap64 (x5_2 + 1))) else (none))))) else (none)) else (none)) = some r := by rw [if_neg (show ¬ (false = true) by decide)] at H; exact H
                                        clear H
                                        have H := H1
                                        clear H1
                                        by_cases c53 : 0 ≤ x5_2
                                        · rw [if_pos c53] at H
                                          have c53b0 : decide (0 ≤ x5_2) = true := decide_eq_true c53
                                          clear c53
                                          by_cases c54 : x5_2 < (l0.length : Int)
                                          · rw [if_pos c54] at H
                                            have c54b0 : decide (x5_2 < (l0.length : Int)) = true := decide_eq_true c54
                                            clear c54
                                            by_cases c55 : (rd l0 x5_2) = 10
                                            · rw [if_pos c55] at H
                                              have c55b0 : ((rd l0 x5_2) == 10) = true := beq_iff_eq.mpr c55
                                              have c55b1 : ((rd l0 x5_2) != 10) = false := bne_eq_false_iff_eq.mpr c55
                                              clear c55
                                              by_cases c56 : x1_2.length < 140737488355328
                                              · rw [if_pos c56] at H
                                                have LMc56 := Aside0.mk c56
                                                clear c56
                                                obtain ⟨y456, hy456⟩ : ∃ y_ : List Int, y_ = (x1_2 ++ [rd l0 x5_2]) := ⟨_, rfl⟩
                                                replace H : (pretty_spec.l2 kj39 l0 y456 (wrap64 (x5_2 + 1))) = some r := by first | (rw [hy456]; with_reducible exact H) | (have H2_ := (Option.bind_some _ _).symm.trans H; rw [hy456]; with_reducible exact H2_) | (have H2_ := (Option.bind_some _ _).symm.trans H; with_reducible exact H2_) | with_reducible exact H | (rw [hy456]; exact H) | exact H
                                                have Ny456 := Aside0.mk hy456
                                                clear hy456
                                                have H' := Aside0.mk H
                                                clear H
                                                have p454 : 0 ≤ (x5_2 : Int) := of_decide_eq_true (by first | (with_reducible assumption) | assumption)
                                                have q454 : x5_2 < (l0.length : Int) := of_decide_eq_true (by first | (with_reducible assumption) | assumption)
                                                obtain ⟨ad454, e454, hx454_0⟩ := Kd.at_int (Kd.C_kept_now HR0.out HK.out) x5_2 p454 q454
                                                obtain rfl : ad414 = ad454 := (by injection e454)
                                                replace p454 := eq_true p454
                                                replace q454 := eq_true q454
                                                have p455 : 0 ≤ (x5_2 : Int) := of_decide_eq_true (by first | (with_reducible assumption) | assumption)
                                                have q455 : x5_2 < (l0.length : Int) := of_decide_eq_true (by first | (with_reducible assumption) | assumption)
                                                obtain ⟨ad455, e455, hx455_0⟩ := Kd.at_int (Kd.C_kept_now HR0.out HK.out) x5_2 p455 q455
                                                obtain rfl : ad414 = ad455 := (by injection e455)
                                                replace p455 := eq_true p455
                                                replace q455 := eq_true q455
                                                go_wp2_with (first | ((with_reducible refine gate_builtin (b := .append) (xs := #[.tmp 128, .tmp 133]) rfl ?_); at_builtin; refine Kd.R_append (Kd.int .u8) (w0 := w0) w0.heap.size rfl (.tmp 128) (.tmp 133) 42 5 (.int .u8 0) 1 rfl Try.underlying42 info5 rfl (by decide) (by omega) u1 x1_2 (rd l0 x5_2) [.int .u8 (rd l0 x5_2)] (fun k_ => (P1_ k_ ∨ w.heap.size ≤ k_)) (fun _ => False) rfl rfl ?aP (fun _ hk => hk.elim) ?aF ?aO ?aB ?aS ?aL ?_; (case aP => exact rfl); (case aB => exact (by repeat (first | (with_reducible first | exact HB.out | apply below_alloc | apply pw_below_drewN | apply below_drew1) | exact HB.out))); (case aF => exact (fun k_ hk => (.inr (Nat.le_trans (by first | exact HK.out.1 | exact (show Kept w _ (fun k_ => P1_ k_) from by repeat (first | (with_reducible first | exact HK.out | apply Kept.alloc | apply Kept.drewN | apply Kept.drew) | exact HK.out)).1) hk)))); (case aO => exact (by (with_reducible repeat (first | apply Kd.R_alloc | apply Kd.R_drewN | apply Kd.R_drew)); exact HO_1.out)); (case aS => exact (below_size (by repeat (first | (with_reducible first | exact HB.out | apply below_alloc | apply pw_below_drewN | apply below_drew1) | exact HB.out)))); (case aL => have := LMc56.out; omega); intro v457 w57 ho hb hg hat; rw [← Ny456.out] at ho; have n0_ := Aside0.mk (hb); have n1_ := Aside0.mk (Kept.of_grown (S := (fun k_ => P1_ k_)) hg (by repeat (first | (with_reducible first | exact HK.out | apply Kept.alloc | apply Kept.drewN | apply Kept.drew) | exact HK.out)) (fun k_ e_ => (HO_1.out.1 k_ e_))); have n2_ := Aside0.mk (ho); clear HB; clear HK; clear HO_1; have HB := n0_; have HK := n1_; have HO458 := n2_; clear n0_ n1_ n2_; clear ho hb hg hat))
                                                go_roundg kj39
                                                case measure => have := HK1.out; have := HK2.out; have := HJ39.out; omega
                                                case rel => exact ⟨(y456), (wrap64 (x5_2 + 1)), (by first | rfl | (simp; done) | (simp [*]; done)), H', ⟨by have := HK1.out; have := HK2.out; have := HJ39.out; omega⟩, ⟨by (with_reducible repeat (first | apply Kd.R_alloc | apply Kd.R_drewN | apply Kd.R_drew)); exact HO458.out⟩, ⟨by repeat (first | (with_reducible first | exact HK.out | apply Kept.alloc | apply Kept.drewN | apply Kept.drew) | exact HK.out)⟩, ⟨by repeat (first | (with_reducible first | exact HB.out | apply below_alloc | apply pw_below_drewN | apply below_drew1) | exact HB.out)⟩⟩
                                              · rw [if_neg c56] at H
                                                exact absurd H (by simp)
                                            · rw [if_neg c55] at H
                                              have c55b0 : ((rd l0 x5_2) == 10) = false := beq_eq_false_iff_ne.mpr c55
                                              have c55b1 : ((rd l0 x5_2) != 10) = true := bne_iff_ne.mpr c55
                                              by_cases c58 : (rd l0 x5_2) = 9
                                              · rw [if_pos c58] at H
                                                have c58b0 : ((rd l0 x5_2) == 9) = true := beq_iff_eq.mpr c58
                                                have c58b1 : ((rd l0 x5_2) != 9) = false := bne_eq_false_iff_eq.mpr c58
                                                clear c58
                                                by_cases c59 : x1_2.length < 140737488355328
                                                · rw [if_pos c59] at H
                                                  have LMc59 := Aside0.mk c59
                                                  clear c59
                                                  obtain ⟨y461, hy461⟩ : ∃ y_ : List Int, y_ = (x1_2 ++ [rd l0 x5_2]) := ⟨_, rfl⟩
                                                  replace H : (pretty_spec.l2 kj39 l0 y461 (wrap64 (x5_2 + 1))) = some r := by first | (rw [hy461]; with_reducible exact H) | (have H2_ := (Option.bind_some _ _).symm.trans H; rw [hy461]; with_reducible exact H2_) | (have H2_ := (Option.bind_some _ _).symm.trans H; with_reducible exact H2_) | with_reducible exact H | (rw [hy461]; exact H) | exact H
                                                  have Ny461 := Aside0.mk hy461
                                                  clear hy461
                                                  have H' := Aside0.mk H
                                                  clear H
                                                  have p454 : 0 ≤ (x5_2 : Int) := of_decide_eq_true (by first | (with_reducible assumption) | assumption)
                                                  have q454 : x5_2 < (l0.length : Int) := of_decide_eq_true (by first | (with_reducible assumption) | assumption)
                                                  obtain ⟨ad454, e454, hx454_0⟩ := Kd.at_int (Kd.C_kept_now HR0.out HK.out) x5_2 p454 q454
                                                  obtain rfl : ad414 = ad454 := (by injection e454)
                                                  replace p454 := eq_true p454
                                                  replace q454 := eq_true q454
                                                  have p459 : 0 ≤ (x5_2 : Int) := of_decide_eq_true (by first | (with_reducible assumption) | assumption)
                                                  have q459 : x5_2 < (l0.length : Int) := of_decide_eq_true (by first | (with_reducible assumption) | assumption)
                                                  obtain ⟨ad459, e459, hx459_0⟩ := Kd.at_int (Kd.C_kept_now HR0.out HK.out) x5_2 p459 q459
                                                  obtain rfl : ad414 = ad459 := (by injection e459)
                                                  replace p459 := eq_true p459
                                                  replace q459 := eq_true q459
                                                  have p460 : 0 ≤ (x5_2 : Int) := of_decide_eq_true (by first | (with_reducible assumption) | assumption)
                                                  have q460 : x5_2 < (l0.length : Int) := of_decide_eq_true (by first | (with_reducible assumption) | assumption)
                                                  obtain ⟨ad460, e460, hx460_0⟩ := Kd.at_int (Kd.C_kept_now HR0.out HK.out) x5_2 p460 q460
                                                  obtain rfl : ad414 = ad460 := (by injection e460)
                                                  replace p460 := eq_true p460
                                                  replace q460 := eq_true q460
                                                  go_wp2_with (first | ((with_reducible refine gate_builtin (b := .append) (xs := #[.tmp 128, .tmp 133]) rfl ?_); at_builtin; refine Kd.R_append (Kd.int .u8) (w0 := w0) w0.heap.size rfl (.tmp 128) (.tmp 133) 42 5 (.int .u8 0) 1 rfl Try.underlying42 info5 rfl (by decide) (by omega) u1 x1_2 (rd l0 x5_2) [.int .u8 (rd l0 x5_2)] (fun k_ => (P1_ k_ ∨ w.heap.size ≤ k_)) (fun _ => False) rfl rfl ?aP (fun _ hk => hk.elim) ?aF ?aO ?aB ?aS ?aL ?_; (case aP => exact rfl); (case aB => exact (by repeat (first | (with_reducible first | exact HB.out | apply below_alloc | apply pw_below_drewN | apply below_drew1) | exact HB.out))); (case aF => exact (fun k_ hk => (.inr (Nat.le_trans (by first | exact HK.out.1 | exact (show Kept w _ (fun k_ => P1_ k_) from by repeat (first | (with_reducible first | exact HK.out | apply Kept.alloc | apply Kept.drewN | apply Kept.drew) | exact HK.out)).1) hk)))); (case aO => exact (by (with_reducible repeat (first | apply Kd.R_alloc | apply Kd.R_drewN | apply Kd.R_drew)); exact HO_1.out)); (case aS => exact (below_size (by repeat (first | (with_reducible first | exact HB.out | apply below_alloc | apply pw_below_drewN | apply below_drew1) | exact HB.out)))); (case aL => have := LMc59.out; omega); intro v462 w60 ho hb hg hat; rw [← Ny461.out] at ho; have n0_ := Aside0.mk (hb); have n1_ := Aside0.mk (Kept.of_grown (S := (fun k_ => P1_ k_)) hg (by repeat (first | (with_reducible first | exact HK.out | apply Kept.alloc | apply Kept.drewN | apply Kept.drew) | exact HK.out)) (fun k_ e_ => (HO_1.out.1 k_ e_))); have n2_ := Aside0.mk (ho); clear HB; clear HK; clear HO_1; have HB := n0_; have HK := n1_; have HO463 := n2_; clear n0_ n1_ n2_; clear ho hb hg hat))
                                                  go_roundg kj39
                                                  case measure => have := HK1.out; have := HK2.out; have := HJ39.out; omega
                                                  case rel => exact ⟨(y461), (wrap64 (x5_2 + 1)), (by first | rfl | (simp; done) | (simp [*]; done)), H', ⟨by have := HK1.out; have := HK2.out; have := HJ39.out; omega⟩, ⟨by (with_reducible repeat (first | apply Kd.R_alloc | apply Kd.R_drewN | apply Kd.R_drew)); exact HO463.out⟩, ⟨by repeat (first | (with_reducible first | exact HK.out | apply Kept.alloc | apply Kept.drewN | apply Kept.drew) | exact HK.out)⟩, ⟨by repeat (first | (with_reducible first | exact HB.out | apply below_alloc | apply pw_below_drewN | apply below_drew1) | exact HB.out)⟩⟩
                                                · rw [if_neg c59] at H
                                                  exact absurd H (by simp)
                                              · rw [if_neg c58] at H
                                                have c58b0 : ((rd l0 x5_2) == 9) = false := beq_eq_false_iff_ne.mpr c58
                                                have c58b1 : ((rd l0 x5_2) != 9) = true := bne_iff_ne.mpr c58
                                                by_cases c61 : (rd l0 x5_2) = 13
                                                · rw [if_pos c61] at H
                                                  have c61b0 : ((rd l0 x5_2) == 13) = true := beq_iff_eq.mpr c61
                                                  have c61b1 : ((rd l0 x5_2) != 13) = false := bne_eq_false_iff_eq.mpr c61
                                                  clear c61
                                                  by_cases c62 : x1_2.length < 140737488355328
                                                  · rw [if_pos c62] at H
                                                    have LMc62 := Aside0.mk c62
                                                    clear c62
                                                    obtain ⟨y466, hy466⟩ : ∃ y_ : List Int, y_ = (x1_2 ++ [rd l0 x5_2]) := ⟨_, rfl⟩
                                                    replace H : (pretty_spec.l2 kj39 l0 y466 (wrap64 (x5_2 + 1))) = some r := by first | (rw [hy466]; with_reducible exact H) | (have H2_ := (Option.bind_some _ _).symm.trans H; rw [hy466]; with_reducible exact H2_) | (have H2_ := (Option.bind_some _ _).symm.trans H; with_reducible exact H2_) | with_reducible exact H | (rw [hy466]; exact H) | exact H
                                                    have Ny466 := Aside0.mk hy466
                                                    clear hy466
                                                    have H' := Aside0.mk H
                                                    clear H
                                                    have p454 : 0 ≤ (x5_2 : Int) := of_decide_eq_true (by first | (with_reducible assumption) | assumption)
                                                    have q454 : x5_2 < (l0.length : Int) := of_decide_eq_true (by first | (with_reducible assumption) | assumption)
                                                    obtain ⟨ad454, e454, hx454_0⟩ := Kd.at_int (Kd.C_kept_now HR0.out HK.out) x5_2 p454 q454
                                                    obtain rfl : ad414 = ad454 := (by injection e454)
                                                    replace p454 := eq_true p454
                                                    replace q454 := eq_true q454
                                                    have p459 : 0 ≤ (x5_2 : Int) := of_decide_eq_true (by first | (with_reducible assumption) | assumption)
                                                    have q459 : x5_2 < (l0.length : Int) := of_decide_eq_true (by first | (with_reducible assumption) | assumption)
                                                    obtain ⟨ad459, e459, hx459_0⟩ := Kd.at_int (Kd.C_kept_now HR0.out HK.out) x5_2 p459 q459
                                                    obtain rfl : ad414 = ad459 := (by injection e459)
                                                    replace p459 := eq_true p459
                                                    replace q459 := eq_true q459
                                                    have p464 : 0 ≤ (x5_2 : Int) := of_decide_eq_true (by first | (with_reducible assumption) | assumption)
                                                    have q464 : x5_2 < (l0.length : Int) := of_decide_eq_true (by first | (with_reducible assumption) | assumption)
                                                    obtain ⟨ad464, e464, hx464_0⟩ := Kd.at_int (Kd.C_kept_now HR0.out HK.out) x5_2 p464 q464
                                                    obtain rfl : ad414 = ad464 := (by injection e464)
                                                    replace p464 := eq_true p464
                                                    replace q464 := eq_true q464
                                                    have p465 : 0 ≤ (x5_2 : Int) := of_decide_eq_true (by first | (with_reducible assumption) | assumption)
                                                    have q465 : x5_2 < (l0.length : Int) := of_decide_eq_true (by first | (with_reducible assumption) | assumption)
                                                    obtain ⟨ad465, e465, hx465_0⟩ := Kd.at_int (Kd.C_kept_now HR0.out HK.out) x5_2 p465 q465
                                                    obtain rfl : ad414 = ad465 := (by injection e465)
                                                    replace p465 := eq_true p465
                                                    replace q465 := eq_true q465
                                                    go_wp2_with (first | ((with_reducible refine gate_builtin (b := .append) (xs := #[.tmp 128, .tmp 133]) rfl ?_); at_builtin; refine Kd.R_append (Kd.int .u8) (w0 := w0) w0.heap.size rfl (.tmp 128) (.tmp 133) 42 5 (.int .u8 0) 1 rfl Try.underlying42 info5 rfl (by decide) (by omega) u1 x1_2 (rd l0 x5_2) [.int .u8 (rd l0 x5_2)] (fun k_ => (P1_ k_ ∨ w.heap.size ≤ k_)) (fun _ => False) rfl rfl ?aP (fun _ hk => hk.elim) ?aF ?aO ?aB ?aS ?aL ?_; (case aP => exact rfl); (case aB => exact (by repeat (first | (with_reducible first | exact HB.out | apply below_alloc | apply pw_below_drewN | apply below_drew1) | exact HB.out))); (case aF => exact (fun k_ hk => (.inr (Nat.le_trans (by first | exact HK.out.1 | exact (show Kept w _ (fun k_ => P1_ k_) from by repeat (first | (with_reducible first | exact HK.out | apply Kept.alloc | apply Kept.drewN | apply Kept.drew) | exact HK.out)).1) hk)))); (case aO => exact (by (with_reducible repeat (first | apply Kd.R_alloc | apply Kd.R_drewN | apply Kd.R_drew)); exact HO_1.out)); (case aS => exact (below_size (by repeat (first | (with_reducible first | exact HB.out | apply below_alloc | apply pw_below_drewN | apply below_drew1) | exact HB.out)))); (case aL => have := LMc62.out; omega); intro v467 w63 ho hb hg hat; rw [← Ny466.out] at ho; have n0_ := Aside0.mk (hb); have n1_ := Aside0.mk (Kept.of_grown (S := (fun k_ => P1_ k_)) hg (by repeat (first | (with_reducible first | exact HK.out | apply Kept.alloc | apply Kept.drewN | apply Kept.drew) | exact HK.out)) (fun k_ e_ => (HO_1.out.1 k_ e_))); have n2_ := Aside0.mk (ho); clear HB; clear HK; clear HO_1; have HB := n0_; have HK := n1_; have HO468 := n2_; clear n0_ n1_ n2_; clear ho hb hg hat))
                                                    go_roundg kj39
                                                    case measure => have := HK1.out; have := HK2.out; have := HJ39.out; omega
                                                    case rel => exact ⟨(y466), (wrap64 (x5_2 + 1)), (by first | rfl | (simp; done) | (simp [*]; done)), H', ⟨by have := HK1.out; have := HK2.out; have := HJ39.out; omega⟩, ⟨by (with_reducible repeat (first | apply Kd.R_alloc | apply Kd.R_drewN | apply Kd.R_drew)); exact HO468.out⟩, ⟨by repeat (first | (with_reducible first | exact HK.out | apply Kept.alloc | apply Kept.drewN | apply Kept.drew) | exact HK.out)⟩, ⟨by repeat (first | (with_reducible first | exact HB.out | apply below_alloc | apply pw_below_drewN | apply below_drew1) | exact HB.out)⟩⟩
                                                  · rw [if_neg c62] at H
                                                    exact absurd H (by simp)
                                                · rw [if_neg c61] at H
                                                  have c61b0 : ((rd l0 x5_2) == 13) = false := beq_eq_false_iff_ne.mpr c61
                                                  have c61b1 : ((rd l0 x5_2) != 13) = true := bne_iff_ne.mpr c61
                                                  by_cases c64 : x1_2.length < 140737488355328
                                                  · rw [if_pos c64] at H
                                                    have LMc64 := Aside0.mk c64
                                                    clear c64
                                                    obtain ⟨y469, hy469⟩ : ∃ y_ : List Int, y_ = (x1_2 ++ [32]) := ⟨_, rfl⟩
                                                    replace H : (pretty_spec.l2 kj39 l0 y469 (wrap64 (x5_2 + 1))) = some r := by first | (rw [hy469]; with_reducible exact H) | (have H2_ := (Option.bind_some _ _).symm.trans H; rw [hy469]; with_reducible exact H2_) | (have H2_ := (Option.bind_some _ _).symm.trans H; with_reducible exact H2_) | with_reducible exact H | (rw [hy469]; exact H) | exact H
                                                    have Ny469 := Aside0.mk hy469
                                                    clear hy469
                                                    have H' := Aside0.mk H
                                                    clear H
                                                    have p454 : 0 ≤ (x5_2 : Int) := of_decide_eq_true (by first | (with_reducible assumption) | assumption)
                                                    have q454 : x5_2 < (l0.length : Int) := of_decide_eq_true (by first | (with_reducible assumption) | assumption)
                                                    obtain ⟨ad454, e454, hx454_0⟩ := Kd.at_int (Kd.C_kept_now HR0.out HK.out) x5_2 p454 q454
                                                    obtain rfl : ad414 = ad454 := (by injection e454)
                                                    replace p454 := eq_true p454
                                                    replace q454 := eq_true q454
                                                    have p459 : 0 ≤ (x5_2 : Int) := of_decide_eq_true (by first | (with_reducible assumption) | assumption)
                                                    have q459 : x5_2 < (l0.length : Int) := of_decide_eq_true (by first | (with_reducible assumption) | assumption)
                                                    obtain ⟨ad459, e459, hx459_0⟩ := Kd.at_int (Kd.C_kept_now HR0.out HK.out) x5_2 p459 q459
                                                    obtain rfl : ad414 = ad459 := (by injection e459)
                                                    replace p459 := eq_true p459
                                                    replace q459 := eq_true q459
                                                    have p464 : 0 ≤ (x5_2 : Int) := of_decide_eq_true (by first | (with_reducible assumption) | assumption)
                                                    have q464 : x5_2 < (l0.length : Int) := of_decide_eq_true (by first | (with_reducible assumption) | assumption)
                                                    obtain ⟨ad464, e464, hx464_0⟩ := Kd.at_int (Kd.C_kept_now HR0.out HK.out) x5_2 p464 q464
                                                    obtain rfl : ad414 = ad464 := (by injection e464)
                                                    replace p464 := eq_true p464
                                                    replace q464 := eq_true q464
                                                    go_wp2_with (first | ((with_reducible refine gate_builtin (b := .append) (xs := #[.tmp 135, .tmp 136]) rfl ?_); at_builtin; refine Kd.R_append (Kd.int .u8) (w0 := w0) w0.heap.size rfl (.tmp 135) (.tmp 136) 42 5 (.int .u8 0) 1 rfl Try.underlying42 info5 rfl (by decide) (by omega) u1 x1_2 32 [.int .u8 32] (fun k_ => (P1_ k_ ∨ w.heap.size ≤ k_)) (fun _ => False) rfl rfl ?aP (fun _ hk => hk.elim) ?aF ?aO ?aB ?aS ?aL ?_; (case aP => exact rfl); (case aB => exact (by repeat (first | (with_reducible first | exact HB.out | apply below_alloc | apply pw_below_drewN | apply below_drew1) | exact HB.out))); (case aF => exact (fun k_ hk => (.inr (Nat.le_trans (by first | exact HK.out.1 | exact (show Kept w _ (fun k_ => P1_ k_) from by repeat (first | (with_reducible first | exact HK.out | apply Kept.alloc | apply Kept.drewN | apply Kept.drew) | exact HK.out)).1) hk)))); (case aO => exact (by (with_reducible repeat (first | apply Kd.R_alloc | apply Kd.R_drewN | apply Kd.R_drew)); exact HO_1.out)); (case aS => exact (below_size (by repeat (first | (with_reducible first | exact HB.out | apply below_alloc | apply pw_below_drewN | apply below_drew1) | exact HB.out)))); (case aL => have := LMc64.out; omega); intro v470 w65 ho hb hg hat; rw [← Ny469.out] at ho; have n0_ := Aside0.mk (hb); have n1_ := Aside0.mk (Kept.of_grown (S := (fun k_ => P1_ k_)) hg (by repeat (first | (with_reducible first | exact HK.out | apply Kept.alloc | apply Kept.drewN | apply Kept.drew) | exact HK.out)) (fun k_ e_ => (HO_1.out.1 k_ e_))); have n2_ := Aside0.mk (ho); clear HB; clear HK; clear HO_1; have HB := n0_; have HK := n1_; have HO471 := n2_; clear n0_ n1_ n2_; clear ho hb hg hat))
                                                    go_roundg kj39
                                                    case measure => have := HK1.out; have := HK2.out; have := HJ39.out; omega
                                                    case rel => exact ⟨(y469), (wrap64 (x5_2 + 1)), (by first | rfl | (simp; done) | (simp [*]; done)), H', ⟨by have := HK1.out; have := HK2.out; have := HJ39.out; omega⟩, ⟨by (with_reducible repeat (first | apply Kd.R_alloc | apply Kd.R_drewN | apply Kd.R_drew)); exact HO471.out⟩, ⟨by repeat (first | (with_reducible first | exact HK.out | apply Kept.alloc | apply Kept.drewN | apply Kept.drew) | exact HK.out)⟩, ⟨by repeat (first | (with_reducible first | exact HB.out | apply below_alloc | apply pw_below_drewN | apply below_drew1) | exact HB.out)⟩⟩
                                                  · rw [if_neg c64] at H
                                                    exact absurd H (by simp)
                                          · rw [if_neg c54] at H
                                            exact absurd H (by simp)
                                        · rw [if_neg c53] at H
                                          exact absurd H (by simp)
                                · rw [if_neg c39] at H
                                  have c39b0 : decide (x5_2 < (wrap64 ((l0.length : Int) - 1))) = false := decide_eq_false c39
                                  clear c39
                                  have H' := Aside0.mk H
                                  clear H
                                  go_wp2
                                  go_roundg k2
                                  case measure => have := HK1.out; have := HK2.out; omega
                                  case rel => exact ⟨(x1_2), (wrap64 (x5_2 + 1)), (by first | rfl | (simp; done) | (simp [*]; done)), H', ⟨by have := HK1.out; have := HK2.out; omega⟩, ⟨by (with_reducible repeat (first | apply Kd.R_alloc | apply Kd.R_drewN | apply Kd.R_drew)); exact HO_1.out⟩, ⟨by repeat (first | (with_reducible first | exact HK.out | apply Kept.alloc | apply Kept.drewN | apply Kept.drew) | exact HK.out)⟩, ⟨by repeat (first | (with_reducible first | exact HB.out | apply below_alloc | apply pw_below_drewN | apply below_drew1) | exact HB.out)⟩⟩
                          · rw [if_neg c34] at H
                            exact absurd H (by simp)
                        · rw [if_neg c33] at H
                          have c33b0 : ((rd l0 (ji11)) == 42) = false := beq_eq_false_iff_ne.mpr c33
                          have c33b1 : ((rd l0 (ji11)) != 42) = true := bne_iff_ne.mpr c33
                          have H' := Aside0.mk H
                          clear H
                          have p415 : 0 ≤ ((ji11) : Int) := of_decide_eq_true (by first | (with_reducible assumption) | assumption)
                          have q415 : (ji11) < (l0.length : Int) := of_decide_eq_true (by first | (with_reducible assumption) | assumption)
                          obtain ⟨ad415, e415, hx415_0⟩ := Kd.at_int (Kd.C_kept_now HR0.out HK.out) (ji11) p415 q415
                          obtain rfl : ad414 = ad415 := (by injection e415)
                          replace p415 := eq_true p415
                          replace q415 := eq_true q415
                          have p439 : 0 ≤ ((ji11) : Int) := of_decide_eq_true (by first | (with_reducible assumption) | assumption)
                          have q439 : (ji11) < (l0.length : Int) := of_decide_eq_true (by first | (with_reducible assumption) | assumption)
                          obtain ⟨ad439, e439, hx439_0⟩ := Kd.at_int (Kd.C_kept_now HR0.out HK.out) (ji11) p439 q439
                          obtain rfl : ad414 = ad439 := (by injection e439)
                          replace p439 := eq_true p439
                          replace q439 := eq_true q439
                          go_wp2
                          go_meet
                          case rel => exact ⟨_, (x1_1), (x5_1), (by first | rfl | (simp; done) | (simp [*]; done)), H', ⟨by have := HK1.out; first | omega | exact Nat.le_refl _⟩, ⟨by (with_reducible repeat (first | apply Kd.R_alloc | apply Kd.R_drewN | apply Kd.R_drew)); exact HO_1.out⟩, ⟨by repeat (first | (with_reducible first | exact HK.out | apply Kept.alloc | apply Kept.drewN | apply Kept.drew) | exact HK.out)⟩, ⟨by repeat (first | (with_reducible first | exact HB.out | apply below_alloc | apply pw_below_drewN | apply below_drew1) | exact HB.out)⟩⟩
                    · rw [if_neg c13] at H
                      exact absurd H (by simp)
                  · rw [if_neg c12] at H
                    exact absurd H (by simp)
                · rw [if_neg c10] at H
                  have c10b0 : decide (x5_1 < (wrap64 ((l0.length : Int) - 1))) = false := decide_eq_false c10
                  clear c10
                  have H' := Aside0.mk H
                  clear H
                  go_wp2
                  go_meet
                  case rel => exact ⟨_, (x1_1), (x5_1), (by first | rfl | (simp; done) | (simp [*]; done)), H', ⟨by have := HK1.out; first | omega | exact Nat.le_refl _⟩, ⟨by (with_reducible repeat (first | apply Kd.R_alloc | apply Kd.R_drewN | apply Kd.R_drew)); exact HO_1.out⟩, ⟨by repeat (first | (with_reducible first | exact HK.out | apply Kept.alloc | apply Kept.drewN | apply Kept.drew) | exact HK.out)⟩, ⟨by repeat (first | (with_reducible first | exact HB.out | apply below_alloc | apply pw_below_drewN | apply below_drew1) | exact HB.out)⟩⟩
              · rw [if_neg c9] at H
                have c9b0 : ((rd l0 x5_1) == 47) = false := beq_eq_false_iff_ne.mpr c9
                have c9b1 : ((rd l0 x5_1) != 47) = true := bne_iff_ne.mpr c9
                (first | rw [c9b0] | (simp only [i64_w, i32_w]; rw [c9b0]) | skip)
                have H' := Aside0.mk H
                clear H
                go_wp2
                go_meet
                case rel => exact ⟨_, (x1_1), (x5_1), (by first | rfl | (simp; done) | (simp [*]; done)), H', ⟨by have := HK1.out; first | omega | exact Nat.le_refl _⟩, ⟨by (with_reducible repeat (first | apply Kd.R_alloc | apply Kd.R_drewN | apply Kd.R_drew)); exact HO_1.out⟩, ⟨by repeat (first | (with_reducible first | exact HK.out | apply Kept.alloc | apply Kept.drewN | apply Kept.drew) | exact HK.out)⟩, ⟨by repeat (first | (with_reducible first | exact HB.out | apply below_alloc | apply pw_below_drewN | apply below_drew1) | exact HB.out)⟩⟩
            case rest => as_aux_lemma =>
              clear HC8
              try clear c1
              try clear c2
              try clear p2
              try clear c3
              try clear c3b0
              try clear c3b1
              try clear c4
              try clear p4
              try clear q4
              try clear hx4
              try clear c5
              try clear q5
              try clear c6
              try clear c6b0
              try clear p6
              try clear c7
              try clear c7b0
              try clear c9
              try clear c9b0
              try clear c9b1
              try clear c10
              try clear c10b0
              try clear c12
              try clear c12b0
              try clear c13
              try clear c13b0
              try clear c14
              try clear c14b0
              try clear c14b1
              try clear c15
              try clear c20
              try clear c20b0
              try clear c21
              try clear c21b0
              try clear c22
              try clear c22b0
              try clear c22b1
              try clear c23
              try clear c25
              try clear c25b0
              try clear c25b1
              try clear c26
              try clear c28
              try clear c28b0
              try clear c28b1
              try clear c29
              try clear c31
              try clear c33
              try clear c33b0
              try clear c33b1
              try clear c34
              try clear c39
              try clear c39b0
              try clear c41
              try clear c41b0
              try clear p41
              try clear q41
              try clear hx41
              try clear c42
              try clear c42b0
              try clear p42
              try clear q42
              try clear hx42
              try clear c43
              try clear c43b0
              try clear c43b1
              try clear p43
              try clear q43
              try clear hx43
              try clear p44
              try clear q44
              try clear hx44
              try clear c45
              try clear c45b0
              try clear p45
              try clear q45
              try clear hx45
              try clear c46
              try clear c46b0
              try clear p46
              try clear q46
              try clear hx46
              try clear c47
              try clear c48
              try clear c53
              try clear c53b0
              try clear c54
              try clear c54b0
              try clear c55
              try clear c55b0
              try clear c55b1
              try clear c56
              try clear c58
              try clear c58b0
              try clear c58b1
              try clear c59
              try clear c61
              try clear c61b0
              try clear c61b1
              try clear c62
              try clear c64
              try clear p64
              try clear hx414_0
              try clear hx415_0
              try clear hx422_0
              try clear hx426_0
              try clear hx427_0
              try clear hx431_0
              try clear hx432_0
              try clear hx439_0
              try clear hx446_0
              try clear hx447_0
              try clear hx454_0
              try clear hx455_0
              try clear hx459_0
              try clear hx460_0
              try clear hx464_0
              try clear hx465_0
              try clear p2
              try clear p4
              try clear p41
              try clear p414
              try clear p415
              try clear p42
              try clear p422
              try clear p426
              try clear p427
              try clear p43
              try clear p431
              try clear p432
              try clear p439
              try clear p44
              try clear p446
              try clear p447
              try clear p454
              try clear p455
              try clear p459
              try clear p460
              try clear p464
              try clear p465
              try clear p6
              try clear q4
              try clear q41
              try clear q414
              try clear q415
              try clear q42
              try clear q422
              try clear q426
              try clear q427
              try clear q43
              try clear q431
              try clear q432
              try clear q439
              try clear q44
              try clear q446
              try clear q447
              try clear q454
              try clear q455
              try clear q459
              try clear q460
              try clear q464
              try clear q465
              try clear q5
              obtain ⟨kq, x1_7, x5_7, rfl, HA, HJ7, HO_1, HK, HB⟩ := hcut
              cases kq with
              | zero => exact absurd HA.out (by simp [pretty_spec.j4])
              | succ kj7 =>
                have H := HA.out
                clear HA
                simp only [pretty_spec.j4] at H
                by_cases c66 : 0 ≤ x5_7
                · rw [if_pos c66] at H
                  have c66b0 : decide (0 ≤ x5_7) = true := decide_eq_true c66
                  clear c66
                  by_cases c67 : x5_7 < (l0.length : Int)
                  · rw [if_pos c67] at H
                    have c67b0 : decide (x5_7 < (l0.length : Int)) = true := decide_eq_true c67
                    clear c67
                    by_cases c68 : x1_7.length < 140737488355328
                    · rw [if_pos c68] at H
                      have LMc68 := Aside0.mk c68
                      clear c68
                      obtain ⟨y473, hy473⟩ : ∃ y_ : List Int, y_ = (x1_7 ++ [rd l0 x5_7]) := ⟨_, rfl⟩
                      replace H : (if (rd l0 x5_7) = 34 then (pretty_spec.l3 kj7 l0 y473 (wrap64 (x5_7 + 1))) else (if (rd l0 x5_7) = 125 then (pretty_spec.j7 kj7 l0 y473 x5_7 true) else (pretty_spec.j7 kj7 l0 y473 x5_7 ((rd l0 x5_7) == 93)))) = some r := by first | (rw [hy473]; with_reducible exact H) | (have H2_ := (Option.bind_some _ _).symm.trans H; rw [hy473]; with_reducible exact H2_) | (have H2_ := (Option.bind_some _ _).symm.trans H; with_reducible exact H2_) | with_reducible exact H | (rw [hy473]; exact H) | exact H
                      have Ny473 := Aside0.mk hy473
                      clear hy473
                      by_cases c69 : (rd l0 x5_7) = 34
                      · rw [if_pos c69] at H
                        have c69b0 : ((rd l0 x5_7) == 34) = true := beq_iff_eq.mpr c69
                        have c69b1 : ((rd l0 x5_7) != 34) = false := bne_eq_false_iff_eq.mpr c69
                        clear c69
                        have H' := Aside0.mk H
                        clear H
                        have p472 : 0 ≤ (x5_7 : Int) := of_decide_eq_true (by first | (with_reducible assumption) | assumption)
                        have q472 : x5_7 < (l0.length : Int) := of_decide_eq_true (by first | (with_reducible assumption) | assumption)
                        obtain ⟨ad472, e472, hx472_0⟩ := Kd.at_int (Kd.C_kept_now HR0.out HK.out) x5_7 p472 q472
                        obtain rfl : ad414 = ad472 := (by injection e472)
                        replace p472 := eq_true p472
                        replace q472 := eq_true q472
                        go_wp2_with (first | ((with_reducible refine gate_builtin (b := .append) (xs := #[.tmp 138, .tmp 143]) rfl ?_); at_builtin; refine Kd.R_append (Kd.int .u8) (w0 := w0) w0.heap.size rfl (.tmp 138) (.tmp 143) 42 5 (.int .u8 0) 1 rfl Try.underlying42 info5 rfl (by decide) (by omega) u1 x1_7 (rd l0 x5_7) [.int .u8 (rd l0 x5_7)] (fun k_ => (P1_ k_ ∨ w.heap.size ≤ k_)) (fun _ => False) rfl rfl ?aP (fun _ hk => hk.elim) ?aF ?aO ?aB ?aS ?aL ?_; (case aP => exact rfl); (case aB => exact (by repeat (first | (with_reducible first | exact HB.out | apply below_alloc | apply pw_below_drewN | apply below_drew1) | exact HB.out))); (case aF => exact (fun k_ hk => (.inr (Nat.le_trans (by first | exact HK.out.1 | exact (show Kept w _ (fun k_ => P1_ k_) from by repeat (first | (with_reducible first | exact HK.out | apply Kept.alloc | apply Kept.drewN | apply Kept.drew) | exact HK.out)).1) hk)))); (case aO => exact (by (with_reducible repeat (first | apply Kd.R_alloc | apply Kd.R_drewN | apply Kd.R_drew)); exact HO_1.out)); (case aS => exact (below_size (by repeat (first | (with_reducible first | exact HB.out | apply below_alloc | apply pw_below_drewN | apply below_drew1) | exact HB.out)))); (case aL => have := LMc68.out; omega); intro v474 w70 ho hb hg hat; rw [← Ny473.out] at ho; have n0_ := Aside0.mk (hb); have n1_ := Aside0.mk (Kept.of_grown (S := (fun k_ => P1_ k_)) hg (by repeat (first | (with_reducible first | exact HK.out | apply Kept.alloc | apply Kept.drewN | apply Kept.drew) | exact HK.out)) (fun k_ e_ => (HO_1.out.1 k_ e_))); have n2_ := Aside0.mk (ho); clear HB; clear HK; clear HO_1; have HB := n0_; have HK := n1_; have HO475 := n2_; clear n0_ n1_ n2_; clear ho hb hg hat; have p476 : 0 ≤ (x5_7 : Int) := of_decide_eq_true (by first | (with_reducible assumption) | assumption); have q476 : x5_7 < (l0.length : Int) := of_decide_eq_true (by first | (with_reducible assumption) | assumption); obtain ⟨ad476, e476, hx476_0⟩ := Kd.at_int (Kd.C_kept_now HR0.out HK.out) x5_7 p476 q476; obtain rfl : ad414 = ad476 := (by injection e476); replace p476 := eq_true p476; replace q476 := eq_true q476))
                        try simp only [Act.put, List.setIfInBounds_toArray, List.set_cons_succ, List.set_cons_zero]
                        go_loopg [1, 5] kj7 (fun kq v1 v5 w' => ∃ (x1_3 : List Int) (x5_3 : Int), v5 = .int .i64 x5_3 ∧ Aside0 (pretty_spec.l3 kq l0 x1_3 x5_3 = some r) ∧ Aside0 (kq ≤ kj7) ∧ Aside0 (Kd.R (Kd.int .u8) 5 w' w0.heap.size (fun k_ => (P1_ k_ ∨ w.heap.size ≤ k_)) v1 x1_3) ∧ Aside0 (Kept w w' (fun k_ => P1_ k_)) ∧ Aside0 (Below w0.heap.size w0 w'))
                        case atStart => exact ⟨(y473), (wrap64 (x5_7 + 1)), (by first | rfl | (simp; done) | (simp [*]; done)), H', ⟨Nat.le_refl _⟩, ⟨by (with_reducible repeat (first | apply Kd.R_alloc | apply Kd.R_drewN | apply Kd.R_drew)); exact HO475.out⟩, ⟨by repeat (first | (with_reducible first | exact HK.out | apply Kept.alloc | apply Kept.drewN | apply Kept.drew) | exact HK.out)⟩, ⟨by repeat (first | (with_reducible first | exact HB.out | apply below_alloc | apply pw_below_drewN | apply below_drew1) | exact HB.out)⟩⟩
                        case round => as_aux_lemma =>
                          clear H'
                          try clear c1
                          try clear c2
                          try clear p2
                          try clear c3
                          try clear c3b0
                          try clear c3b1
                          try clear c4
                          try clear p4
                          try clear q4
                          try clear hx4
                          try clear c5
                          try clear q5
                          try clear c6
                          try clear c6b0
                          try clear p6
                          try clear c7
                          try clear c7b0
                          try clear c9
                          try clear c9b0
                          try clear c9b1
                          try clear c10
                          try clear c10b0
                          try clear c12
                          try clear c12b0
                          try clear c13
                          try clear c13b0
                          try clear c14
                          try clear c14b0
                          try clear c14b1
                          try clear c15
                          try clear c20
                          try clear c20b0
                          try clear c21
                          try clear c21b0
                          try clear c22
                          try clear c22b0
                          try clear c22b1
                          try clear c23
                          try clear c25
                          try clear c25b0
                          try clear c25b1
                          try clear c26
                          try clear c28
                          try clear c28b0
                          try clear c28b1
                          try clear c29
                          try clear c31
                          try clear c33
                          try clear c33b0
                          try clear c33b1
                          try clear c34
                          try clear c39
                          try clear c39b0
                          try clear c41
                          try clear c41b0
                          try clear p41
                          try clear q41
                          try clear hx41
                          try clear c42
                          try clear c42b0
                          try clear p42
                          try clear q42
                          try clear hx42
                          try clear c43
                          try clear c43b0
                          try clear c43b1
                          try clear p43
                          try clear q43
                          try clear hx43
                          try clear p44
                          try clear q44
                          try clear hx44
                          try clear c45
                          try clear c45b0
                          try clear p45
                          try clear q45
                          try clear hx45
                          try clear c46
                          try clear c46b0
                          try clear p46
                          try clear q46
                          try clear hx46
                          try clear c47
                          try clear p47
                          try clear q47
                          try clear hx47
                          try clear c48
                          try clear c53
                          try clear c53b0
                          try clear c54
                          try clear c54b0
                          try clear c55
                          try clear c55b0
                          try clear c55b1
                          try clear c56
                          try clear c58
                          try clear c58b0
                          try clear c58b1
                          try clear c59
                          try clear c61
                          try clear c61b0
                          try clear c61b1
                          try clear c62
                          try clear c64
                          try clear p64
                          try clear c66
                          try clear c66b0
                          try clear c67
                          try clear c67b0
                          try clear c68
                          try clear c69
                          try clear c69b0
                          try clear c69b1
                          try clear hx414_0
                          try clear hx415_0
                          try clear hx422_0
                          try clear hx426_0
                          try clear hx427_0
                          try clear hx431_0
                          try clear hx432_0
                          try clear hx439_0
                          try clear hx446_0
                          try clear hx447_0
                          try clear hx454_0
                          try clear hx455_0
                          try clear hx459_0
                          try clear hx460_0
                          try clear hx464_0
                          try clear hx465_0
                          try clear hx472_0
                          try clear hx476_0
                          try clear p2
                          try clear p4
                          try clear p41
                          try clear p414
                          try clear p415
                          try clear p42
                          try clear p422
                          try clear p426
                          try clear p427
                          try clear p43
                          try clear p431
                          try clear p432
                          try clear p439
                          try clear p44
                          try clear p446
                          try clear p447
                          try clear p45
                          try clear p454
                          try clear p455
                          try clear p459
                          try clear p46
                          try clear p460
                          try clear p464
                          try clear p465
                          try clear p472
                          try clear p476
                          try clear p6
                          try clear p64
                          try clear q4
                          try clear q41
                          try clear q414
                          try clear q415
                          try clear q42
                          try clear q422
                          try clear q426
                          try clear q427
                          try clear q43
                          try clear q431
                          try clear q432
                          try clear q439
                          try clear q44
                          try clear q446
                          try clear q447
                          try clear q45
                          try clear q454
                          try clear q455
                          try clear q459
                          try clear q46
                          try clear q460
                          try clear q464
                          try clear q465
                          try clear q472
                          try clear q476
                          try clear q5
                          obtain ⟨x1_3, x5_3, rfl, HA, HK3, HO_1, HK, HB⟩ := hrel
                          cases gk with
                          | zero => exact absurd HA.out (by simp [pretty_spec.l3])
                          | succ k3 =>
                            have H := HA.out
                            clear HA
                            simp only [pretty_spec.l3] at H
                            by_cases c71 : x5_3 < (l0.length : Int)
                            · rw [if_pos c71] at H
                              have c71b0 : decide (x5_3 < (l0.length : Int)) = true := decide_eq_true c71
                              clear c71
                              by_cases c72 : 0 ≤ x5_3
                              · rw [if_pos c72] at H
                                have c72b0 : decide (0 ≤ x5_3) = true := decide_eq_true c72
                                clear c72
                                by_cases c73 : x1_3.length < 140737488355328
                                · rw [if_pos c73] at H
                                  have LMc73 := Aside0.mk c73
                                  clear c73
                                  obtain ⟨y478, hy478⟩ : ∃ y_ : List Int, y_ = (x1_3 ++ [rd l0 x5_3]) := ⟨_, rfl⟩
                                  replace H : (if (rd l0 x5_3) = 34 then (pretty_spec.l4 k3 l0 y478 x5_3 (wrap64 (x5_3 - 1))) else (pretty_spec.l3 k3 l0 y478 (wrap64 (x5_3 + 1)))) = some r := by first | (rw [hy478]; with_reducible exact H) | (have H2_ := (Option.bind_some _ _).symm.trans H; rw [hy478]; with_reducible exact H2_) | (have H2_ := (Option.bind_some _ _).symm.trans H; with_reducible exact H2_) | with_reducible exact H | (rw [hy478]; exact H) | exact H
                                  have Ny478 := Aside0.mk hy478
                                  clear hy478
                                  by_cases c74 : (rd l0 x5_3) = 34
                                  · rw [if_pos c74] at H
                                    have c74b0 : ((rd l0 x5_3) == 34) = true := beq_iff_eq.mpr c74
                                    have c74b1 : ((rd l0 x5_3) != 34) = false := bne_eq_false_iff_eq.mpr c74
                                    clear c74
                                    have H' := Aside0.mk H
                                    clear H
                                    have p477 : 0 ≤ (x5_3 : Int) := of_decide_eq_true (by first | (with_reducible assumption) | assumption)
                                    have q477 : x5_3 < (l0.length : Int) := of_decide_eq_true (by first | (with_reducible assumption) | assumption)
                                    obtain ⟨ad477, e477, hx477_0⟩ := Kd.at_int (Kd.C_kept_now HR0.out HK.out) x5_3 p477 q477
                                    obtain rfl : ad414 = ad477 := (by injection e477)
                                    replace p477 := eq_true p477
                                    replace q477 := eq_true q477
                                    go_wp2_with (first | ((with_reducible refine gate_builtin (b := .append) (xs := #[.tmp 158, .tmp 163]) rfl ?_); at_builtin; refine Kd.R_append (Kd.int .u8) (w0 := w0) w0.heap.size rfl (.tmp 158) (.tmp 163) 42 5 (.int .u8 0) 1 rfl Try.underlying42 info5 rfl (by decide) (by omega) u1 x1_3 (rd l0 x5_3) [.int .u8 (rd l0 x5_3)] (fun k_ => (P1_ k_ ∨ w.heap.size ≤ k_)) (fun _ => False) rfl rfl ?aP (fun _ hk => hk.elim) ?aF ?aO ?aB ?aS ?aL ?_; (case aP => exact rfl); (case aB => exact (by repeat (first | (with_reducible first | exact HB.out | apply below_alloc | apply pw_below_drewN | apply below_drew1) | exact HB.out))); (case aF => exact (fun k_ hk => (.inr (Nat.le_trans (by first | exact HK.out.1 | exact (show Kept w _ (fun k_ => P1_ k_) from by repeat (first | (with_reducible first | exact HK.out | apply Kept.alloc | apply Kept.drewN | apply Kept.drew) | exact HK.out)).1) hk)))); (case aO => exact (by (with_reducible repeat (first | apply Kd.R_alloc | apply Kd.R_drewN | apply Kd.R_drew)); exact HO_1.out)); (case aS => exact (below_size (by repeat (first | (with_reducible first | exact HB.out | apply below_alloc | apply pw_below_drewN | apply below_drew1) | exact HB.out)))); (case aL => have := LMc73.out; omega); intro v479 w75 ho hb hg hat; rw [← Ny478.out] at ho; have n0_ := Aside0.mk (hb); have n1_ := Aside0.mk (Kept.of_grown (S := (fun k_ => P1_ k_)) hg (by repeat (first | (with_reducible first | exact HK.out | apply Kept.alloc | apply Kept.drewN | apply Kept.drew) | exact HK.out)) (fun k_ e_ => (HO_1.out.1 k_ e_))); have n2_ := Aside0.mk (ho); clear HB; clear HK; clear HO_1; have HB := n0_; have HK := n1_; have HO480 := n2_; clear n0_ n1_ n2_; clear ho hb hg hat; have p481 : 0 ≤ (x5_3 : Int) := of_decide_eq_true (by first | (with_reducible assumption) | assumption); have q481 : x5_3 < (l0.length : Int) := of_decide_eq_true (by first | (with_reducible assumption) | assumption); obtain ⟨ad481, e481, hx481_0⟩ := Kd.at_int (Kd.C_kept_now HR0.out HK.out) x5_3 p481 q481; obtain rfl : ad414 = ad481 := (by injection e481); replace p481 := eq_true p481; replace q481 := eq_true q481))
                                    try simp only [Act.put, List.setIfInBounds_toArray, List.set_cons_succ, List.set_cons_zero]
                                    go_loopg [6] k3 (fun kq v6 w' => ∃ (x6_4 : Int), v6 = .int .i64 x6_4 ∧ Aside0 (pretty_spec.l4 kq l0 y478 x5_3 x6_4 = some r) ∧ Aside0 (kq ≤ k3) ∧ Aside0 (Kd.R (Kd.int .u8) 5 w' w0.heap.size (fun k_ => (P1_ k_ ∨ w.heap.size ≤ k_)) v479 y478) ∧ Aside0 (Kept w w' (fun k_ => P1_ k_)) ∧ Aside0 (Below w0.heap.size w0 w'))
                                    case atStart => exact ⟨(wrap64 (x5_3 - 1)), (by first | rfl | (simp; done) | (simp [*]; done)), H', ⟨Nat.le_refl _⟩, ⟨by (with_reducible repeat (first | apply Kd.R_alloc | apply Kd.R_drewN | apply Kd.R_drew)); exact HO480.out⟩, ⟨by repeat (first | (with_reducible first | exact HK.out | apply Kept.alloc | apply Kept.drewN | apply Kept.drew) | exact HK.out)⟩, ⟨by repeat (first | (with_reducible first | exact HB.out | apply below_alloc | apply pw_below_drewN | apply below_drew1) | exact HB.out)⟩⟩
                                    case round => as_aux_lemma =>
                                      clear H'
                                      try clear c1
                                      try clear c2
                                      try clear p2
                                      try clear c3
                                      try clear c3b0
                                      try clear c3b1
                                      try clear c4
                                      try clear p4
                                      try clear q4
                                      try clear hx4
                                      try clear c5
                                      try clear q5
                                      try clear c6
                                      try clear c6b0
                                      try clear p6
                                      try clear c7
                                      try clear c7b0
                                      try clear c9
                                      try clear c9b0
                                      try clear c9b1
                                      try clear c10
                                      try clear c10b0
                                      try clear c12
                                      try clear c12b0
                                      try clear c13
                                      try clear c13b0
                                      try clear c14
                                      try clear c14b0
                                      try clear c14b1
                                      try clear c15
                                      try clear c20
                                      try clear c20b0
                                      try clear c21
                                      try clear c21b0
                                      try clear c22
                                      try clear c22b0
                                      try clear c22b1
                                      try clear c23
                                      try clear c25
                                      try clear c25b0
                                      try clear c25b1
                                      try clear c26
                                      try clear c28
                                      try clear c28b0
                                      try clear c28b1
                                      try clear c29
                                      try clear c31
                                      try clear c33
                                      try clear c33b0
                                      try clear c33b1
                                      try clear c34
                                      try clear c39
                                      try clear c39b0
                                      try clear c41
                                      try clear c41b0
                                      try clear p41
                                      try clear q41
                                      try clear hx41
                                      try clear c42
                                      try clear c42b0
                                      try clear p42
                                      try clear q42
                                      try clear hx42
                                      try clear c43
                                      try clear c43b0
                                      try clear c43b1
                                      try clear p43
                                      try clear q43
                                      try clear hx43
                                      try clear p44
                                      try clear q44
                                      try clear hx44
                                      try clear c45
                                      try clear c45b0
                                      try clear p45
                                      try clear q45
                                      try clear hx45
                                      try clear c46
                                      try clear c46b0
                                      try clear p46
                                      try clear q46
                                      try clear hx46
                                      try clear c47
                                      try clear p47
                                      try clear q47
                                      try clear hx47
                                      try clear c48
                                      try clear p48
                                      try clear q48
                                      try clear hx48
                                      try clear c53
                                      try clear c53b0
                                      try clear c54
                                      try clear c54b0
                                      try clear c55
                                      try clear c55b0
                                      try clear c55b1
                                      try clear c56
                                      try clear c58
                                      try clear c58b0
                                      try clear c58b1
                                      try clear c59
                                      try clear c61
                                      try clear c61b0
                                      try clear c61b1
                                      try clear c62
                                      try clear c64
                                      try clear p64
                                      try clear c66
                                      try clear c66b0
                                      try clear c67
                                      try clear c67b0
                                      try clear c68
                                      try clear c69
                                      try clear c69b0
                                      try clear c69b1
                                      try clear c71
                                      try clear c71b0
                                      try clear c72
                                      try clear c72b0
                                      try clear c73
                                      try clear c74
                                      try clear c74b0
                                      try clear c74b1
                                      try clear hx414_0
                                      try clear hx415_0
                                      try clear hx422_0
                                      try clear hx426_0
                                      try clear hx427_0
                                      try clear hx431_0
                                      try clear hx432_0
                                      try clear hx439_0
                                      try clear hx446_0
                                      try clear hx447_0
                                      try clear hx454_0
                                      try clear hx455_0
                                      try clear hx459_0
                                      try clear hx460_0
                                      try clear hx464_0
                                      try clear hx465_0
                                      try clear hx472_0
                                      try clear hx476_0
                                      try clear hx477_0
                                      try clear hx481_0
                                      try clear p2
                                      try clear p4
                                      try clear p41
                                      try clear p414
                                      try clear p415
                                      try clear p42
                                      try clear p422
                                      try clear p426
                                      try clear p427
                                      try clear p43
                                      try clear p431
                                      try clear p432
                                      try clear p439
                                      try clear p44
                                      try clear p446
                                      try clear p447
                                      try clear p45
                                      try clear p454
                                      try clear p455
                                      try clear p459
                                      try clear p46
                                      try clear p460
                                      try clear p464
                                      try clear p465
                                      try clear p47
                                      try clear p472
                                      try clear p476
                                      try clear p477
                                      try clear p481
                                      try clear p6
                                      try clear p64
                                      try clear q4
                                      try clear q41
                                      try clear q414
                                      try clear q415
                                      try clear q42
                                      try clear q422
                                      try clear q426
                                      try clear q427
                                      try clear q43
                                      try clear q431
                                      try clear q432
                                      try clear q439
                                      try clear q44
                                      try clear q446
                                      try clear q447
                                      try clear q45
                                      try clear q454
                                      try clear q455
                                      try clear q459
                                      try clear q46
                                      try clear q460
                                      try clear q464
                                      try clear q465
                                      try clear q47
                                      try clear q472
                                      try clear q476
                                      try clear q477
                                      try clear q481
                                      try clear q5
                                      obtain ⟨x6_4, rfl, HA, HK4, HO_1, HK, HB⟩ := hrel
                                      cases gk with
                                      | zero => exact absurd HA.out (by simp [pretty_spec.l4])
                                      | succ k4 =>
                                        have H := HA.out
                                        clear HA
                                        simp only [pretty_spec.l4] at H
                                        by_cases c76 : 0 ≤ x6_4
                                        · rw [if_pos c76] at H
                                          have c76b0 : decide (0 ≤ x6_4) = true := decide_eq_true c76
                                          clear c76
                                          by_cases c77 : x6_4 < (l0.length : Int)
                                          · rw [if_pos c77] at H
                                            have c77b0 : decide (x6_4 < (l0.length : Int)) = true := decide_eq_true c77
                                            clear c77
                                            by_cases c78 : (rd l0 x6_4) = 92
                                            · rw [if_pos c78] at H
                                              have c78b0 : ((rd l0 x6_4) == 92) = true := beq_iff_eq.mpr c78
                                              have c78b1 : ((rd l0 x6_4) != 92) = false := bne_eq_false_iff_eq.mpr c78
                                              clear c78
                                              have H' := Aside0.mk H
                                              clear H
                                              have p482 : 0 ≤ (x6_4 : Int) := of_decide_eq_true (by first | (with_reducible assumption) | assumption)
                                              have q482 : x6_4 < (l0.length : Int) := of_decide_eq_true (by first | (with_reducible assumption) | assumption)
                                              obtain ⟨ad482, e482, hx482_0⟩ := Kd.at_int (Kd.C_kept_now HR0.out HK.out) x6_4 p482 q482
                                              obtain rfl : ad414 = ad482 := (by injection e482)
                                              replace p482 := eq_true p482
                                              replace q482 := eq_true q482
                                              go_wp2
                                              go_roundg k4
                                              case measure => have := HK1.out; have := HJ7.out; have := HK3.out; have := HK4.out; omega
                                              case rel => exact ⟨(wrap64 (x6_4 - 1)), (by first | rfl | (simp; done) | (simp [*]; done)), H', ⟨by have := HK1.out; have := HJ7.out; have := HK3.out; have := HK4.out; omega⟩, ⟨by (with_reducible repeat (first | apply Kd.R_alloc | apply Kd.R_drewN | apply Kd.R_drew)); exact HO_1.out⟩, ⟨by repeat (first | (with_reducible first | exact HK.out | apply Kept.alloc | apply Kept.drewN | apply Kept.drew) | exact HK.out)⟩, ⟨by repeat (first | (with_reducible first | exact HB.out | apply below_alloc | apply pw_below_drewN | apply below_drew1) | exact HB.out)⟩⟩
                                            · rw [if_neg c78] at H
                                              have c78b0 : ((rd l0 x6_4) == 92) = false := beq_eq_false_iff_ne.mpr c78
                                              have c78b1 : ((rd l0 x6_4) != 92) = true := bne_iff_ne.mpr c78
                                              by_cases c79 : (Int.tmod (wrap64 (x6_4 - x5_3)) 2) = 0
                                              · rw [if_pos c79] at H
                                                have c79b0 : ((Int.tmod (wrap64 (x6_4 - x5_3)) 2) == 0) = true := beq_iff_eq.mpr c79
                                                have c79b1 : ((Int.tmod (wrap64 (x6_4 - x5_3)) 2) != 0) = false := bne_eq_false_iff_eq.mpr c79
                                                clear c79
                                                have H' := Aside0.mk H
                                                clear H
                                                have p482 : 0 ≤ (x6_4 : Int) := of_decide_eq_true (by first | (with_reducible assumption) | assumption)
                                                have q482 : x6_4 < (l0.length : Int) := of_decide_eq_true (by first | (with_reducible assumption) | assumption)
                                                obtain ⟨ad482, e482, hx482_0⟩ := Kd.at_int (Kd.C_kept_now HR0.out HK.out) x6_4 p482 q482
                                                obtain rfl : ad414 = ad482 := (by injection e482)
                                                replace p482 := eq_true p482
                                                replace q482 := eq_true q482
                                                go_wp2
                                                go_roundg k4
                                                case measure => have := HK1.out; have := HJ7.out; have := HK3.out; have := HK4.out; omega
                                                case rel => exact ⟨(y478), (wrap64 (x5_3 + 1)), (by first | rfl | (simp; done) | (simp [*]; done)), H', ⟨by have := HK1.out; have := HJ7.out; have := HK3.out; have := HK4.out; omega⟩, ⟨by (with_reducible repeat (first | apply Kd.R_alloc | apply Kd.R_drewN | apply Kd.R_drew)); exact HO_1.out⟩, ⟨by repeat (first | (with_reducible first | exact HK.out | apply Kept.alloc | apply Kept.drewN | apply Kept.drew) | exact HK.out)⟩, ⟨by repeat (first | (with_reducible first | exact HB.out | apply below_alloc | apply pw_below_drewN | apply below_drew1) | exact HB.out)⟩⟩
                                              · rw [if_neg c79] at H
                                                have c79b0 : ((Int.tmod (wrap64 (x6_4 - x5_3)) 2) == 0) = false := beq_eq_false_iff_ne.mpr c79
                                                have c79b1 : ((Int.tmod (wrap64 (x6_4 - x5_3)) 2) != 0) = true := bne_iff_ne.mpr c79
                                                have H' := Aside0.mk H
                                                clear H
                                                have p482 : 0 ≤ (x6_4 : Int) := of_decide_eq_true (by first | (with_reducible assumption) | assumption)
                                                have q482 : x6_4 < (l0.length : Int) := of_decide_eq_true (by first | (with_reducible assumption) | assumption)
                                                obtain ⟨ad482, e482, hx482_0⟩ := Kd.at_int (Kd.C_kept_now HR0.out HK.out) x6_4 p482 q482
                                                obtain rfl : ad414 = ad482 := (by injection e482)
                                                replace p482 := eq_true p482
                                                replace q482 := eq_true q482
                                                go_wp2
                                                go_roundg k4
                                                case measure => have := HK1.out; have := HJ7.out; have := HK3.out; have := HK4.out; omega
                                                case rel => exact ⟨(y478), (wrap64 (x5_3 + 1)), (by first | rfl | (simp; done) | (simp [*]; done)), H', ⟨by have := HK1.out; have := HJ7.out; have := HK3.out; have := HK4.out; omega⟩, ⟨by (with_reducible repeat (first | apply Kd.R_alloc | apply Kd.R_drewN | apply Kd.R_drew)); exact HO_1.out⟩, ⟨by repeat (first | (with_reducible first | exact HK.out | apply Kept.alloc | apply Kept.drewN | apply Kept.drew) | exact HK.out)⟩, ⟨by repeat (first | (with_reducible first | exact HB.out | apply below_alloc | apply pw_below_drewN | apply below_drew1) | exact HB.out)⟩⟩
                                          · rw [if_neg c77] at H
                                            exact absurd H (by simp)
                                        · rw [if_neg c76] at H
                                          exact absurd H (by simp)
                                  · rw [if_neg c74] at H
                                    have c74b0 : ((rd l0 x5_3) == 34) = false := beq_eq_false_iff_ne.mpr c74
                                    have c74b1 : ((rd l0 x5_3) != 34) = true := bne_iff_ne.mpr c74
                                    have H' := Aside0.mk H
                                    clear H
                                    have p477 : 0 ≤ (x5_3 : Int) := of_decide_eq_true (by first | (with_reducible assumption) | assumption)
                                    have q477 : x5_3 < (l0.length : Int) := of_decide_eq_true (by first | (with_reducible assumption) | assumption)
                                    obtain ⟨ad477, e477, hx477_0⟩ := Kd.at_int (Kd.C_kept_now HR0.out HK.out) x5_3 p477 q477
                                    obtain rfl : ad414 = ad477 := (by injection e477)
                                    replace p477 := eq_true p477
                                    replace q477 := eq_true q477
                                    go_wp2_with (first | ((with_reducible refine gate_builtin (b := .append) (xs := #[.tmp 158, .tmp 163]) rfl ?_); at_builtin; refine Kd.R_append (Kd.int .u8) (w0 := w0) w0.heap.size rfl (.tmp 158) (.tmp 163) 42 5 (.int .u8 0) 1 rfl Try.underlying42 info5 rfl (by decide) (by omega) u1 x1_3 (rd l0 x5_3) [.int .u8 (rd l0 x5_3)] (fun k_ => (P1_ k_ ∨ w.heap.size ≤ k_)) (fun _ => False) rfl rfl ?aP (fun _ hk => hk.elim) ?aF ?aO ?aB ?aS ?aL ?_; (case aP => exact rfl); (case aB => exact (by repeat (first | (with_reducible first | exact HB.out | apply below_alloc | apply pw_below_drewN | apply below_drew1) | exact HB.out))); (case aF => exact (fun k_ hk => (.inr (Nat.le_trans (by first | exact HK.out.1 | exact (show Kept w _ (fun k_ => P1_ k_) from by repeat (first | (with_reducible first | exact HK.out | apply Kept.alloc | apply Kept.drewN | apply Kept.drew) | exact HK.out)).1) hk)))); (case aO => exact (by (with_reducible repeat (first | apply Kd.R_alloc | apply Kd.R_drewN | apply Kd.R_drew)); exact HO_1.out)); (case aS => exact (below_size (by repeat (first | (with_reducible first | exact HB.out | apply below_alloc | apply pw_below_drewN | apply below_drew1) | exact HB.out)))); (case aL => have := LMc73.out; omega); intro v479 w80 ho hb hg hat; rw [← Ny478.out] at ho; have n0_ := Aside0.mk (hb); have n1_ := Aside0.mk (Kept.of_grown (S := (fun k_ => P1_ k_)) hg (by repeat (first | (with_reducible first | exact HK.out | apply Kept.alloc | apply Kept.drewN | apply Kept.drew) | exact HK.out)) (fun k_ e_ => (HO_1.out.1 k_ e_))); have n2_ := Aside0.mk (ho); clear HB; clear HK; clear HO_1; have HB := n0_; have HK := n1_; have HO480 := n2_; clear n0_ n1_ n2_; clear ho hb hg hat; have p481 : 0 ≤ (x5_3 : Int) := of_decide_eq_true (by first | (with_reducible assumption) | assumption); have q481 : x5_3 < (l0.length : Int) := of_decide_eq_true (by first | (with_reducible assumption) | assumption); obtain ⟨ad481, e481, hx481_0⟩ := Kd.at_int (Kd.C_kept_now HR0.out HK.out) x5_3 p481 q481; obtain rfl : ad414 = ad481 := (by injection e481); replace p481 := eq_true p481; replace q481 := eq_true q481))
                                    go_roundg k3
                                    case measure => have := HK1.out; have := HJ7.out; have := HK3.out; omega
                                    case rel => exact ⟨(y478), (wrap64 (x5_3 + 1)), (by first | rfl | (simp; done) | (simp [*]; done)), H', ⟨by have := HK1.out; have := HJ7.out; have := HK3.out; omega⟩, ⟨by (with_reducible repeat (first | apply Kd.R_alloc | apply Kd.R_drewN | apply Kd.R_drew)); exact HO480.out⟩, ⟨by repeat (first | (with_reducible first | exact HK.out | apply Kept.alloc | apply Kept.drewN | apply Kept.drew) | exact HK.out)⟩, ⟨by repeat (first | (with_reducible first | exact HB.out | apply below_alloc | apply pw_below_drewN | apply below_drew1) | exact HB.out)⟩⟩
                                · rw [if_neg c73] at H
                                  exact absurd H (by simp)
                              · rw [if_neg c72] at H
                                exact absurd H (by simp)
                            · rw [if_neg c71] at H
                              have c71b0 : decide (x5_3 < (l0.length : Int)) = false := decide_eq_false c71
                              clear c71
                              have H' := Aside0.mk H
                              clear H
                              go_wp2
                              go_roundg k3
                              case measure => have := HK1.out; have := HJ7.out; have := HK3.out; omega
                              case rel => exact ⟨(x1_3), (wrap64 (x5_3 + 1)), (by first | rfl | (simp; done) | (simp [*]; done)), H', ⟨by have := HK1.out; have := HJ7.out; have := HK3.out; omega⟩, ⟨by (with_reducible repeat (first | apply Kd.R_alloc | apply Kd.R_drewN | apply Kd.R_drew)); exact HO_1.out⟩, ⟨by repeat (first | (with_reducible first | exact HK.out | apply Kept.alloc | apply Kept.drewN | apply Kept.drew) | exact HK.out)⟩, ⟨by repeat (first | (with_reducible first | exact HB.out | apply below_alloc | apply pw_below_drewN | apply below_drew1) | exact HB.out)⟩⟩
                      · rw [if_neg c69] at H
                        have c69b0 : ((rd l0 x5_7) == 34) = false := beq_eq_false_iff_ne.mpr c69
                        have c69b1 : ((rd l0 x5_7) != 34) = true := bne_iff_ne.mpr c69
                        have HC81 := Aside0.mk H
                        clear H
                        have p472 : 0 ≤ (x5_7 : Int) := of_decide_eq_true (by first | (with_reducible assumption) | assumption)
                        have q472 : x5_7 < (l0.length : Int) := of_decide_eq_true (by first | (with_reducible assumption) | assumption)
                        obtain ⟨ad472, e472, hx472_0⟩ := Kd.at_int (Kd.C_kept_now HR0.out HK.out) x5_7 p472 q472
                        obtain rfl : ad414 = ad472 := (by injection e472)
                        replace p472 := eq_true p472
                        replace q472 := eq_true q472
                        go_upto_region 39 with (first | ((with_reducible refine gate_builtin (b := .append) (xs := #[.tmp 138, .tmp 143]) rfl ?_); at_builtin; refine Kd.R_append (Kd.int .u8) (w0 := w0) w0.heap.size rfl (.tmp 138) (.tmp 143) 42 5 (.int .u8 0) 1 rfl Try.underlying42 info5 rfl (by decide) (by omega) u1 x1_7 (rd l0 x5_7) [.int .u8 (rd l0 x5_7)] (fun k_ => (P1_ k_ ∨ w.heap.size ≤ k_)) (fun _ => False) rfl rfl ?aP (fun _ hk => hk.elim) ?aF ?aO ?aB ?aS ?aL ?_; (case aP => exact rfl); (case aB => exact (by repeat (first | (with_reducible first | exact HB.out | apply below_alloc | apply pw_below_drewN | apply below_drew1) | exact HB.out))); (case aF => exact (fun k_ hk => (.inr (Nat.le_trans (by first | exact HK.out.1 | exact (show Kept w _ (fun k_ => P1_ k_) from by repeat (first | (with_reducible first | exact HK.out | apply Kept.alloc | apply Kept.drewN | apply Kept.drew) | exact HK.out)).1) hk)))); (case aO => exact (by (with_reducible repeat (first | apply Kd.R_alloc | apply Kd.R_drewN | apply Kd.R_drew)); exact HO_1.out)); (case aS => exact (below_size (by repeat (first | (with_reducible first | exact HB.out | apply below_alloc | apply pw_below_drewN | apply below_drew1) | exact HB.out)))); (case aL => have := LMc68.out; omega); intro v474 w82 ho hb hg hat; rw [← Ny473.out] at ho; have n0_ := Aside0.mk (hb); have n1_ := Aside0.mk (Kept.of_grown (S := (fun k_ => P1_ k_)) hg (by repeat (first | (with_reducible first | exact HK.out | apply Kept.alloc | apply Kept.drewN | apply Kept.drew) | exact HK.out)) (fun k_ e_ => (HO_1.out.1 k_ e_))); have n2_ := Aside0.mk (ho); clear HB; clear HK; clear HO_1; have HB := n0_; have HK := n1_; have HO475 := n2_; clear n0_ n1_ n2_; clear ho hb hg hat; have p476 : 0 ≤ (x5_7 : Int) := of_decide_eq_true (by first | (with_reducible assumption) | assumption); have q476 : x5_7 < (l0.length : Int) := of_decide_eq_true (by first | (with_reducible assumption) | assumption); obtain ⟨ad476, e476, hx476_0⟩ := Kd.at_int (Kd.C_kept_now HR0.out HK.out) x5_7 p476 q476; obtain rfl : ad414 = ad476 := (by injection e476); replace p476 := eq_true p476; replace q476 := eq_true q476))
                        (try simp only [Act.put, List.setIfInBounds_toArray, List.set_cons_zero, List.set_cons_succ])
                        go_cut [195] (fun v195 wc => ∃ (kq : Nat) (x195_80 : Bool), v195 = .bool x195_80 ∧ Aside0 (pretty_spec.j7 kq l0 y473 x5_7 x195_80 = some r) ∧ Aside0 (kq ≤ kj7) ∧ Aside0 (Kd.R (Kd.int .u8) 5 wc w0.heap.size (fun k_ => (P1_ k_ ∨ w.heap.size ≤ k_)) v474 y473) ∧ Aside0 (Kept w wc (fun k_ => P1_ k_)) ∧ Aside0 (Below w0.heap.size w0 wc))
                        case first =>
                          have H := HC81.out
                          clear HC81
                          by_cases c83 : (rd l0 x5_7) = 125
                          · rw [if_pos c83] at H
                            have c83b0 : ((rd l0 x5_7) == 125) = true := beq_iff_eq.mpr c83
                            have c83b1 : ((rd l0 x5_7) != 125) = false := bne_eq_false_iff_eq.mpr c83
                            clear c83
                            (first | rw [c83b0] | (simp only [i64_w, i32_w]; rw [c83b0]) | skip)
                            have H' := Aside0.mk H
                            clear H
                            have p483 : 0 ≤ (x5_7 : Int) := of_decide_eq_true (by first | (with_reducible assumption) | assumption)
                            have q483 : x5_7 < (l0.length : Int) := of_decide_eq_true (by first | (with_reducible assumption) | assumption)
                            obtain ⟨ad483, e483, hx483_0⟩ := Kd.at_int (Kd.C_kept_now HR0.out HK.out) x5_7 p483 q483
                            obtain rfl : ad414 = ad483 := (by injection e483)
                            replace p483 := eq_true p483
                            replace q483 := eq_true q483
                            go_wp2
                            go_meet
                            case rel => exact ⟨_, (true), (by first | rfl | (simp; done) | (simp [*]; done)), H', ⟨by have := HK1.out; have := HJ7.out; first | omega | exact Nat.le_refl _⟩, ⟨by (with_reducible repeat (first | apply Kd.R_alloc | apply Kd.R_drewN | apply Kd.R_drew)); exact HO475.out⟩, ⟨by repeat (first | (with_reducible first | exact HK.out | apply Kept.alloc | apply Kept.drewN | apply Kept.drew) | exact HK.out)⟩, ⟨by repeat (first | (with_reducible first | exact HB.out | apply below_alloc | apply pw_below_drewN | apply below_drew1) | exact HB.out)⟩⟩
                          · rw [if_neg c83] at H
                            have c83b0 : ((rd l0 x5_7) == 125) = false := beq_eq_false_iff_ne.mpr c83
                            have c83b1 : ((rd l0 x5_7) != 125) = true := bne_iff_ne.mpr c83
                            (first | rw [c83b0] | (simp only [i64_w, i32_w]; rw [c83b0]) | skip)
                            have H' := Aside0.mk H
                            clear H
                            have p483 : 0 ≤ (x5_7 : Int) := of_decide_eq_true (by first | (with_reducible assumption) | assumption)
                            have q483 : x5_7 < (l0.length : Int) := of_decide_eq_true (by first | (with_reducible assumption) | assumption)
                            obtain ⟨ad483, e483, hx483_0⟩ := Kd.at_int (Kd.C_kept_now HR0.out HK.out) x5_7 p483 q483
                            obtain rfl : ad414 = ad483 := (by injection e483)
                            replace p483 := eq_true p483
                            replace q483 := eq_true q483
                            have p484 : 0 ≤ (x5_7 : Int) := of_decide_eq_true (by first | (with_reducible assumption) | assumption)
                            have q484 : x5_7 < (l0.length : Int) := of_decide_eq_true (by first | (with_reducible assumption) | assumption)
                            obtain ⟨ad484, e484, hx484_0⟩ := Kd.at_int (Kd.C_kept_now HR0.out HK.out) x5_7 p484 q484
                            obtain rfl : ad414 = ad484 := (by injection e484)
                            replace p484 := eq_true p484
                            replace q484 := eq_true q484
                            go_wp2
                            go_meet
                            case rel => exact ⟨_, (((rd l0 x5_7) == 93)), (by first | rfl | (simp; done) | (simp [*]; done)), H', ⟨by have := HK1.out; have := HJ7.out; first | omega | exact Nat.le_refl _⟩, ⟨by (with_reducible repeat (first | apply Kd.R_alloc | apply Kd.R_drewN | apply Kd.R_drew)); exact HO475.out⟩, ⟨by repeat (first | (with_reducible first | exact HK.out | apply Kept.alloc | apply Kept.drewN | apply Kept.drew) | exact HK.out)⟩, ⟨by repeat (first | (with_reducible first | exact HB.out | apply below_alloc | apply pw_below_drewN | apply below_drew1) | exact HB.out)⟩⟩
                        case rest => as_aux_lemma =>
                          clear HC81
                          try clear c1
                          try clear c2
                          try clear p2
                          try clear c3
                          try clear c3b0
                          try clear c3b1
                          try clear c4
                          try clear p4
                          try clear q4
                          try clear hx4
                          try clear c5
                          try clear q5
                          try clear c6
                          try clear c6b0
                          try clear p6
                          try clear c7
                          try clear c7b0
                          try clear c8
                          try clear c9
                          try clear c9b0
                          try clear c9b1
                          try clear c10
                          try clear c10b0
                          try clear c12
                          try clear c12b0
                          try clear c13
                          try clear c13b0
                          try clear c14
                          try clear c14b0
                          try clear c14b1
                          try clear c15
                          try clear c20
                          try clear c20b0
                          try clear c21
                          try clear c21b0
                          try clear c22
                          try clear c22b0
                          try clear c22b1
                          try clear c23
                          try clear c25
                          try clear c25b0
                          try clear c25b1
                          try clear c26
                          try clear c28
                          try clear c28b0
                          try clear c28b1
                          try clear c29
                          try clear c31
                          try clear c33
                          try clear c33b0
                          try clear c33b1
                          try clear c34
                          try clear c39
                          try clear c39b0
                          try clear c41
                          try clear c41b0
                          try clear p41
                          try clear q41
                          try clear hx41
                          try clear c42
                          try clear c42b0
                          try clear p42
                          try clear q42
                          try clear hx42
                          try clear c43
                          try clear c43b0
                          try clear c43b1
                          try clear p43
                          try clear q43
                          try clear hx43
                          try clear p44
                          try clear q44
                          try clear hx44
                          try clear c45
                          try clear c45b0
                          try clear p45
                          try clear q45
                          try clear hx45
                          try clear c46
                          try clear c46b0
                          try clear p46
                          try clear q46
                          try clear hx46
                          try clear c47
                          try clear p47
                          try clear q47
                          try clear hx47
                          try clear c48
                          try clear p48
                          try clear q48
                          try clear hx48
                          try clear c53
                          try clear c53b0
                          try clear c54
                          try clear c54b0
                          try clear c55
                          try clear c55b0
                          try clear c55b1
                          try clear c56
                          try clear c58
                          try clear c58b0
                          try clear c58b1
                          try clear c59
                          try clear c61
                          try clear c61b0
                          try clear c61b1
                          try clear c62
                          try clear c64
                          try clear p64
                          try clear c66
                          try clear c66b0
                          try clear c67
                          try clear c67b0
                          try clear c68
                          try clear c69
                          try clear c69b0
                          try clear c69b1
                          try clear c71
                          try clear c71b0
                          try clear c72
                          try clear c72b0
                          try clear c73
                          try clear c74
                          try clear c74b0
                          try clear c74b1
                          try clear c76
                          try clear c76b0
                          try clear c77
                          try clear c77b0
                          try clear c78
                          try clear c78b0
                          try clear c78b1
                          try clear c79
                          try clear c79b0
                          try clear c79b1
                          try clear c83
                          try clear c83b0
                          try clear c83b1
                          try clear hx414_0
                          try clear hx415_0
                          try clear hx422_0
                          try clear hx426_0
                          try clear hx427_0
                          try clear hx431_0
                          try clear hx432_0
                          try clear hx439_0
                          try clear hx446_0
                          try clear hx447_0
                          try clear hx454_0
                          try clear hx455_0
                          try clear hx459_0
                          try clear hx460_0
                          try clear hx464_0
                          try clear hx465_0
                          try clear hx472_0
                          try clear hx476_0
                          try clear hx477_0
                          try clear hx481_0
                          try clear hx482_0
                          try clear hx483_0
                          try clear hx484_0
                          try clear p2
                          try clear p4
                          try clear p41
                          try clear p414
                          try clear p415
                          try clear p42
                          try clear p422
                          try clear p426
                          try clear p427
                          try clear p43
                          try clear p431
                          try clear p432
                          try clear p439
                          try clear p44
                          try clear p446
                          try clear p447
                          try clear p45
                          try clear p454
                          try clear p455
                          try clear p459
                          try clear p46
                          try clear p460
                          try clear p464
                          try clear p465
                          try clear p47
                          try clear p472
                          try clear p476
                          try clear p477
                          try clear p48
                          try clear p481
                          try clear p482
                          try clear p483
                          try clear p484
                          try clear p6
                          try clear p64
                          try clear q4
                          try clear q41
                          try clear q414
                          try clear q415
                          try clear q42
                          try clear q422
                          try clear q426
                          try clear q427
                          try clear q43
                          try clear q431
                          try clear q432
                          try clear q439
                          try clear q44
                          try clear q446
                          try clear q447
                          try clear q45
                          try clear q454
                          try clear q455
                          try clear q459
                          try clear q46
                          try clear q460
                          try clear q464
                          try clear q465
                          try clear q47
                          try clear q472
                          try clear q476
                          try clear q477
                          try clear q48
                          try clear q481
                          try clear q482
                          try clear q483
                          try clear q484
                          try clear q5
                          obtain ⟨kq, x195_80, rfl, HA, HJ80, HO_1, HK, HB⟩ := hcut
                          cases kq with
                          | zero => exact absurd HA.out (by simp [pretty_spec.j7])
                          | succ kj80 =>
                            have H := HA.out
                            clear HA
                            simp only [pretty_spec.j7] at H
                            by_cases c84 : x195_80 = true
                            · subst c84
                              have H1 : (pretty_spec.l5 kj80 l0 y473 x5_7 (wrap64 ((y473.length : Int) - 2))) = some r := by rw [if_pos rfl] at H; exact H
                              clear H
                              have H := H1
                              clear H1
                              have H' := Aside0.mk H
                              clear H
                              obtain ⟨Ao85, co85, eo85⟩ := Kd.R_slice HO_1.out
                              subst eo85
                              go_wp2
                              try simp only [Act.put, List.setIfInBounds_toArray, List.set_cons_succ, List.set_cons_zero]
                              go_loopg [7] kj80 (fun kq v7 w' => ∃ (x1_4 : List Int) (x7_4 : Int), v7 = .int .i64 x7_4 ∧ Aside0 (pretty_spec.l5 kq l0 x1_4 x5_7 x7_4 = some r) ∧ Aside0 (kq ≤ kj80) ∧ Aside0 (Kd.R (Kd.int .u8) 5 w' w0.heap.size (fun k_ => (P1_ k_ ∨ w.heap.size ≤ k_)) (.slice Ao85 y473.length co85) x1_4) ∧ Aside0 (Kept w w' (fun k_ => P1_ k_)) ∧ Aside0 (Below w0.heap.size w0 w'))
                              case atStart => exact ⟨(y473), (wrap64 ((y473.length : Int) - 2)), (by first | rfl | (simp; done) | (simp [*]; done)), H', ⟨Nat.le_refl _⟩, ⟨by (with_reducible repeat (first | apply Kd.R_alloc | apply Kd.R_drewN | apply Kd.R_drew)); exact HO_1.out⟩, ⟨by repeat (first | (with_reducible first | exact HK.out | apply Kept.alloc | apply Kept.drewN | apply Kept.drew) | exact HK.out)⟩, ⟨by repeat (first | (with_reducible first | exact HB.out | apply below_alloc | apply pw_below_drewN | apply below_drew1) | exact HB.out)⟩⟩
                              case round => as_aux_lemma =>
                                clear H'
                                try clear c1
                                try clear c2
                                try clear p2
                                try clear c3
                                try clear c3b0
                                try clear c3b1
                                try clear c4
                                try clear p4
                                try clear q4
                                try clear hx4
                                try clear c5
                                try clear q5
                                try clear c6
                                try clear c6b0
                                try clear p6
                                try clear c7
                                try clear c7b0
                                try clear c8
                                try clear c9
                                try clear c9b0
                                try clear c9b1
                                try clear c10
                                try clear c10b0
                                try clear c12
                                try clear c12b0
                                try clear c13
                                try clear c13b0
                                try clear c14
                                try clear c14b0
                                try clear c14b1
                                try clear c15
                                try clear c20
                                try clear c20b0
                                try clear c21
                                try clear c21b0
                                try clear c22
                                try clear c22b0
                                try clear c22b1
                                try clear c23
                                try clear c25
                                try clear c25b0
                                try clear c25b1
                                try clear c26
                                try clear c28
                                try clear c28b0
                                try clear c28b1
                                try clear c29
                                try clear c31
                                try clear c33
                                try clear c33b0
                                try clear c33b1
                                try clear c34
                                try clear c39
                                try clear c39b0
                                try clear c41
                                try clear c41b0
                                try clear p41
                                try clear q41
                                try clear hx41
                                try clear c42
                                try clear c42b0
                                try clear p42
                                try clear q42
                                try clear hx42
                                try clear c43
                                try clear c43b0
                                try clear c43b1
                                try clear p43
                                try clear q43
                                try clear hx43
                                try clear p44
                                try clear q44
                                try clear hx44
                                try clear c45
                                try clear c45b0
                                try clear p45
                                try clear q45
                                try clear hx45
                                try clear c46
                                try clear c46b0
                                try clear p46
                                try clear q46
                                try clear hx46
                                try clear c47
                                try clear p47
                                try clear q47
                                try clear hx47
                                try clear c48
                                try clear p48
                                try clear q48
                                try clear hx48
                                try clear c53
                                try clear c53b0
                                try clear c54
                                try clear c54b0
                                try clear c55
                                try clear c55b0
                                try clear c55b1
                                try clear c56
                                try clear c58
                                try clear c58b0
                                try clear c58b1
                                try clear c59
                                try clear c61
                                try clear c61b0
                                try clear c61b1
                                try clear c62
                                try clear c64
                                try clear p64
                                try clear c66
                                try clear c66b0
                                try clear c67
                                try clear c67b0
                                try clear c68
                                try clear c69
                                try clear c69b0
                                try clear c69b1
                                try clear c71
                                try clear c71b0
                                try clear c72
                                try clear c72b0
                                try clear c73
                                try clear c74
                                try clear c74b0
                                try clear c74b1
                                try clear c76
                                try clear c76b0
                                try clear c77
                                try clear c77b0
                                try clear c78
                                try clear c78b0
                                try clear c78b1
                                try clear c79
                                try clear c79b0
                                try clear c79b1
                                try clear c83
                                try clear c83b0
                                try clear c83b1
                                try clear c84
                                try clear hx414_0
                                try clear hx415_0
                                try clear hx422_0
                                try clear hx426_0
                                try clear hx427_0
                                try clear hx431_0
                                try clear hx432_0
                                try clear hx439_0
                                try clear hx446_0
                                try clear hx447_0
                                try clear hx454_0
                                try clear hx455_0
                                try clear hx459_0
                                try clear hx460_0
                                try clear hx464_0
                                try clear hx465_0
                                try clear hx472_0
                                try clear hx476_0
                                try clear hx477_0
                                try clear hx481_0
                                try clear hx482_0
                                try clear hx483_0
                                try clear hx484_0
                                try clear p2
                                try clear p4
                                try clear p41
                                try clear p414
                                try clear p415
                                try clear p42
                                try clear p422
                                try clear p426
                                try clear p427
                                try clear p43
                                try clear p431
                                try clear p432
                                try clear p439
                                try clear p44
                                try clear p446
                                try clear p447
                                try clear p45
                                try clear p454
                                try clear p455
                                try clear p459
                                try clear p46
                                try clear p460
                                try clear p464
                                try clear p465
                                try clear p47
                                try clear p472
                                try clear p476
                                try clear p477
                                try clear p48
                                try clear p481
                                try clear p482
                                try clear p483
                                try clear p484
                                try clear p6
                                try clear p64
                                try clear q4
                                try clear q41
                                try clear q414
                                try clear q415
                                try clear q42
                                try clear q422
                                try clear q426
                                try clear q427
                                try clear q43
                                try clear q431
                                try clear q432
                                try clear q439
                                try clear q44
                                try clear q446
                                try clear q447
                                try clear q45
                                try clear q454
                                try clear q455
                                try clear q459
                                try clear q46
                                try clear q460
                                try clear q464
                                try clear q465
                                try clear q47
                                try clear q472
                                try clear q476
                                try clear q477
                                try clear q48
                                try clear q481
                                try clear q482
                                try clear q483
                                try clear q484
                                try clear q5
                                obtain ⟨x1_4, x7_4, rfl, HA, HK4, HO_1, HK, HB⟩ := hrel
                                have hl1_4 := (Kd.R_reads' HO_1.out).1
                                rw [hl1_4] at HO_1
                                (try simp only [hl1_4])
                                cases gk with
                                | zero => exact absurd HA.out (by simp [pretty_spec.l5])
                                | succ k4 =>
                                  have H := HA.out
                                  clear HA
                                  simp only [pretty_spec.l5] at H
                                  by_cases c86 : x7_4 ≥ 0
                                  · rw [if_pos c86] at H
                                    have c86b0 : decide (0 ≤ x7_4) = true := decide_eq_true c86
                                    clear c86
                                    by_cases c87 : 0 ≤ x7_4
                                    · rw [if_pos c87] at H
                                      have c87b0 : decide (0 ≤ x7_4) = true := decide_eq_true c87
                                      clear c87
                                      by_cases c88 : x7_4 < (x1_4.length : Int)
                                      · rw [if_pos c88] at H
                                        have c88b0 : decide (x7_4 < (x1_4.length : Int)) = true := decide_eq_true c88
                                        clear c88
                                        by_cases c89 : (rd x1_4 x7_4) ≤ 32
                                        · rw [if_pos c89] at H
                                          have c89b0 : decide ((rd x1_4 x7_4) ≤ 32) = true := decide_eq_true c89
                                          clear c89
                                          have H' := Aside0.mk H
                                          clear H
                                          have p485 : 0 ≤ (x7_4 : Int) := of_decide_eq_true (by first | (with_reducible assumption) | assumption)
                                          have q485 : x7_4 < (x1_4.length : Int) := of_decide_eq_true (by first | (with_reducible assumption) | assumption)
                                          obtain ⟨ad485, e485, hx485_0⟩ := Kd.at_int (Kd.R_reads' HO_1.out).2.2 x7_4 p485 q485
                                          cases e485
                                          replace p485 := eq_true p485
                                          replace q485 := eq_true q485
                                          go_wp2
                                          (try simp only [← hl1_4])
                                          go_roundg k4
                                          case measure => have := HK1.out; have := HJ7.out; have := HJ80.out; have := HK4.out; omega
                                          case rel => exact ⟨(x1_4), (wrap64 (x7_4 - 1)), (by first | rfl | (simp; done) | (simp [*]; done)), H', ⟨by have := HK1.out; have := HJ7.out; have := HJ80.out; have := HK4.out; omega⟩, ⟨by (try simp only [hl1_4]); (with_reducible repeat (first | apply Kd.R_alloc | apply Kd.R_drewN | apply Kd.R_drew)); exact HO_1.out⟩, ⟨by repeat (first | (with_reducible first | exact HK.out | apply Kept.alloc | apply Kept.drewN | apply Kept.drew) | exact HK.out)⟩, ⟨by repeat (first | (with_reducible first | exact HB.out | apply below_alloc | apply pw_below_drewN | apply below_drew1) | exact HB.out)⟩⟩
                                        · rw [if_neg c89] at H
                                          have c89b0 : decide ((rd x1_4 x7_4) ≤ 32) = false := decide_eq_false c89
                                          clear c89
                                          by_cases c90 : (rd x1_4 x7_4) = 44
                                          · rw [if_pos c90] at H
                                            have c90b0 : ((rd x1_4 x7_4) == 44) = true := beq_iff_eq.mpr c90
                                            have c90b1 : ((rd x1_4 x7_4) != 44) = false := bne_eq_false_iff_eq.mpr c90
                                            clear c90
                                            obtain ⟨y487, hy487⟩ : ∃ y_ : List Int, y_ = (x1_4.set (x7_4 : Int).toNat 32) := ⟨_, rfl⟩
                                            replace H : (pretty_spec.l0 k4 l0 y487 (wrap64 (x5_7 + 1))) = some r := by first | (rw [hy487]; with_reducible exact H) | (have H2_ := (Option.bind_some _ _).symm.trans H; rw [hy487]; with_reducible exact H2_) | (have H2_ := (Option.bind_some _ _).symm.trans H; with_reducible exact H2_) | with_reducible exact H | (rw [hy487]; exact H) | exact H
                                            have Ny487 := Aside0.mk hy487
                                            clear hy487
                                            have H' := Aside0.mk H
                                            clear H
                                            have p485 : 0 ≤ (x7_4 : Int) := of_decide_eq_true (by first | (with_reducible assumption) | assumption)
                                            have q485 : x7_4 < (x1_4.length : Int) := of_decide_eq_true (by first | (with_reducible assumption) | assumption)
                                            obtain ⟨ad485, e485, hx485_0⟩ := Kd.at_int (Kd.R_reads' HO_1.out).2.2 x7_4 p485 q485
                                            cases e485
                                            replace p485 := eq_true p485
                                            replace q485 := eq_true q485
                                            have p486 : 0 ≤ (x7_4 : Int) := of_decide_eq_true (by first | (with_reducible assumption) | assumption)
                                            have q486 : x7_4 < (x1_4.length : Int) := of_decide_eq_true (by first | (with_reducible assumption) | assumption)
                                            obtain ⟨ad486, e486, hx486_0⟩ := Kd.at_int (Kd.R_reads' HO_1.out).2.2 x7_4 p486 q486
                                            obtain rfl : ad485 = ad486 := (by injection e486)
                                            replace p486 := eq_true p486
                                            replace q486 := eq_true q486
                                            have p91 : 0 ≤ (x7_4 : Int) := of_decide_eq_true (by first | (with_reducible assumption) | assumption)
                                            have q91 : (x7_4 : Int) < ((x1_4.length : Int) : Int) := of_decide_eq_true (by first | (with_reducible assumption) | assumption)
                                            obtain ⟨go91, co91, eo91, gb91, gl91, cl91, HG91⟩ := Kd.R_form HO_1.out (by omega)
                                            (first | cases eo91 | (injection eo91 with ea_ en_ ec_; (first | subst ea_ | (injection ea_ with ea_; subst ea_)); subst ec_; clear en_))
                                            have GB91 := Aside0.mk gb91
                                            have GG91 := Aside0.mk HG91
                                            clear gb91 gl91 HG91
                                            have HMgo91 := Aside0.mk (show (P1_ go91 ∨ w.heap.size ≤ go91) from (HO_1.out.1 _ rfl))
                                            (first | simp only [add_plain] at hx485_0 | skip)
                                            (first | simp only [add_plain] at hx486_0 | skip)
                                            obtain ⟨hx91_0, hf91_0⟩ := Kd.R_celln 0 HO_1.out (x7_4 : Int) p91 q91
                                            replace p91 := eq_true p91
                                            replace q91 := eq_true q91
                                            have HP92 := Kd.R_putg HO_1.out (x7_4 : Int) 32
                                            go_wp2_with (first | ((with_reducible refine gate_store (t := 5) (p := 215) rfl ?_); refine store_event (t := 5) (p := 215) (v := ?vo_w93) (w1 := (wr.setCell ⟨go91, (x7_4 : Int).toNat, none⟩ (.int .u8 32))) ?hg ?ho ?hn ?hr ?_; (case ho => rfl); (case hg => rfl); (case hn => rfl); (case hr => first | (go_simp; done) | (go_simp; rfl)); intro w93 hw; have hg : wr.grownBy w93 (some go91) := (by rw [hw]; exact HP92.2); have hp_ : Kd.R (Kd.int .u8) 5 w93 w0.heap.size (fun k_ => (P1_ k_ ∨ w.heap.size ≤ k_)) (.slice (some ⟨go91, 0, none⟩) x1_4.length co85) y487 := (by rw [hw, Ny487.out]; exact HP92.1); clear HP92; have n0_ := Aside0.mk (hp_); have n1_ := Aside0.mk ((by rw [hw]; exact below_set (HB.out) GB91.out : Below w0.heap.size w0 w93)); have n2_ := Aside0.mk (Kept.of_grown (S := (fun k_ => P1_ k_)) hg (by repeat (first | (with_reducible first | exact HK.out | apply Kept.alloc | apply Kept.drewN | apply Kept.drew) | exact HK.out)) (fun k_ e_ => (HO_1.out.1 k_ e_))); clear HO_1; clear HB; clear HK; have HO_1 := n0_; have HB := n1_; have HK := n2_; clear n0_ n1_ n2_; clear hg hw hp_))
                                            (try simp only [← hl1_4])
                                            go_roundg k4
                                            case measure => have := HK1.out; have := HJ7.out; have := HJ80.out; have := HK4.out; omega
                                            case rel => exact ⟨(y487), (wrap64 (x5_7 + 1)), (by first | rfl | (simp; done) | (simp [*]; done)), H', ⟨by have := HK1.out; have := HJ7.out; have := HJ80.out; have := HK4.out; omega⟩, ⟨by (try simp only [hl1_4]); (with_reducible repeat (first | apply Kd.R_alloc | apply Kd.R_drewN | apply Kd.R_drew)); exact HO_1.out⟩, ⟨by repeat (first | (with_reducible first | exact HK.out | apply Kept.alloc | apply Kept.drewN | apply Kept.drew) | exact HK.out)⟩, ⟨by repeat (first | (with_reducible first | exact HB.out | apply below_alloc | apply pw_below_drewN | apply below_drew1) | exact HB.out)⟩⟩
                                          · rw [if_neg c90] at H
                                            have c90b0 : ((rd x1_4 x7_4) == 44) = false := beq_eq_false_iff_ne.mpr c90
                                            have c90b1 : ((rd x1_4 x7_4) != 44) = true := bne_iff_ne.mpr c90
                                            have H' := Aside0.mk H
                                            clear H
                                            have p485 : 0 ≤ (x7_4 : Int) := of_decide_eq_true (by first | (with_reducible assumption) | assumption)
                                            have q485 : x7_4 < (x1_4.length : Int) := of_decide_eq_true (by first | (with_reducible assumption) | assumption)
                                            obtain ⟨ad485, e485, hx485_0⟩ := Kd.at_int (Kd.R_reads' HO_1.out).2.2 x7_4 p485 q485
                                            cases e485
                                            replace p485 := eq_true p485
                                            replace q485 := eq_true q485
                                            have p486 : 0 ≤ (x7_4 : Int) := of_decide_eq_true (by first | (with_reducible assumption) | assumption)
                                            have q486 : x7_4 < (x1_4.length : Int) := of_decide_eq_true (by first | (with_reducible assumption) | assumption)
                                            obtain ⟨ad486, e486, hx486_0⟩ := Kd.at_int (Kd.R_reads' HO_1.out).2.2 x7_4 p486 q486
                                            obtain rfl : ad485 = ad486 := (by injection e486)
                                            replace p486 := eq_true p486
                                            replace q486 := eq_true q486
                                            go_wp2
                                            (try simp only [← hl1_4])
                                            go_roundg k4
                                            case measure => have := HK1.out; have := HJ7.out; have := HJ80.out; have := HK4.out; omega
                                            case rel => exact ⟨(x1_4), (wrap64 (x5_7 + 1)), (by first | rfl | (simp; done) | (simp [*]; done)), H', ⟨by have := HK1.out; have := HJ7.out; have := HJ80.out; have := HK4.out; omega⟩, ⟨by (try simp only [hl1_4]); (with_reducible repeat (first | apply Kd.R_alloc | apply Kd.R_drewN | apply Kd.R_drew)); exact HO_1.out⟩, ⟨by repeat (first | (with_reducible first | exact HK.out | apply Kept.alloc | apply Kept.drewN | apply Kept.drew) | exact HK.out)⟩, ⟨by repeat (first | (with_reducible first | exact HB.out | apply below_alloc | apply pw_below_drewN | apply below_drew1) | exact HB.out)⟩⟩
                                      · rw [if_neg c88] at H
                                        exact absurd H (by simp)
                                    · rw [if_neg c87] at H
                                      exact absurd H (by simp)
                                  · rw [if_neg c86] at H
                                    have c86b0 : decide (0 ≤ x7_4) = false := decide_eq_false c86
                                    clear c86
                                    have H' := Aside0.mk H
                                    clear H
                                    go_wp2
                                    (try simp only [← hl1_4])
                                    go_roundg k4
                                    case measure => have := HK1.out; have := HJ7.out; have := HJ80.out; have := HK4.out; omega
                                    case rel => exact ⟨(x1_4), (wrap64 (x5_7 + 1)), (by first | rfl | (simp; done) | (simp [*]; done)), H', ⟨by have := HK1.out; have := HJ7.out; have := HJ80.out; have := HK4.out; omega⟩, ⟨by (try simp only [hl1_4]); (with_reducible repeat (first | apply Kd.R_alloc | apply Kd.R_drewN | apply Kd.R_drew)); exact HO_1.out⟩, ⟨by repeat (first | (with_reducible first | exact HK.out | apply Kept.alloc | apply Kept.drewN | apply Kept.drew) | exact HK.out)⟩, ⟨by repeat (first | (with_reducible first | exact HB.out | apply below_alloc | apply pw_below_drewN | apply below_drew1) | exact HB.out)⟩⟩
                            · replace c84 := Bool.eq_false_iff.mpr c84
                              subst c84
                              have H1 : (pretty_spec.l0 kj80 l0 y473 (wrap64 (x5_7 + 1))) = some r := by rw [if_neg (show ¬ (false = true) by decide)] at H; exact H
                              clear H
                              have H := H1
                              clear H1
                              have H' := Aside0.mk H
                              clear H
                              go_wp2
                              go_roundg kj80
                              case measure => have := HK1.out; have := HJ7.out; have := HJ80.out; omega
                              case rel => exact ⟨(y473), (wrap64 (x5_7 + 1)), (by first | rfl | (simp; done) | (simp [*]; done)), H', ⟨by have := HK1.out; have := HJ7.out; have := HJ80.out; omega⟩, ⟨by (with_reducible repeat (first | apply Kd.R_alloc | apply Kd.R_drewN | apply Kd.R_drew)); exact HO_1.out⟩, ⟨by repeat (first | (with_reducible first | exact HK.out | apply Kept.alloc | apply Kept.drewN | apply Kept.drew) | exact HK.out)⟩, ⟨by repeat (first | (with_reducible first | exact HB.out | apply below_alloc | apply pw_below_drewN | apply below_drew1) | exact HB.out)⟩⟩
                    · rw [if_neg c68] at H
                      exact absurd H (by simp)
                  · rw [if_neg c67] at H
                    exact absurd H (by simp)
                · rw [if_neg c66] at H
                  exact absurd H (by simp)
          · rw [if_neg c7] at H
            exact absurd H (by simp)
        · rw [if_neg c6] at H
          have c6b0 : decide (x5_1 < (l0.length : Int)) = false := decide_eq_false c6
          clear c6
          obtain rfl := Option.some.inj H
          go_wp2
          go_ret
          exact ⟨_, by first | rfl | (simp [errW_none, errW_some] <;> rfl) | (simp [*, errW_none, errW_some] <;> rfl), by (with_reducible repeat (first | apply Kd.R_alloc | apply Kd.R_drewN | apply Kd.R_drew)); exact HO_1.out, by repeat (first | (with_reducible first | exact HB.out | apply below_alloc | apply pw_below_drewN | apply below_drew1) | exact HB.out), by repeat (first | (with_reducible first | exact HK.out | apply Kept.alloc | apply Kept.drewN | apply Kept.drew) | exact HK.out)⟩
  · rw [if_neg c3] at H
    exact absurd H (by simp)

end Go.Proofs.Ytdndddembndnhaa.PA
