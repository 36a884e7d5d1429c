/- Numbers of fastjson's Arena: what is made, and what Int64 and Int give of it. -/
import Derived.Test.YtnajijaachgipaaDoorChecked
import Derived.Test.YtnajijaachgipaaDoorWMine
import Derived.WalkLawsBesides
import Derived.RegionTactic
import Derived.BigQuiet
import Derived.Deep.QuietTactic
import Derived.OwnWalk
import Derived.Lib.AtoiErrMem
namespace Go.Proofs.YtnajijaachgipaaDoor.H
open Go.RowKit Go.Proofs.YtnajijaachgipaaDoorW.PrintWords Go.Proofs.YtnajijaachgipaaDoorW.PrintLast Go.Proofs.YtnajijaachgipaaDoorW.PrintMore
/-- The cells of a new value. -/
def zv : List Value := [.slice none 0 0, .bool false, .slice none 0 0, .string ByteArray.empty, .int .i64 0]
theorem zv_one : ∀ u ∈ zv, u.oneCell' = true := by decide
theorem zv_at (w : World) (j : Nat) (u : Value) (h : zv[j]? = some u) : (w.alloc (.cells #[.slice none 0 0, .bool false, .slice none 0 0, .string ByteArray.empty, .int .i64 0] 86)).cell? ((⟨w.heap.size, 0, none⟩ : Addr).add j) = some u := by
  rw [show ((⟨w.heap.size, 0, none⟩ : Addr).add j) = ⟨w.heap.size, j, none⟩ by unfold Addr.add; split <;> simp_all]
  have : (w.alloc (.cells #[.slice none 0 0, .bool false, .slice none 0 0, .string ByteArray.empty, .int .i64 0] 86)).cell? ⟨w.heap.size, j, none⟩ = zv[j]? := by
    simp [World.cell?, World.alloc, -World.alloc_eq, zv]
  rw [this, h]
/-- What is new where a value has been made: the arena's block alone has changed. -/
structure Made (w w' : World) (g N : Nat) : Prop where
  new : w.heap.size ≤ N
  cells : ∃ cur : Array Value, w'.heap[N]? = some (.cells cur 86 (0, 0)) ∧ cur.toList.take 5 = zv
  grown : w.grownBy w' (some g)
set_option maxHeartbeats 1000000 in
set_option maxRecDepth 100000 in
theorem getValue (b : Value) (g : Nat) (w : World) (hg : w.heap[g]? = some (.cells #[b, .slice none 0 0] 52 (0, 0))) :
    Calls Tryd.prog 39 #[.pointer (some ⟨g, 1, none⟩)] w fun e w' => ∃ N : Nat, e = .returned (.pointer (some ⟨N, 0, none⟩)) ∧ Made w w' g N := by
  have hc : w.cell? ⟨g, 1, none⟩ = some (.slice none 0 0) := by simp [World.cell?, hg]
  have hf : w.frozen? ⟨g, 1, none⟩ = false := by simp [World.frozen?, hg]
  have hlt : g < w.heap.size := Lib.lt_of_cell hc
  obtain ⟨i0, hi, hz0, hz1, hz2⟩ := info_parts (P := Tryd.prog) (e := 86) (z := .agg zv.toArray) (size := 5) (bytes := 80) (by kernel_rfl)
  go_enter Tryd.func39, Tryd.ntmps39
  go_wp2
  go_quiet (fail)
  go_wp2_with (at_builtin; refine wpList_append_own _ rfl _ _ 48 rfl w.heap.size 86 i0 _ 5 80 Tryd.underlying48 hi hz0 hz1 hz2 (by rfl) (by omega) (.slice none 0 0) 0 [] rfl ⟨rfl, .inl ⟨rfl, rfl⟩⟩ ⟨w.heap.size, 0, none⟩ 1 1 zv rfl rfl ?c1 ?c2 (by unfold maxLen; omega) (by omega) ?c3 ?_)
  case c1 => exact zv_at _
  case c2 => exact zv_one
  case c3 => simp
  intro v1 w1 hown hgrow hne
  obtain ⟨_, hv⟩ := hown
  rcases hv with ⟨rfl, h0⟩ | ⟨N, cap, cur, rfl, hN, hheap, hle, hcl, hcs, htk⟩
  · simp at h0
  have hsz1 : w.heap.size < w1.heap.size := by have := hgrow.size; simp at this; omega
  have hg1 : w1.heap[g]? = some (.cells #[b, .slice none 0 0] 52 (0, 0)) := by
    rw [hgrow.block g (by simp; omega) (by simp [Value.ownBlock])]
    exact blk_alloc (w := w.drewN nq) hg _
  have hc1 : w1.cell? ⟨g, 1, none⟩ = some (.slice none 0 0) := by simp [World.cell?, hg1]
  have hf1 : w1.frozen? ⟨g, 1, none⟩ = false := by simp [World.frozen?, hg1]
  go_wp2
  go_quiet (fail)
  go_wp2
  go_ret
  have hin : 5 ≤ cur.toList.length := by
    have := congrArg List.length htk
    simp only [List.length_take, zv] at this
    simp at this ⊢
    omega
  refine ⟨N, rfl, ⟨hN, ⟨cur, ?_, by simpa using htk⟩, ?_⟩⟩
  · rw [setCell_eq_setRow w1 g 1 _ 52 (0, 0) _ hg1]
    exact (setRow_other _ _ _ _ (by omega)).trans hheap
  · rw [setCell_eq_setRow w1 g 1 _ 52 (0, 0) _ hg1]
    refine ⟨hgrow.os, hgrow.tape, hgrow.output, ?_, fun k hk hne => ?_⟩
    · have := hgrow.size
      simp at this
      show w.heap.size ≤ (w1.setRow g _).heap.size
      simp
      omega
    · refine (setRow_other _ _ _ _ (fun e => hne (by rw [e]))).trans ((hgrow.block k (by simp; omega) (by simp [Value.ownBlock])).trans ?_)
      exact Below.heap_alloc (w.drewN _) _ k hk
set_option maxHeartbeats 1000000 in
set_option maxRecDepth 100000 in
/-- NewNumberString on a new arena. -/
theorem newNumber (b : Value) (g : Nat) (s : ByteArray) (w : World) (hg : w.heap[g]? = some (.cells #[b, .slice none 0 0] 52 (0, 0))) :
    Calls Tryd.prog 21 #[.pointer (some ⟨g, 0, none⟩), .string s] w fun e w' => ∃ N : Nat, e = .returned (.pointer (some ⟨N, 0, none⟩)) ∧ w.heap.size ≤ N ∧ w.grownBy w' (some g) ∧ w'.cell? ⟨N, 3, none⟩ = some (.string s) ∧ w'.cell? ⟨N, 4, none⟩ = some (.int .i64 4) := by
  go_enter Tryd.func21, Tryd.ntmps21
  go_wp2_with (go_at_call 39; refine (getValue b g _ hg).mono ?_)
  rintro e w1 ⟨N, rfl, hm⟩
  obtain ⟨hN, ⟨cur, hh, htk⟩, hgr⟩ := hm
  have hcell : ∀ j : Nat, j < 5 → w1.cell? ⟨N, j, none⟩ = zv[j]? := fun j hj => by
    have := congrArg (fun l => l[j]?) htk
    simp only [List.getElem?_take_of_lt hj] at this
    rw [← this]
    simp [World.cell?, hh]
  have h3 : w1.cell? ⟨N, 3, none⟩ = some (.string ByteArray.empty) := hcell 3 (by omega)
  have h4 : w1.cell? ⟨N, 4, none⟩ = some (.int .i64 0) := hcell 4 (by omega)
  have f3 : w1.frozen? ⟨N, 3, none⟩ = false := by simp [World.frozen?, hh]
  have f4 : w1.frozen? ⟨N, 4, none⟩ = false := by simp [World.frozen?, hh]
  clear hcell
  go_wp2
  go_ret
  have e1 := setCell_eq_setRow w1 N 4 cur 86 (0, 0) (.int .i64 4) hh
  have hh2 : (w1.setRow N (cur.setIfInBounds 4 (.int .i64 4))).heap[N]? = some (.cells (cur.setIfInBounds 4 (.int .i64 4)) 86 (0, 0)) := setRow_heap _ _ cur _ 86 (0, 0) hh
  have e2 := setCell_eq_setRow (w1.setRow N (cur.setIfInBounds 4 (.int .i64 4))) N 3 _ 86 (0, 0) (.string s) hh2
  have hh3 : ((w1.setRow N (cur.setIfInBounds 4 (.int .i64 4))).setRow N ((cur.setIfInBounds 4 (.int .i64 4)).setIfInBounds 3 (.string s))).heap[N]? = some (.cells ((cur.setIfInBounds 4 (.int .i64 4)).setIfInBounds 3 (.string s)) 86 (0, 0)) := setRow_heap _ _ _ _ 86 (0, 0) hh2
  have hsz : 5 ≤ cur.size := by
    have := congrArg List.length htk
    simp only [List.length_take, zv] at this
    simp at this
    omega
  refine ⟨N, rfl, hN, ?_, ?_, ?_⟩
  · rw [e1, e2]
    refine ⟨hgr.os, hgr.tape, hgr.output, ?_, fun k hk hne => ?_⟩
    · have := hgr.size
      simp
      omega
    · rw [setRow_other _ _ _ _ (by omega), setRow_other _ _ _ _ (by omega)]
      exact hgr.block k hk hne
  · rw [e1, e2]
    simp [World.cell?, hh3, show 3 < cur.size by omega]
  · rw [e1, e2]
    simp [World.cell?, hh3, show 4 < cur.size by omega]
set_option maxHeartbeats 1000000 in
set_option maxRecDepth 100000 in
theorem valueType (N : Nat) (w : World) (h4 : w.cell? ⟨N, 4, none⟩ = some (.int .i64 4)) : Calls Tryd.prog 40 #[.pointer (some ⟨N, 0, none⟩)] w fun e w' => e = .returned (.int .i64 4) ∧ w = w' := by
  go_enter Tryd.func40, Tryd.ntmps40
  go_wp2
  go_ret
  exact ⟨rfl, rfl⟩
set_option maxHeartbeats 1000000 in
set_option maxRecDepth 100000 in
theorem valueInt64_ok (N : Nat) (s : ByteArray) (w : World) (h3 : w.cell? ⟨N, 3, none⟩ = some (.string s)) (h4 : w.cell? ⟨N, 4, none⟩ = some (.int .i64 4)) (x : Int)
    (hP : Calls Tryd.prog 42 #[.string s] w fun e w' => e = .returned (.tuple #[.int .i64 x, .nilIface]) ∧ Below w.heap.size w w') :
    Calls Tryd.prog 22 #[.pointer (some ⟨N, 0, none⟩)] w fun e w' => e = .returned (.tuple #[.int .i64 x, .nilIface]) ∧ Below w.heap.size w w' := by
  have HP := Aside0.mk hP
  clear hP
  go_enter Tryd.func22, Tryd.ntmps22
  go_wp2_with (first | (go_at_call 40; refine (valueType N _ h4).mono ?_; rintro e w1 ⟨rfl, rfl⟩) | (go_at_call 42; refine HP.out.mono ?_; rintro e w1 ⟨rfl, hb⟩))
  go_ret2
  exact ⟨rfl, hb⟩
set_option maxHeartbeats 1000000 in
set_option maxRecDepth 100000 in
theorem valueInt64_err (N : Nat) (s : ByteArray) (w : World) (h3 : w.cell? ⟨N, 3, none⟩ = some (.string s)) (h4 : w.cell? ⟨N, 4, none⟩ = some (.int .i64 4)) (x : Int)
    (hP : Calls Tryd.prog 42 #[.string s] w fun e w' => ∃ (te : TypeId) (pe : Value), e = .returned (.tuple #[.int .i64 x, .iface te pe]) ∧ Below w.heap.size w w') :
    Calls Tryd.prog 22 #[.pointer (some ⟨N, 0, none⟩)] w fun e w' => ∃ (te : TypeId) (pe : Value), e = .returned (.tuple #[.int .i64 x, .iface te pe]) ∧ Below w.heap.size w w' := by
  have HP := Aside0.mk hP
  clear hP
  go_enter Tryd.func22, Tryd.ntmps22
  go_wp2_with (first | (go_at_call 40; refine (valueType N _ h4).mono ?_; rintro e w1 ⟨rfl, rfl⟩) | (go_at_call 42; refine HP.out.mono ?_; rintro e w1 ⟨te, pe, rfl, hb⟩))
  go_ret2
  first | exact ⟨te, pe, rfl, hb⟩ | exact ⟨⟨te, pe, rfl⟩, hb⟩
set_option maxHeartbeats 1000000 in
set_option maxRecDepth 100000 in
theorem valueInt_ok (N : Nat) (s : ByteArray) (w : World) (h3 : w.cell? ⟨N, 3, none⟩ = some (.string s)) (h4 : w.cell? ⟨N, 4, none⟩ = some (.int .i64 4)) (x : Int)
    (hP : Calls Tryd.prog 42 #[.string s] w fun e w' => e = .returned (.tuple #[.int .i64 x, .nilIface]) ∧ Below w.heap.size w w') :
    Calls Tryd.prog 23 #[.pointer (some ⟨N, 0, none⟩)] w fun e w' => e = .returned (.tuple #[.int .i64 x, .nilIface]) ∧ Below w.heap.size w w' := by
  have HP := Aside0.mk hP
  clear hP
  go_enter Tryd.func23, Tryd.ntmps23
  go_wp2_with (first | (go_at_call 40; refine (valueType N _ h4).mono ?_; rintro e w1 ⟨rfl, rfl⟩) | (go_at_call 42; refine HP.out.mono ?_; rintro e w1 ⟨rfl, hb⟩))
  go_ret2
  exact ⟨rfl, hb⟩
set_option maxHeartbeats 1000000 in
set_option maxRecDepth 100000 in
theorem valueInt_err (N : Nat) (s : ByteArray) (w : World) (h3 : w.cell? ⟨N, 3, none⟩ = some (.string s)) (h4 : w.cell? ⟨N, 4, none⟩ = some (.int .i64 4)) (x : Int)
    (hP : Calls Tryd.prog 42 #[.string s] w fun e w' => ∃ (te : TypeId) (pe : Value), e = .returned (.tuple #[.int .i64 x, .iface te pe]) ∧ Below w.heap.size w w') :
    Calls Tryd.prog 23 #[.pointer (some ⟨N, 0, none⟩)] w fun e w' => ∃ (te : TypeId) (pe : Value), e = .returned (.tuple #[.int .i64 0, .iface te pe]) ∧ Below w.heap.size w w' := by
  have HP := Aside0.mk hP
  clear hP
  go_enter Tryd.func23, Tryd.ntmps23
  go_wp2_with (first | (go_at_call 40; refine (valueType N _ h4).mono ?_; rintro e w1 ⟨rfl, rfl⟩) | (go_at_call 42; refine HP.out.mono ?_; rintro e w1 ⟨te, pe, rfl, hb⟩))
  go_ret2
  first | exact ⟨te, pe, rfl, hb⟩ | exact ⟨⟨te, pe, rfl⟩, hb⟩
set_option maxHeartbeats 1000000 in
set_option maxRecDepth 100000 in
theorem door64_ok (s : ByteArray) (w : World) (x : Int) (hP : ∀ W, Below w.heap.size w W → Calls Tryd.prog 42 #[.string s] W fun e w' => e = .returned (.tuple #[.int .i64 x, .nilIface]) ∧ Below W.heap.size W w') :
    Calls Tryd.prog 8 #[.string s] w fun e w' => e = .returned (.tuple #[.int .i64 x, .bool true]) ∧ Below w.heap.size w w' := by
  have HP := Aside0.mk hP
  clear hP
  have hnew : (w.alloc (.cells #[.slice none 0 0, .slice none 0 0] 52)).heap[w.heap.size]? = some (.cells #[.slice none 0 0, .slice none 0 0] 52 (0, 0)) := heap_alloc_new w _
  go_enter Tryd.func8, Tryd.ntmps8
  go_wp2_with (go_at_call 21; refine (newNumber _ w.heap.size s _ hnew).mono ?_)
  rintro e w1 ⟨N, rfl, hN, hgr, h3, h4⟩
  have hb1 : Below w.heap.size w w1 := ⟨hgr.os, hgr.tape, hgr.output, Nat.le_trans (by simp) hgr.size, fun k hk => (hgr.block k (by simp; omega) (by simp; omega)).trans (Below.heap_alloc w _ k hk)⟩
  have HQ := Aside0.mk (HP.out w1 hb1)
  have HB := Aside0.mk hb1
  clear HP hgr hnew hb1
  go_wp2_with (go_at_call 22; refine (valueInt64_ok N s _ h3 h4 x HQ.out).mono ?_)
  rintro e w2 ⟨rfl, hb2⟩
  have HB2 := Aside0.mk (HB.out.trans (hb2.mono HB.out.size))
  clear hb2 HB HQ
  go_wp2
  go_quiet (fail)
  go_wp2
  go_ret2
  exact ⟨rfl, pw_below_drewN HB2.out _⟩
set_option maxHeartbeats 1000000 in
set_option maxRecDepth 100000 in
theorem door64_err (s : ByteArray) (w : World) (x : Int) (hP : ∀ W, Below w.heap.size w W → Calls Tryd.prog 42 #[.string s] W fun e w' => ∃ (te : TypeId) (pe : Value), e = .returned (.tuple #[.int .i64 x, .iface te pe]) ∧ Below W.heap.size W w') :
    Calls Tryd.prog 8 #[.string s] w fun e w' => e = .returned (.tuple #[.int .i64 x, .bool false]) ∧ Below w.heap.size w w' := by
  have HP := Aside0.mk hP
  clear hP
  have hnew : (w.alloc (.cells #[.slice none 0 0, .slice none 0 0] 52)).heap[w.heap.size]? = some (.cells #[.slice none 0 0, .slice none 0 0] 52 (0, 0)) := heap_alloc_new w _
  go_enter Tryd.func8, Tryd.ntmps8
  go_wp2_with (go_at_call 21; refine (newNumber _ w.heap.size s _ hnew).mono ?_)
  rintro e w1 ⟨N, rfl, hN, hgr, h3, h4⟩
  have hb1 : Below w.heap.size w w1 := ⟨hgr.os, hgr.tape, hgr.output, Nat.le_trans (by simp) hgr.size, fun k hk => (hgr.block k (by simp; omega) (by simp; omega)).trans (Below.heap_alloc w _ k hk)⟩
  have HQ := Aside0.mk (HP.out w1 hb1)
  have HB := Aside0.mk hb1
  clear HP hgr hnew hb1
  go_wp2_with (go_at_call 22; refine (valueInt64_err N s _ h3 h4 x HQ.out).mono ?_)
  rintro e w2 ⟨te, pe, rfl, hb2⟩
  have HB2 := Aside0.mk (HB.out.trans (hb2.mono HB.out.size))
  clear hb2 HB HQ
  go_wp2
  go_quiet (fail)
  go_wp2
  go_ret2
  exact ⟨rfl, pw_below_drewN HB2.out _⟩
set_option maxHeartbeats 1000000 in
set_option maxRecDepth 100000 in
theorem doorInt_ok (s : ByteArray) (w : World) (x : Int) (hP : ∀ W, Below w.heap.size w W → Calls Tryd.prog 42 #[.string s] W fun e w' => e = .returned (.tuple #[.int .i64 x, .nilIface]) ∧ Below W.heap.size W w') :
    Calls Tryd.prog 9 #[.string s] w fun e w' => e = .returned (.tuple #[.int .i64 x, .bool true]) ∧ Below w.heap.size w w' := by
  have HP := Aside0.mk hP
  clear hP
  have hnew : (w.alloc (.cells #[.slice none 0 0, .slice none 0 0] 52)).heap[w.heap.size]? = some (.cells #[.slice none 0 0, .slice none 0 0] 52 (0, 0)) := heap_alloc_new w _
  go_enter Tryd.func9, Tryd.ntmps9
  go_wp2_with (go_at_call 21; refine (newNumber _ w.heap.size s _ hnew).mono ?_)
  rintro e w1 ⟨N, rfl, hN, hgr, h3, h4⟩
  have hb1 : Below w.heap.size w w1 := ⟨hgr.os, hgr.tape, hgr.output, Nat.le_trans (by simp) hgr.size, fun k hk => (hgr.block k (by simp; omega) (by simp; omega)).trans (Below.heap_alloc w _ k hk)⟩
  have HQ := Aside0.mk (HP.out w1 hb1)
  have HB := Aside0.mk hb1
  clear HP hgr hnew hb1
  go_wp2_with (go_at_call 23; refine (valueInt_ok N s _ h3 h4 x HQ.out).mono ?_)
  rintro e w2 ⟨rfl, hb2⟩
  have HB2 := Aside0.mk (HB.out.trans (hb2.mono HB.out.size))
  clear hb2 HB HQ
  go_wp2
  go_quiet (fail)
  go_wp2
  go_ret2
  exact ⟨rfl, pw_below_drewN HB2.out _⟩
set_option maxHeartbeats 1000000 in
set_option maxRecDepth 100000 in
theorem doorInt_err (s : ByteArray) (w : World) (x : Int) (hP : ∀ W, Below w.heap.size w W → Calls Tryd.prog 42 #[.string s] W fun e w' => ∃ (te : TypeId) (pe : Value), e = .returned (.tuple #[.int .i64 x, .iface te pe]) ∧ Below W.heap.size W w') :
    Calls Tryd.prog 9 #[.string s] w fun e w' => e = .returned (.tuple #[.int .i64 0, .bool false]) ∧ Below w.heap.size w w' := by
  have HP := Aside0.mk hP
  clear hP
  have hnew : (w.alloc (.cells #[.slice none 0 0, .slice none 0 0] 52)).heap[w.heap.size]? = some (.cells #[.slice none 0 0, .slice none 0 0] 52 (0, 0)) := heap_alloc_new w _
  go_enter Tryd.func9, Tryd.ntmps9
  go_wp2_with (go_at_call 21; refine (newNumber _ w.heap.size s _ hnew).mono ?_)
  rintro e w1 ⟨N, rfl, hN, hgr, h3, h4⟩
  have hb1 : Below w.heap.size w w1 := ⟨hgr.os, hgr.tape, hgr.output, Nat.le_trans (by simp) hgr.size, fun k hk => (hgr.block k (by simp; omega) (by simp; omega)).trans (Below.heap_alloc w _ k hk)⟩
  have HQ := Aside0.mk (HP.out w1 hb1)
  have HB := Aside0.mk hb1
  clear HP hgr hnew hb1
  go_wp2_with (go_at_call 23; refine (valueInt_err N s _ h3 h4 x HQ.out).mono ?_)
  rintro e w2 ⟨te, pe, rfl, hb2⟩
  have HB2 := Aside0.mk (HB.out.trans (hb2.mono HB.out.size))
  clear hb2 HB HQ
  go_wp2
  go_quiet (fail)
  go_wp2
  go_ret2
  exact ⟨rfl, pw_below_drewN HB2.out _⟩
end Go.Proofs.YtnajijaachgipaaDoor.H
