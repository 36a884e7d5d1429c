/- Texts of this claim put together: HFjVi, HFjOb, HFjNd, HFjT, HFjU, HFjV, HFjRd, PTx34. -/
import Derived.Test.YtnajijaachgipaaDoorB0
import Derived.Test.YtnajijaachgipaaDoorB2
import Derived.Deep.RegionWith
import Derived.Test.YtnajijaachgipaaDoorB1
import Derived.RegionTactic
section
namespace Go.Proofs.YtnajijaachgipaaDoor.PT
open Go.RowKit Go.Proofs.YtnajijaachgipaaDoor.J Go.Proofs.YtnajijaachgipaaDoorW.PrintWords Go.Proofs.YtnajijaachgipaaDoorW.PrintLast Go.Proofs.YtnajijaachgipaaDoorW.PrintMore Go.Proofs.YtnajijaachgipaaDoor.H
set_option linter.unusedVariables false
set_option linter.unusedSimpArgs false
namespace FJ
/-- The first n blocks of a world. -/
def trunc (w : World) (n : Nat) : World := { w with heap := w.heap.extract 0 n }
theorem trunc_size {w : World} {n : Nat} (h : n ≤ w.heap.size) : (trunc w n).heap.size = n := by simp [trunc]; omega
theorem trunc_get {w : World} {n k : Nat} (h : k < n) : (trunc w n).heap[k]? = w.heap[k]? := by
 simp only [trunc, Array.getElem?_extract, Nat.zero_add]
 split
 ·rfl
 rw [Array.getElem?_eq_none (by omega)]
theorem ch_trunc {w : World} {n : Nat} (h : n ≤ w.heap.size) (S : Nat → Nat → Prop) : Ch (trunc w n) w S := by
 refine ⟨rfl, rfl, rfl, by rw [trunc_size h]; exact h, fun k hk _ => ?_, fun k hk cur ty hc => ?_, fun k o hk _ => ?_⟩
 ·rw [trunc_size h] at hk; rw [trunc_get hk]
 ·rw [trunc_size h] at hk; rw [trunc_get hk] at hc; exact ⟨cur, hc, rfl⟩
 rw [trunc_size h] at hk; exact World.cell?_of_block (trunc_get hk).symm
theorem trunc_comp {w0 w1 w2 : World} {S1 S2 : Nat → Nat → Prop} (h : Ch w0 w1 S1) (h2 : Ch (trunc w1 w0.heap.size) w2 S2) : Ch w0 w2 (fun b o => S1 b o ∨ S2 b o) := by
 have hsz := trunc_size h.size
 refine ⟨h2.os.trans h.os, h2.tape.trans h.tape, h2.output.trans h.output, by have := h2.size; rw [hsz] at this; exact this, fun k hk hn => ?_, fun k hk cur ty hc => ?_, fun k o hk hn => ?_⟩
 ·rw [h2.block k (by rw [hsz]; exact hk) (fun o q => hn o (.inr q)), trunc_get hk, h.block k hk (fun o q => hn o (.inl q))]
 ·obtain ⟨c1, e1, s1⟩ := h.form k hk cur ty hc
  obtain ⟨c2, e2, s2⟩ := h2.form k (by rw [hsz]; exact hk) c1 ty ((trunc_get hk).trans e1)
  exact ⟨c2, e2, s2.trans s1⟩
 rw [h2.cell k o (by rw [hsz]; exact hk) (fun q => hn (.inr q)), World.cell?_of_block (trunc_get hk), h.cell k o hk (fun q => hn (.inl q))]
theorem NM.below {w w1 : World} {gn : Nat} {us : List ByteArray} {xs : List S38} {v2 v3 : Value} (h : NM w gn us xs v2 v3) (hb : Below w.heap.size w w1) : NM w1 gn us xs v2 v3 :=
 ⟨(hb.block gn h.lt).trans h.blk, Kd.R_below h.keys hb, Kd.R_below h.kids hb⟩
/-- The object's kids visited up to j; T is the elder part of the world behind the unescaping. -/
structure VL (T wr : World) (gn : Nat) (Q : Nat → Nat → Nat → Prop) (us : List ByteArray) (xs : List S38) (j : Nat) : Prop where
 ch : Ch T wr (fun b o => ∃ i, i < j ∧ Q i b o)
 nm : ∃ (us' : List ByteArray) (xs' : List S38) (v2 v3 : Value), NM wr gn us' xs' v2 v3 ∧ us' = us.take j ∧ xs' = xs.take j
set_option maxHeartbeats 4000000 in
set_option maxRecDepth 100000 in
theorem visit_calls (k : Nat) (ih : NC k) (ks us : List ByteArray) (hus : unL k ks = some us) (ts : List FT) (xs : List S38) (hx : ndL k ts = some xs) (hm : ∀ t ∈ ts, Made t) (ps : List (Nat × Nat)) (hpl : ps.length = ts.length) (hkl : ks.length = ts.length) (hn0 : 0 < ts.length) (hn : ts.length ≤ 1000000) (b o ad c : Nat) (w0 w : World) (hg : Gl w0)
  (h1 : w0.cell? ⟨b, o + 1, none⟩ = some (.bool false)) (h0 : w0.cell? ⟨b, o, none⟩ = some (.slice (some ⟨ad, 0, none⟩) ts.length c)) (hf : Soft w0 b) (hfa : Soft w0 ad) (hab : ad ≠ b) (hga : ad ≠ 0 ∧ ad ≠ 1) (hgb : b ≠ 0 ∧ b ≠ 1)
  (hs : ∀ (j : Nat) (s : ByteArray), ks[j]? = some s → w0.cell? ⟨ad, j * 2, none⟩ = some (.string s))
  (he : ∀ (j : Nat) (p : Nat × Nat), ps[j]? = some p → w0.cell? ⟨ad, j * 2 + 1, none⟩ = some (.pointer (some ⟨p.1, p.2, none⟩)))
  (Q : Nat → Nat → Nat → Prop) (hQ : ∀ j b' o', Q j b' o' → ¬ (b' = b ∧ o ≤ o' ∧ o' < o + 5) ∧ b' ≠ ad) (hd : ∀ i j b o, i < j → Q i b o → ¬ Q j b o) (hlt : ∀ j b o, Q j b o → b < w0.heap.size) (hgg : ∀ j b o, Q j b o → b ≠ 0 ∧ b ≠ 1)
  (hk : ∀ (j : Nat) (p : Nat × Nat) (t : FT), ps[j]? = some p → ts[j]? = some t → Lies w0 (Q j) p.1 p.2 t)
  (gn : Nat) (hgn : w0.heap.size ≤ gn) (hB : Below w0.heap.size w0 w) (hN : NM w gn [] [] (.slice none 0 0) (.slice none 0 0)) :
  Calls Tryd.prog 83 #[.pointer (some ⟨b, o, none⟩), .func (.func 84) #[] #[.pointer (some ⟨gn, 0, none⟩)]] w fun e w' => ∃ v2 v3, e = .returned (.tuple #[]) ∧ NM w' gn us xs v2 v3 ∧ Ch w0 w' (fun b' o' => ((b' = ad ∧ ∃ i, i < ts.length ∧ o' = i * 2) ∨ (b' = b ∧ o' = o + 1)) ∨ ∃ i, i < ts.length ∧ Q i b' o') := by
 have hblt : b < w0.heap.size := (hf.ok (o := 0)).2
 have halt : ad < w0.heap.size := (hfa.ok (o := 0)).2
 have d1 := (hB.cell (p := ⟨b, o + 1, none⟩) hblt).trans h1
 have d0 := (hB.cell (p := ⟨b, o, none⟩) hblt).trans h0
 rw [← hkl] at d0
 have hun := unkeys k ks us hus b o ad c w (hg.below hB) (by omega) (by omega) d1 d0 (hf.of (hB.block b hblt)) (hfa.of (hB.block ad halt)) hab hga (fun j s hj => (hB.cell (p := ⟨ad, j * 2, none⟩) halt).trans (hs j s hj))
 rw [hkl] at d0
 have HUN := Aside0.mk hun
 have HN := Aside0.mk hN
 have HB := Aside0.mk hB
 have HGN := Aside0.mk hgn
 have HBL := Aside0.mk hblt
 have HAL := Aside0.mk halt
 clear hun
 go_enter Tryd.func83, Tryd.ntmps83
 go_wp2_with (go_at_call 106; refine HUN.out.mono ?_; rintro e w1 ⟨rfl, hu1, hch1⟩; have e0 : w1.cell? ⟨b, o, none⟩ = some (.slice (some ⟨ad, 0, none⟩) ts.length c) := (hch1.cell b o (Nat.lt_of_lt_of_le hblt hB.size) (fun q => by rcases q with ⟨q, _⟩ | ⟨_, q⟩ <;> omega)).trans d0; have HU1 := Aside0.mk hu1; have HC1 := Aside0.mk hch1; clear hu1 hch1)
 obtain ⟨hxl, hxget⟩ := ndL_get hx
 obtain ⟨hul, huget⟩ := unL_get hus
 have hT := trunc_size (w := w1) (n := w0.heap.size) (Nat.le_trans hB.size HC1.out.size)
 have hCT := ch_trunc (w := w1) (n := w0.heap.size) (Nat.le_trans hB.size HC1.out.size) (fun b o => ∃ i, i < 0 ∧ Q i b o)
 have hC01 : Ch w0 w1 (fun b' o' => (b' = ad ∧ ∃ i, i < ts.length ∧ o' = i * 2) ∨ (b' = b ∧ o' = o + 1)) := by
  have := (Ch.of_below hB (fun b' o' => (b' = ad ∧ ∃ i, i < ks.length ∧ o' = i * 2) ∨ (b' = b ∧ o' = o + 1))).comp HC1.out (fun _ _ _ e => e)
  rw [hkl] at this
  exact this
 have hN1 : NM w1 gn [] [] (.slice none 0 0) (.slice none 0 0) := hN.ch HC1.out (fun b' o' q => by rcases q with ⟨q, _⟩ | ⟨q, _⟩ <;> (rw [q]; omega))
 obtain ⟨T, hTe⟩ : ∃ T, T = trunc w1 w0.heap.size := ⟨_, rfl⟩
 have HC01 := Aside0.mk hC01
 have htc : ∀ b o, b < w0.heap.size → T.cell? ⟨b, o, none⟩ = w1.cell? ⟨b, o, none⟩ := fun b o hb => by rw [hTe]; exact World.cell?_of_block (trunc_get hb)
 have htu : ∀ (i : Nat) (u : ByteArray), us[i]? = some u → T.cell? ⟨ad, i * 2, none⟩ = some (.string u) := fun i u hu => (htc ad _ halt).trans (HU1.out i u hu)
 have htp : ∀ (j : Nat) (p : Nat × Nat), ps[j]? = some p → T.cell? ⟨ad, j * 2 + 1, none⟩ = some (.pointer (some ⟨p.1, p.2, none⟩)) := fun j p hp => (htc ad _ halt).trans ((hC01.cell ad _ halt (fun q => by rcases q with ⟨_, i, _, q⟩ | ⟨q, _⟩ <;> omega)).trans (he j p hp))
 have hTs : T.heap.size = w0.heap.size := by rw [hTe]; exact hT
 have htb : ∀ k, k < w0.heap.size → T.heap[k]? = w1.heap[k]? := fun k hk => by rw [hTe]; exact trunc_get hk
 have htl : ∀ (j : Nat) (p : Nat × Nat) (t : FT), ps[j]? = some p → ts[j]? = some t → Lies T (Q j) p.1 p.2 t := fun j p t hp ht => by
  refine (hk j p t hp ht).frame (fun _ _ q => q) (fun b' o' q => ?_) (fun b' o' q s => ?_)
  ·refine (htc b' o' (hlt _ _ _ q)).trans (hC01.cell b' o' (hlt _ _ _ q) (fun e => ?_))
   have hq := hQ j b' o' q
   rcases e with ⟨e, _⟩ | ⟨e, e2⟩
   ·exact hq.2 e
   exact hq.1 ⟨e, by omega, by omega⟩
  exact (s.ch hC01).of (htb b' (hlt _ _ _ q))
 have hTg : Gl T := by
  have hg1 : Gl w1 := hg.ch hC01 (fun b' o' q => by rcases q with ⟨q, _⟩ | ⟨q, _⟩ <;> rw [q] <;> assumption)
  obtain ⟨te6, te7, pe6, pe7, h6, h7⟩ := hg
  obtain ⟨ue6, ue7, qe6, qe7, g6, g7⟩ := hg1
  exact ⟨ue6, ue7, qe6, qe7, (htc _ _ (World.block_lt_of_cell? w0 _ h6)).trans g6, (htc _ _ (World.block_lt_of_cell? w0 _ h7)).trans g7⟩
 have hVL : VL T w1 gn Q us xs 0 := ⟨by rw [hTe]; exact hCT, [], [], _, _, hN1, rfl, rfl⟩
 have HVL := Aside0.mk hVL
 have HTU := Aside0.mk htu
 have HTP := Aside0.mk htp
 have HTS := Aside0.mk hTs
 have HTL := Aside0.mk htl
 have HTG := Aside0.mk hTg
 have HTE := Aside0.mk hTe
 have IH := Aside0.mk ih
 have HM := Aside0.mk hm
 have HPL := Aside0.mk hpl
 have HKL := Aside0.mk hkl
 have HNN := Aside0.mk hn
 have HXL := Aside0.mk hxl
 have HUL := Aside0.mk hul
 have HXG := Aside0.mk hxget
 have HUG := Aside0.mk huget
 have HQ := Aside0.mk hQ
 have HD := Aside0.mk hd
 have HLT := Aside0.mk hlt
 have HGG := Aside0.mk hgg
 clear hVL htu htp htc htb hTs htl hTg hTe ih hm hpl hkl hn hxl hul hxget huget hQ hd hlt hgg hN1 hCT hT hC01 hN hB hgn hs he hk hx hus h1 h0 d1 d0 hf hfa hg hga hgb e0
 go_loopg [5, 6, 17] ts.length (fun kq v5 v6 v17 wr => ∃ j : Nat, v17 = .int .i64 (j : Int) ∧ j + kq = ts.length ∧ Aside0 (VL T wr gn Q us xs j))
 case atStart => exact ⟨0, rfl, by omega, HVL⟩
 case round =>
  clear HVL
  obtain ⟨j, rfl, hj, HL⟩ := hrel
  cases gk with
  | zero =>
   have hjn : j = ts.length := by omega
   have hd : decide ((j : Int) < (ts.length : Int)) = false := decide_eq_false (by omega)
   have HJN := Aside0.mk hjn
   clear hj
   go_wp2
   first | go_end0 | ((try simp only [Exit.inBlock, Exit.then]); refine bodyPost_ret (results_none rfl _ _ _) rfl ?_)
   obtain ⟨us', xs', v2, v3, hnm, e1, e2⟩ := HL.out.nm
   rw [e1, e2, HJN.out, List.take_of_length_le (by have := HUL.out; have := HKL.out; omega), List.take_of_length_le (by have := HXL.out; omega)] at hnm
   have hch := HL.out.ch
   rw [HTE.out, HJN.out] at hch
   exact ⟨_, _, rfl, hnm, trunc_comp HC01.out hch⟩
  | succ q =>
   have hjl : j < ts.length := by omega
   obtain ⟨p, hp⟩ : ∃ p, ps[j]? = some p := ⟨_, List.getElem?_eq_getElem (by have := HPL.out; omega)⟩
   obtain ⟨t, ht⟩ : ∃ t, ts[j]? = some t := ⟨_, List.getElem?_eq_getElem hjl⟩
   obtain ⟨s, hs⟩ : ∃ s, ks[j]? = some s := ⟨_, List.getElem?_eq_getElem (by have := HKL.out; omega)⟩
   obtain ⟨x, hxj, hnd⟩ := HXG.out j t ht
   obtain ⟨hsz, u, huj, huu⟩ := HUG.out j s hs
   have hus := unU_size huu
   have HUS : Aside0 (u.size ≤ 100000) := ⟨by omega⟩
   have hnq : ∀ o, ¬ (∃ i, i < j ∧ Q i ad o) := fun o ⟨i, _, qi⟩ => (HQ.out i _ _ qi).2 rfl
   have haT : ad < T.heap.size := by rw [HTS.out]; exact HAL.out
   have ck : wr.cell? ⟨ad, j * 2, none⟩ = some (.string u) := (HL.out.ch.cell ad _ haT (hnq _)).trans (HTU.out j u huj)
   have cp : wr.cell? ⟨ad, j * 2 + 1, none⟩ = some (.pointer (some ⟨p.1, p.2, none⟩)) := (HL.out.ch.cell ad _ haT (hnq _)).trans (HTP.out j p hp)
   have ckd : wr.drew.cell? ⟨ad, j * 2, none⟩ = some (.string u) := ck
   have cpd : wr.drew.cell? ⟨ad, j * 2 + 1, none⟩ = some (.pointer (some ⟨p.1, p.2, none⟩)) := cp
   have haw : ad < wr.heap.size := World.block_lt_of_cell? wr _ ck
   have hd : decide ((j : Int) < (ts.length : Int)) = true := decide_eq_true (by omega)
   have hj0 : (0 : Int) ≤ (j : Int) := by omega
   have hj1 : (j : Int) < (ts.length : Int) := by omega
   have hw2 := wrap_next (j := j) (n := ts.length) (by have := HNN.out; omega) hjl
   obtain ⟨us', xs', v2, v3, hnm, e1, e2⟩ := HL.out.nm
   have HNM := Aside0.mk hnm
   have HE1 := Aside0.mk e1
   have HE2 := Aside0.mk e2
   have HTJ := Aside0.mk (HTL.out j p t hp ht)
   have HMT := Aside0.mk (HM.out t (List.mem_of_getElem? ht))
   have HND := Aside0.mk hnd
   have HXJ := Aside0.mk hxj
   have HUJ := Aside0.mk huj
   have HJ := Aside0.mk hj
   clear hp ht hs hxj hnd hsz huj huu hus hnm e1 e2 hj hnq haT
   go_wp2_with (fail)
   go_region_with (first
    | (go_at_call 86; refine (s2b_calls u HUS.out _).mono ?_; rintro e w2 ⟨g, cap, rfl, hmb, hb2, hgp⟩; have cp2 : w2.cell? ⟨ad, j * 2 + 1, none⟩ = some (.pointer (some ⟨p.1, p.2, none⟩)) := blw_cell hb2 cpd; have HMB := Aside0.mk hmb; have HNM2 := Aside0.mk (HNM.out.drew.below hb2); have HC2 := Aside0.mk (chBlw HL.out.ch ((Below.refl wr.heap.size wr).drew.trans hb2) HL.out.ch.size); clear hmb hb2 hgp)
    | (go_at_call 84; refine (closure_calls k IH.out t x HND.out HMT.out T _ (fun b o => ∃ i, i < j ∧ Q i b o) (Q j) p.1 p.2 ?sl HTG.out (HGG.out j) (fun b o ⟨i, _, q⟩ => HGG.out i b o q) gn (by rw [HTS.out]; exact HGN.out) HC2.out (fun b o q => Nat.lt_of_lt_of_le (HLT.out j b o q) HGN.out) us' xs' v2 v3 HNM2.out u g cap HMB.out ?su ?sx).mono ?_; (case sl => exact HTJ.out.frame (fun _ _ q => q) (fun b o q => HC2.out.cell b o (by rw [HTS.out]; exact HLT.out j b o q) (fun ⟨i, hi, qi⟩ => HD.out i j b o hi qi q)) (fun b o q s => s.ch HC2.out)); (case su => rw [HE1.out, List.length_take]; have := HUL.out; have := HKL.out; have := HNN.out; omega); (case sx => rw [HE2.out, List.length_take]; have := HXL.out; have := HNN.out; omega); rintro e w3 ⟨v2', v3', rfl, hnm3, hch3⟩; have HNM3 := Aside0.mk hnm3; have HCH3 := Aside0.mk hch3; clear hnm3 hch3))
   all_goals go_wp2
   all_goals
    go_roundg q
    case measure => exact Nat.lt_succ_self _
    case rel =>
     refine ⟨j + 1, by rw [hw2], by have := HJ.out; omega, ⟨⟨HCH3.out.mono (fun b o _ e => ?_), _, _, _, _, HNM3.out, ?_, ?_⟩⟩⟩
     ·rcases e with ⟨i, hi, qi⟩ | e
      ·exact ⟨i, Nat.lt_succ_of_lt hi, qi⟩
      exact ⟨j, Nat.lt_succ_self _, e⟩
     ·rw [HE1.out, List.take_add_one, HUJ.out]; rfl
     rw [HE2.out, List.take_add_one, HXJ.out]; rfl
end FJ
end Go.Proofs.YtnajijaachgipaaDoor.PT
end
section
namespace Go.Proofs.YtnajijaachgipaaDoor.PT
open Go.RowKit Go.Proofs.YtnajijaachgipaaDoor.J Go.Proofs.YtnajijaachgipaaDoorW.PrintWords Go.Proofs.YtnajijaachgipaaDoorW.PrintLast Go.Proofs.YtnajijaachgipaaDoorW.PrintMore Go.Proofs.YtnajijaachgipaaDoor.H
set_option linter.unusedVariables false
set_option linter.unusedSimpArgs false
namespace FJ
set_option maxHeartbeats 2000000 in
set_option maxRecDepth 100000 in
theorem unkeys_nil (A : Option Addr) (c : Nat) (b o : Nat) (w : World) (h1 : w.cell? ⟨b, o + 1, none⟩ = some (.bool false)) (h0 : w.cell? ⟨b, o, none⟩ = some (.slice A 0 c)) (hf : Soft w b) :
  Calls Tryd.prog 106 #[.pointer (some ⟨b, o, none⟩)] w fun e w' => e = .returned (.tuple #[]) ∧ w'.cell? ⟨b, o, none⟩ = some (.slice A 0 c) ∧ Ch w w' (fun k q => k = b ∧ q = o + 1) := by
 obtain ⟨f, l, hc2, sf, hch⟩ := one_set (u := .bool true) hf h1
 have HC := Aside0.mk hch
 have H0 := Aside0.mk h0
 clear hch sf
 go_enter Tryd.func106, Tryd.ntmps106
 go_wp2
 go_loopg [15] 0 (fun kq v15 wr => v15 = .int .i64 0 ∧ wr = w)
 case atStart => exact ⟨rfl, rfl⟩
 case round =>
  obtain ⟨rfl, rfl⟩ := hrel
  go_wp2
  first | go_end0 | ((try simp only [Exit.inBlock, Exit.then]); refine bodyPost_ret (results_none rfl _ _ _) rfl ?_)
  exact ⟨rfl, (HC.out.cell b o l (fun q => by omega)).trans H0.out, HC.out⟩
set_option maxHeartbeats 2000000 in
set_option maxRecDepth 100000 in
theorem visit_nil (A : Option Addr) (c : Nat) (b o gn : Nat) (w : World) (h1 : w.cell? ⟨b, o + 1, none⟩ = some (.bool false)) (h0 : w.cell? ⟨b, o, none⟩ = some (.slice A 0 c)) (hf : Soft w b) :
  Calls Tryd.prog 83 #[.pointer (some ⟨b, o, none⟩), .func (.func 84) #[] #[.pointer (some ⟨gn, 0, none⟩)]] w fun e w' => e = .returned (.tuple #[]) ∧ Ch w w' (fun k q => k = b ∧ q = o + 1) := by
 have HU := Aside0.mk (unkeys_nil A c b o w h1 h0 hf)
 clear h1 h0 hf
 go_enter Tryd.func83, Tryd.ntmps83
 go_wp2_with (go_at_call 106; refine HU.out.mono ?_; rintro e w1 ⟨rfl, e0, hch1⟩; have HC1 := Aside0.mk hch1; clear hch1)
 go_loopg [17] 0 (fun kq v17 wr => v17 = .int .i64 0 ∧ wr = w1)
 case atStart => exact ⟨rfl, rfl⟩
 case round =>
  obtain ⟨rfl, rfl⟩ := hrel
  go_wp2
  first | go_end0 | ((try simp only [Exit.inBlock, Exit.then]); refine bodyPost_ret (results_none rfl _ _ _) rfl ?_)
  exact ⟨rfl, HC1.out⟩
theorem one_of_row {W : World} {g e : Nat} {cr : Array Value} (hW : W.heap[g]? = some (.cells cr e (0, 0))) (o : Nat) (ho : o < cr.size) : (∃ z, W.cell? ⟨g, o, none⟩ = some z) ∧ W.frozen? ⟨g, o, none⟩ = false := ⟨⟨cr[o], by rw [cell_of_row W g o cr e (0, 0) hW, Array.getElem?_eq_getElem ho]⟩, by simp [World.frozen?, hW]⟩
theorem set_of_row {W : World} {g e : Nat} {cr : Array Value} (hW : W.heap[g]? = some (.cells cr e (0, 0))) (o : Nat) (v : Value) : (W.setCell ⟨g, o, none⟩ v).heap[g]? = some (.cells (cr.setIfInBounds o v) e (0, 0)) := by
 rw [setCell_eq_setRow W g o _ e (0, 0) v hW]
 exact setRow_heap W g _ _ e (0, 0) hW
structure R4 (w : World) (g : Nat) (c0 c1 c2 : Value) : Prop where
 a0 : ∃ z, w.cell? ⟨g, 0, none⟩ = some z
 f0 : w.frozen? ⟨g, 0, none⟩ = false
 a1 : ∃ z, (w.setCell ⟨g, 0, none⟩ c0).cell? ⟨g, 1, none⟩ = some z
 f1 : (w.setCell ⟨g, 0, none⟩ c0).frozen? ⟨g, 1, none⟩ = false
 a2 : ∃ z, ((w.setCell ⟨g, 0, none⟩ c0).setCell ⟨g, 1, none⟩ c1).cell? ⟨g, 2, none⟩ = some z
 f2 : ((w.setCell ⟨g, 0, none⟩ c0).setCell ⟨g, 1, none⟩ c1).frozen? ⟨g, 2, none⟩ = false
 a3 : ∃ z, (((w.setCell ⟨g, 0, none⟩ c0).setCell ⟨g, 1, none⟩ c1).setCell ⟨g, 2, none⟩ c2).cell? ⟨g, 3, none⟩ = some z
 f3 : (((w.setCell ⟨g, 0, none⟩ c0).setCell ⟨g, 1, none⟩ c1).setCell ⟨g, 2, none⟩ c2).frozen? ⟨g, 3, none⟩ = false
 lt : g < w.heap.size
/-- A whole Node is stored into a block of its own. -/
theorem store4 {w : World} {g e : Nat} {z0 z1 z2 z3 c0 c1 c2 c3 : Value} (h : w.heap[g]? = some (.cells #[z0, z1, z2, z3] e (0, 0))) :
  R4 w g c0 c1 c2 ∧ ((((w.setCell ⟨g, 0, none⟩ c0).setCell ⟨g, 1, none⟩ c1).setCell ⟨g, 2, none⟩ c2).setCell ⟨g, 3, none⟩ c3).heap[g]? = some (.cells #[c0, c1, c2, c3] e (0, 0)) ∧ (∀ k, k ≠ g → ((((w.setCell ⟨g, 0, none⟩ c0).setCell ⟨g, 1, none⟩ c1).setCell ⟨g, 2, none⟩ c2).setCell ⟨g, 3, none⟩ c3).heap[k]? = w.heap[k]?) ∧ ((((w.setCell ⟨g, 0, none⟩ c0).setCell ⟨g, 1, none⟩ c1).setCell ⟨g, 2, none⟩ c2).setCell ⟨g, 3, none⟩ c3).heap.size = w.heap.size ∧ ((((w.setCell ⟨g, 0, none⟩ c0).setCell ⟨g, 1, none⟩ c1).setCell ⟨g, 2, none⟩ c2).setCell ⟨g, 3, none⟩ c3).os = w.os ∧ ((((w.setCell ⟨g, 0, none⟩ c0).setCell ⟨g, 1, none⟩ c1).setCell ⟨g, 2, none⟩ c2).setCell ⟨g, 3, none⟩ c3).tape = w.tape ∧ ((((w.setCell ⟨g, 0, none⟩ c0).setCell ⟨g, 1, none⟩ c1).setCell ⟨g, 2, none⟩ c2).setCell ⟨g, 3, none⟩ c3).output = w.output := by
 have h1 := set_of_row h 0 c0
 have h2 := set_of_row h1 1 c1
 have h3 := set_of_row h2 2 c2
 have h4 := set_of_row h3 3 c3
 obtain ⟨a0, f0⟩ := one_of_row h 0 (by simp)
 obtain ⟨a1, f1⟩ := one_of_row h1 1 (by simp)
 obtain ⟨a2, f2⟩ := one_of_row h2 2 (by simp)
 obtain ⟨a3, f3⟩ := one_of_row h3 3 (by simp)
 refine ⟨⟨a0, f0, a1, f1, a2, f2, a3, f3, (Array.getElem?_eq_some_iff.1 h).1⟩, h4, fun k hk => ?_, by simp [World.setCell], rfl, rfl, rfl⟩
 rw [Below.heap_setCell _ ⟨g, _, none⟩ _ k hk, Below.heap_setCell _ ⟨g, _, none⟩ _ k hk, Below.heap_setCell _ ⟨g, _, none⟩ _ k hk, Below.heap_setCell _ ⟨g, _, none⟩ _ k hk]
/-- fjObject, given what Visit does. -/
abbrev oR : Obj := .cells #[.int .i64 0, .string ⟨#[]⟩, .slice none 0 0, .slice none 0 0] 38
set_option maxHeartbeats 2000000 in
set_option maxRecDepth 100000 in
theorem object_any (b o : Nat) (w : World) (P : Nat → Nat → Prop) (hP : ∀ b o, P b o → b < w.heap.size) (us : List ByteArray) (xs : List S38)
  (hV : ∀ (gn : Nat) (W : World), (w.alloc oR).heap.size ≤ gn → Below (w.alloc oR).heap.size (w.alloc oR) W → NM W gn [] [] (.slice none 0 0) (.slice none 0 0) → Calls Tryd.prog 83 #[.pointer (some ⟨b, o, none⟩), .func (.func 84) #[] #[.pointer (some ⟨gn, 0, none⟩)]] W fun e w' => ∃ v2 v3, e = .returned (.tuple #[]) ∧ NM w' gn us xs v2 v3 ∧ Ch (w.alloc oR) w' P) :
  Calls Tryd.prog 59 #[.pointer (some ⟨b, o, none⟩)] w (NP w P ⟨6, ByteArray.empty, us, xs⟩) := by
 have hmf : ∀ (fn : Fn) (first cap : Array Value) (w : World), (Instr.makeFunc fn first cap).run Tryd.prog w = .ok (.func fn first cap) w := fun _ _ _ _ => rfl
 have hs1 : (w.alloc oR).heap.size = w.heap.size + 1 := by simp
 have hN0 : NM ((w.alloc oR).alloc (.cells #[.int .i64 6, .string ByteArray.empty, .slice none 0 0, .slice none 0 0] 38)) (w.heap.size + 1) [] [] (.slice none 0 0) (.slice none 0 0) :=
  ⟨by rw [← hs1]; exact heap_alloc_new _ _, Kd.R_nil _ _ _ _ _, Kd.R_nil _ _ _ _ _⟩
 have hV0 := hV (w.heap.size + 1) ((w.alloc oR).alloc (.cells #[.int .i64 6, .string ⟨#[]⟩, .slice none 0 0, .slice none 0 0] 38)) (by rw [hs1]; exact Nat.le_refl _) ((Below.refl _ _).alloc (Nat.le_refl _) _) hN0
 have HV := Aside0.mk hV0
 have HP := Aside0.mk hP
 clear hV hV0 hN0 hP hs1
 go_enter Tryd.func59, Tryd.ntmps59
 go_wp2_with (go_at_call 83; refine HV.out.mono ?_; rintro e w1 ⟨v2, v3, rfl, hnm, hch⟩; obtain ⟨A2, q2, rfl⟩ := Kd.R_slice hnm.keys; obtain ⟨A3, q3, rfl⟩ := Kd.R_slice hnm.kids; have e0 : w1.cell? ⟨w.heap.size + 1, 0, none⟩ = some (.int .i64 6) := (by rw [cell_of_row w1 _ 0 _ _ (0, 0) hnm.blk]; rfl); have e1 : w1.cell? ⟨w.heap.size + 1, 1, none⟩ = some (.string ByteArray.empty) := (by rw [cell_of_row w1 _ 1 _ _ (0, 0) hnm.blk]; rfl); have e2 : w1.cell? ⟨w.heap.size + 1, 2, none⟩ = some (.slice A2 us.length q2) := (by rw [cell_of_row w1 _ 2 _ _ (0, 0) hnm.blk]; rfl); have e3 : w1.cell? ⟨w.heap.size + 1, 3, none⟩ = some (.slice A3 xs.length q3) := (by rw [cell_of_row w1 _ 3 _ _ (0, 0) hnm.blk]; rfl); have hrb : w1.heap[w.heap.size]? = some oR := (hch.block w.heap.size (by simp) (fun o q => Nat.lt_irrefl _ (HP.out _ _ q))).trans (heap_alloc_new w oR); obtain ⟨⟨⟨y0, b0⟩, f0, ⟨y1, b1⟩, f1, ⟨y2, b2⟩, f2, ⟨y3, b3⟩, f3, ly⟩, hfr, hfk, hfs, hf1, hf2, hf3⟩ := store4 (c0 := .int .i64 6) (c1 := .string ByteArray.empty) (c2 := .slice A2 us.length q2) (c3 := .slice A3 xs.length q3) hrb; have HNM := Aside0.mk hnm; have HCH := Aside0.mk hch; have HFR := Aside0.mk hfr; have HFK := Aside0.mk hfk; have HFS := Aside0.mk (And.intro hfs (And.intro hf1 (And.intro hf2 hf3))); clear hnm hch hrb hfr hfk hfs hf1 hf2 hf3)
 refine bodyPost_ret (results_cell_row rfl _ _ w.heap.size 38 #[.int .i64 6, .string ByteArray.empty, .slice A2 us.length q2, .slice A3 xs.length q3] (0, 0) _ rfl HFR.out Tryd.underlying38 rfl (by kernel_rfl)) rfl ?_
 obtain ⟨g1, g2, g3, g4⟩ := HFS.out
 refine ⟨_, _, rfl, ?_, ?_, ?_⟩
 ·exact Kd.R_lower (Kd.R_mono (Kd.R_step (Kd.R_bound HNM.out.keys) (fun k hk _ => HFK.out k (by have := hk.2.1; omega))) (fun _ _ => trivial)) (by omega)
 ·exact Kd.R_lower (Kd.R_mono (Kd.R_step (Kd.R_bound HNM.out.kids) (fun k hk _ => HFK.out k (by have := hk.2.1; omega))) (fun _ hk => hk.1)) (by omega)
 have h1 : Ch w w1 P := ((Ch.of_below (below_alloc (Below.refl _ w) oR) P).comp HCH.out (fun _ _ _ e => e))
 exact chBlw h1 ⟨g2, g3, g4, by rw [g1]; exact Nat.le_refl _, fun k hk => HFK.out k (Nat.ne_of_lt hk)⟩ (Nat.le_refl _)
end FJ
end Go.Proofs.YtnajijaachgipaaDoor.PT
end
section
namespace Go.Proofs.YtnajijaachgipaaDoor.PT
open Go.RowKit Go.Proofs.YtnajijaachgipaaDoor.J Go.Proofs.YtnajijaachgipaaDoorW.PrintWords Go.Proofs.YtnajijaachgipaaDoorW.PrintLast Go.Proofs.YtnajijaachgipaaDoorW.PrintMore Go.Proofs.YtnajijaachgipaaDoor.H
set_option linter.unusedVariables false
set_option linter.unusedSimpArgs false
namespace FJ
set_option maxHeartbeats 2000000 in
set_option maxRecDepth 100000 in
theorem node_const (q n : Int) (hq : (q = 5 ∧ n = 2) ∨ (q = 6 ∧ n = 1) ∨ (q = 0 ∧ n = 0)) (b o : Nat) (w : World) (P : Nat → Nat → Prop) (h4 : w.cell? ⟨b, o + 4, none⟩ = some (.int .i64 q)) :
  Calls Tryd.prog 37 #[.pointer (some ⟨b, o, none⟩)] w (NP w P ⟨n, ByteArray.empty, [], []⟩) := by
 have H4 : Aside0 ((w.alloc oR).cell? ⟨b, o + 4, none⟩ = some (.int .i64 q)) := ⟨(World.cell?_of_block (heap_alloc_old w oR (World.block_lt_of_cell? w _ h4))).trans h4⟩
 have HB : Aside0 (∀ ob, Ch w (w.alloc ob) P) := ⟨fun ob => Ch.of_below (below_alloc (Below.refl _ w) ob) P⟩
 clear h4
 rcases hq with ⟨rfl, rfl⟩ | ⟨rfl, rfl⟩ | ⟨rfl, rfl⟩
 ·go_enter Tryd.func37, Tryd.ntmps37
  go_wp2_with (first | (go_at_call 40; refine (type_other b o 5 (by decide) _ H4.out).mono ?_; rintro e w1 ⟨rfl, rfl⟩))
  refine bodyPost_ret (results_cell_row rfl _ _ w.heap.size 38 #[.int .i64 2, .string ⟨#[]⟩, .slice none 0 0, .slice none 0 0] (0, 0) _ rfl ?fr Tryd.underlying38 rfl (by kernel_rfl)) rfl ?_
  case fr => exact heap_alloc_new w _
  exact ⟨_, _, rfl, Kd.R_nil _ _ _ _ _, Kd.R_nil _ _ _ _ _, HB.out _⟩
 ·go_enter Tryd.func37, Tryd.ntmps37
  go_wp2_with (first | (go_at_call 40; refine (type_other b o 6 (by decide) _ H4.out).mono ?_; rintro e w1 ⟨rfl, rfl⟩))
  refine bodyPost_ret (results_cell_row rfl _ _ w.heap.size 38 #[.int .i64 1, .string ⟨#[]⟩, .slice none 0 0, .slice none 0 0] (0, 0) _ rfl ?fr Tryd.underlying38 rfl (by kernel_rfl)) rfl ?_
  case fr => exact heap_alloc_new w _
  exact ⟨_, _, rfl, Kd.R_nil _ _ _ _ _, Kd.R_nil _ _ _ _ _, HB.out _⟩
 go_enter Tryd.func37, Tryd.ntmps37
 go_wp2_with (first | (go_at_call 40; refine (type_other b o 0 (by decide) _ H4.out).mono ?_; rintro e w1 ⟨rfl, rfl⟩))
 refine bodyPost_ret (results_cell_row rfl _ _ w.heap.size 38 #[.int .i64 0, .string ⟨#[]⟩, .slice none 0 0, .slice none 0 0] (0, 0) _ rfl ?fr Tryd.underlying38 rfl (by kernel_rfl)) rfl ?_
 case fr => exact heap_alloc_new w _
 exact ⟨_, _, rfl, Kd.R_nil _ _ _ _ _, Kd.R_nil _ _ _ _ _, HB.out _⟩
theorem ch_al {w w1 F : World} {P : Nat → Nat → Prop} (h : Ch (w.alloc oR) w1 P) (hk : ∀ k, k ≠ w.heap.size → F.heap[k]? = w1.heap[k]?) (hs : F.heap.size = w1.heap.size ∧ F.os = w1.os ∧ F.tape = w1.tape ∧ F.output = w1.output) : Ch w F P :=
 chBlw ((Ch.of_below (below_alloc (Below.refl _ w) oR) P).comp h (fun _ _ _ e => e)) ⟨hs.2.1, hs.2.2.1, hs.2.2.2, by rw [hs.1]; exact Nat.le_refl _, fun k hk' => hk k (Nat.ne_of_lt hk')⟩ (Nat.le_refl _)
theorem al_cell {w : World} {b o : Nat} {v : Value} (h : w.cell? ⟨b, o, none⟩ = some v) : (w.alloc oR).cell? ⟨b, o, none⟩ = some v := (World.cell?_of_block (heap_alloc_old w oR (World.block_lt_of_cell? w _ h))).trans h
theorem al_soft {w : World} {b : Nat} (h : Soft w b) : Soft (w.alloc oR) b := h.of (heap_alloc_old w oR (h.ok (o := 0)).2)
theorem p34 {P : Nat → Nat → Prop} {b o n : Nat} (h : P b (o + 3) ∧ P b (o + 4)) : ∀ k q, k < n → (k = b ∧ (q = o + 3 ∨ q = o + 4)) → P k q := by
 rintro k q _ ⟨rfl, rfl | rfl⟩
 ·exact h.1
 exact h.2
set_option maxHeartbeats 2000000 in
set_option maxRecDepth 100000 in
theorem node_str (k : Nat) (s u : ByteArray) (hu : unU k s = some u) (hs : s.size ≤ 100000) (b o : Nat) (w : World) (P : Nat → Nat → Prop) (hg : Gl w) (h4 : w.cell? ⟨b, o + 4, none⟩ = some (.int .i64 7)) (h3 : w.cell? ⟨b, o + 3, none⟩ = some (.string s)) (hf : Soft w b) (p3 : P b (o + 3)) (p4 : P b (o + 4)) :
  Calls Tryd.prog 37 #[.pointer (some ⟨b, o, none⟩)] w (NP w P ⟨4, u, [], []⟩) := by
 have hT := type_raw k s u hu hs b o (w.alloc oR) (hg.below (below_alloc (Below.refl _ w) _)) (al_cell h4) (al_cell h3) (al_soft hf)
 have HT := Aside0.mk hT
 have HU : Aside0 (u.size ≤ 100000) := ⟨Nat.le_trans (unU_size hu) hs⟩
 have HBL : Aside0 (b < w.heap.size) := ⟨(hf.ok (o := 0)).2⟩
 have HP := Aside0.mk (And.intro p3 p4)
 clear hT hu hs hg h4 h3 hf p3 p4
 go_enter Tryd.func37, Tryd.ntmps37
 go_wp2_with (first
  | (go_at_call 40; refine HT.out.mono ?_; rintro e w1 ⟨rfl, r4, r3, sf, hch⟩; have HCH := Aside0.mk (hch.mono (S1 := P) (p34 HP.out)); have R4_ := Aside0.mk r4; have R3_ := Aside0.mk r3; have hrb1 : w1.heap[w.heap.size]? = some oR := (hch.block w.heap.size (by simp) (fun o q => by have := HBL.out; omega)).trans (heap_alloc_new w oR); have HRB := Aside0.mk hrb1; clear sf hch hrb1 r4 r3)
  | (go_at_call 63; refine (getstr b o u HU.out _ R4_.out R3_.out).mono ?_; rintro e w2 ⟨g, cap, rfl, hmb, hb2⟩; have hcv := hmb.string (P := Tryd.prog) 47 9 Tryd.underlying47 Tryd.underlying5 Tryd.underlying9; rw [bytesOf_length, str_bytesOf] at hcv; have HC2 := Aside0.mk (chBlw HCH.out hb2 HCH.out.size); have hrb := (hb2.block w.heap.size (Array.getElem?_eq_some_iff.1 HRB.out).1).trans HRB.out; obtain ⟨⟨⟨y0, b0⟩, f0, ⟨y1, b1⟩, f1, ⟨y2, b2⟩, f2, ⟨y3, b3⟩, f3, ly⟩, hfr, hfk, hfs, hf1, hf2, hf3⟩ := store4 (c0 := .int .i64 4) (c1 := .string u) (c2 := .slice none 0 0) (c3 := .slice none 0 0) hrb; have HFR := Aside0.mk hfr; have HFK := Aside0.mk hfk; have HFS := Aside0.mk (And.intro hfs (And.intro hf1 (And.intro hf2 hf3))); clear hfr hfk hfs hf1 hf2 hf3; clear hmb hb2 hrb))
 refine bodyPost_ret (results_cell_row rfl _ _ w.heap.size 38 #[.int .i64 4, .string u, .slice none 0 0, .slice none 0 0] (0, 0) _ rfl ?fr Tryd.underlying38 rfl (by kernel_rfl)) rfl ?_
 case fr => exact HFR.out
 exact ⟨_, _, rfl, Kd.R_nil _ _ _ _ _, Kd.R_nil _ _ _ _ _, ch_al HC2.out HFK.out HFS.out⟩
set_option maxHeartbeats 2000000 in
set_option maxRecDepth 100000 in
theorem node_num (s : ByteArray) (hs : s.size ≤ 100000) (b o : Nat) (w : World) (P : Nat → Nat → Prop) (h4 : w.cell? ⟨b, o + 4, none⟩ = some (.int .i64 4)) (h3 : w.cell? ⟨b, o + 3, none⟩ = some (.string s)) :
  Calls Tryd.prog 37 #[.pointer (some ⟨b, o, none⟩)] w (NP w P ⟨3, s, [], []⟩) := by
 have H4 := Aside0.mk (al_cell h4)
 have hM := mar_num s b o (w.alloc oR) (w.alloc oR) (.slice none 0 0) [] (al_cell h4) (al_cell h3) (Below.refl _ _) (World.ownsRow_nil _ _ _ _) (by simp; omega)
 have HM := Aside0.mk hM
 clear hM h4 h3 hs
 go_enter Tryd.func37, Tryd.ntmps37
 go_wp2_with (first
  | (go_at_call 40; refine (type_other b o 4 (by decide) _ H4.out).mono ?_; rintro e w1 ⟨rfl, rfl⟩)
  | (go_at_call 28; refine HM.out.mono ?_; rintro e w3 ⟨v3, rfl, hown, hb⟩; rw [List.nil_append] at hown; have hcv := own_string (P := Tryd.prog) Tryd.underlying47 Tryd.underlying5 Tryd.underlying9 hown; (try rw [str_bytesOf] at hcv); obtain ⟨A1, q1, rfl⟩ := Go.Proofs.YtnajijaachgipaaDoorW.PrintWords.own_slice hown; have HC2 := Aside0.mk (Ch.of_below hb P); have hrb := (hb.block w.heap.size (by simp)).trans (heap_alloc_new w oR); obtain ⟨⟨⟨y0, b0⟩, f0, ⟨y1, b1⟩, f1, ⟨y2, b2⟩, f2, ⟨y3, b3⟩, f3, ly⟩, hfr, hfk, hfs, hf1, hf2, hf3⟩ := store4 (c0 := .int .i64 3) (c1 := .string s) (c2 := .slice none 0 0) (c3 := .slice none 0 0) hrb; have HFR := Aside0.mk hfr; have HFK := Aside0.mk hfk; have HFS := Aside0.mk (And.intro hfs (And.intro hf1 (And.intro hf2 hf3))); clear hfr hfk hfs hf1 hf2 hf3; clear hown hb hrb))
 refine bodyPost_ret (results_cell_row rfl _ _ w.heap.size 38 #[.int .i64 3, .string s, .slice none 0 0, .slice none 0 0] (0, 0) _ rfl ?fr Tryd.underlying38 rfl (by kernel_rfl)) rfl ?_
 case fr => exact HFR.out
 exact ⟨_, _, rfl, Kd.R_nil _ _ _ _ _, Kd.R_nil _ _ _ _ _, ch_al HC2.out HFK.out HFS.out⟩
set_option maxHeartbeats 2000000 in
set_option maxRecDepth 100000 in
theorem node_arr (xs : List S38) (b o : Nat) (v : Value) (w : World) (P : Nat → Nat → Prop) (hP : ∀ b o, P b o → b < w.heap.size) (h4 : w.cell? ⟨b, o + 4, none⟩ = some (.int .i64 2)) (h2 : w.cell? ⟨b, o + 2, none⟩ = some v) (hv : v = .slice none 0 0 ∨ ∃ A n c, v = .slice A n c)
  (hF : Calls Tryd.prog 61 #[v] (w.alloc oR) fun e w' => ∃ v3, e = .returned v3 ∧ Kd.R k38 38 w' (w.alloc oR).heap.size (fun _ => True) v3 xs ∧ Ch (w.alloc oR) w' P) :
  Calls Tryd.prog 37 #[.pointer (some ⟨b, o, none⟩)] w (NP w P ⟨5, ByteArray.empty, [], xs⟩) := by
 have H4 := Aside0.mk (al_cell h4)
 have H2 := Aside0.mk (al_cell h2)
 have HF := Aside0.mk hF
 have HV := Aside0.mk hv
 have HP := Aside0.mk hP
 clear h4 h2 hF hv hP
 go_enter Tryd.func37, Tryd.ntmps37
 go_wp2_with (first
  | (go_at_call 40; refine (type_other b o 2 (by decide) _ H4.out).mono ?_; rintro e w1 ⟨rfl, rfl⟩)
  | (go_at_call 62; refine (getarr b o v _ H4.out H2.out HV.out).mono ?_; rintro e w2 ⟨rfl, rfl⟩)
  | (go_at_call 61; refine HF.out.mono ?_; rintro e w3 ⟨v3, rfl, hr3, hch⟩; obtain ⟨A3, q3, rfl⟩ := Kd.R_slice hr3; have HR3 := Aside0.mk hr3; have HC2 := Aside0.mk hch; have hrb := (hch.block w.heap.size (by simp) (fun o q => Nat.lt_irrefl _ (HP.out _ _ q))).trans (heap_alloc_new w oR); obtain ⟨⟨⟨y0, b0⟩, f0, ⟨y1, b1⟩, f1, ⟨y2, b2⟩, f2, ⟨y3, b3⟩, f3, ly⟩, hfr, hfk, hfs, hf1, hf2, hf3⟩ := store4 (c0 := .int .i64 5) (c1 := .string ⟨#[]⟩) (c2 := .slice none 0 0) (c3 := .slice A3 xs.length q3) hrb; have HFR := Aside0.mk hfr; have HFK := Aside0.mk hfk; have HFS := Aside0.mk (And.intro hfs (And.intro hf1 (And.intro hf2 hf3))); clear hfr hfk hfs hf1 hf2 hf3; clear hr3 hch hrb))
 refine bodyPost_ret (results_cell_row rfl _ _ w.heap.size 38 #[.int .i64 5, .string ⟨#[]⟩, .slice none 0 0, .slice A3 xs.length q3] (0, 0) _ rfl ?fr Tryd.underlying38 rfl (by kernel_rfl)) rfl ?_
 case fr => exact HFR.out
 refine ⟨_, _, rfl, Kd.R_nil _ _ _ _ _, ?_, ch_al HC2.out HFK.out HFS.out⟩
 have hs : (w.alloc oR).heap.size = w.heap.size + 1 := by simp
 exact Kd.R_lower (Kd.R_mono (Kd.R_step (Kd.R_bound HR3.out) (fun k hk _ => HFK.out k (by have := hk.2.1; omega))) (fun k _ => by simp [Value.ownBlock])) (by omega)
set_option maxHeartbeats 2000000 in
set_option maxRecDepth 100000 in
theorem node_obj (us : List ByteArray) (xs : List S38) (b o : Nat) (w : World) (P : Nat → Nat → Prop) (hP : ∀ b o, P b o → b < w.heap.size) (h4 : w.cell? ⟨b, o + 4, none⟩ = some (.int .i64 1))
  (hF : Calls Tryd.prog 59 #[.pointer (some ⟨b, o, none⟩)] (w.alloc oR) (NP (w.alloc oR) P ⟨6, ByteArray.empty, us, xs⟩)) :
  Calls Tryd.prog 37 #[.pointer (some ⟨b, o, none⟩)] w (NP w P ⟨6, ByteArray.empty, us, xs⟩) := by
 have H4 := Aside0.mk (al_cell h4)
 have HF := Aside0.mk hF
 have HP := Aside0.mk hP
 clear h4 hF hP
 go_enter Tryd.func37, Tryd.ntmps37
 go_wp2_with (first
  | (go_at_call 40; refine (type_other b o 1 (by decide) _ H4.out).mono ?_; rintro e w1 ⟨rfl, rfl⟩)
  | (go_at_call 60; refine (getobj b o _ H4.out).mono ?_; rintro e w2 ⟨rfl, rfl⟩)
  | (go_at_call 59; refine HF.out.mono ?_; rintro e w3 ⟨v2, v3, rfl, hr2, hr3, hch⟩; obtain ⟨A2, q2, rfl⟩ := Kd.R_slice hr2; obtain ⟨A3, q3, rfl⟩ := Kd.R_slice hr3; have HR2 := Aside0.mk hr2; have HR3 := Aside0.mk hr3; have HC2 := Aside0.mk hch; have hrb := (hch.block w.heap.size (by simp) (fun o q => Nat.lt_irrefl _ (HP.out _ _ q))).trans (heap_alloc_new w oR); obtain ⟨⟨⟨y0, b0⟩, f0, ⟨y1, b1⟩, f1, ⟨y2, b2⟩, f2, ⟨y3, b3⟩, f3, ly⟩, hfr, hfk, hfs, hf1, hf2, hf3⟩ := store4 (c0 := .int .i64 6) (c1 := .string ByteArray.empty) (c2 := .slice A2 us.length q2) (c3 := .slice A3 xs.length q3) hrb; have HFR := Aside0.mk hfr; have HFK := Aside0.mk hfk; have HFS := Aside0.mk (And.intro hfs (And.intro hf1 (And.intro hf2 hf3))); clear hfr hfk hfs hf1 hf2 hf3; clear hr2 hr3 hch hrb))
 refine bodyPost_ret (results_cell_row rfl _ _ w.heap.size 38 #[.int .i64 6, .string ByteArray.empty, .slice A2 us.length q2, .slice A3 xs.length q3] (0, 0) _ rfl ?fr Tryd.underlying38 rfl (by kernel_rfl)) rfl ?_
 case fr => exact HFR.out
 have hs : (w.alloc oR).heap.size = w.heap.size + 1 := by simp
 refine ⟨_, _, rfl, ?_, ?_, ch_al HC2.out HFK.out HFS.out⟩
 ·exact Kd.R_lower (Kd.R_mono (Kd.R_step (Kd.R_bound HR2.out) (fun k hk _ => HFK.out k (by have := hk.2.1; omega))) (fun _ _ => trivial)) (by omega)
 exact Kd.R_lower (Kd.R_mono (Kd.R_step (Kd.R_bound HR3.out) (fun k hk _ => HFK.out k (by have := hk.2.1; omega))) (fun _ hk => hk.1)) (by omega)
set_option maxHeartbeats 2000000 in
set_option maxRecDepth 100000 in
theorem nodes_nil (w : World) : Calls Tryd.prog 61 #[.slice none 0 0] w fun e w' => e = .returned (.slice none 0 0) ∧ w' = w := by
 go_enter Tryd.func61, Tryd.ntmps61
 go_wp2_with (fail)
 go_loopg [3, 8] 0 (fun kq v3 v8 wr => v3 = .slice none 0 0 ∧ v8 = .int .i64 0 ∧ wr = w)
 case atStart => exact ⟨rfl, rfl, rfl⟩
 case round =>
  obtain ⟨rfl, rfl, rfl⟩ := hrel
  go_wp2
  go_ret
  exact ⟨rfl, rfl⟩
theorem NP.mono {w w' : World} {P P1 : Nat → Nat → Prop} {x : S38} {e : Ending} (h : NP w P x e w') (hP : ∀ b o, P b o → P1 b o) : NP w P1 x e w' := by
 obtain ⟨v2, v3, h1, h2, h3, h4⟩ := h
 exact ⟨v2, v3, h1, h2, h3, h4.mono (fun k o _ => hP k o)⟩
theorem nc_arr (k : Nat) (ih : NC k) (ts : List FT) (xs : List S38) (hx : ndL k ts = some xs) (hn : ts.length ≤ 1000000) (hm : ∀ t ∈ ts, Made t) (w : World) (P : Nat → Nat → Prop) (hP : ∀ b o, P b o → b < w.heap.size) (hgg : ∀ b o, P b o → b ≠ 0 ∧ b ≠ 1) (hg : Gl w) (b o ad : Nat) (v : Value) (ps : List (Nat × Nat)) (c4 : w.cell? ⟨b, o + 4, none⟩ = some (.int .i64 2)) (c2 : w.cell? ⟨b, o + 2, none⟩ = some v)
  (hv : (v = .slice none 0 0 ∧ ts = []) ∨ ∃ c, v = .slice (some ⟨ad, 0, none⟩) ts.length c) (hl : ps.length = ts.length) (he : ∀ (j : Nat) (p : Nat × Nat), ps[j]? = some p → w.cell? ⟨ad, j, none⟩ = some (.pointer (some ⟨p.1, p.2, none⟩)) ∧ P ad j)
  (Q : Nat → Nat → Nat → Prop) (hQ : ∀ j b' o', Q j b' o' → P b' o' ∧ ¬ (b' = b ∧ o ≤ o' ∧ o' < o + 5) ∧ (ts ≠ [] → b' ≠ ad)) (hd : ∀ i j b' o', i < j → Q i b' o' → ¬ Q j b' o')
  (hk : ∀ (j : Nat) (p : Nat × Nat) (t : FT), ps[j]? = some p → ts[j]? = some t → Lies w (Q j) p.1 p.2 t) :
  Calls Tryd.prog 37 #[.pointer (some ⟨b, o, none⟩)] w (NP w P ⟨5, ByteArray.empty, [], xs⟩) := by
 have hb : Below w.heap.size w (w.alloc oR) := below_alloc (Below.refl _ w) _
 rcases hv with ⟨rfl, rfl⟩ | ⟨c, rfl⟩
 ·rw [ndL] at hx
  obtain rfl := Option.some.inj hx
  refine node_arr [] b o _ w P hP c4 c2 (.inl rfl) ((nodes_nil _).mono ?_)
  rintro e w' ⟨rfl, rfl⟩
  exact ⟨_, rfl, Kd.R_nil _ _ _ _ _, Ch.refl _ _⟩
 by_cases ht : ts = []
 ·subst ht
  rw [ndL] at hx
  obtain rfl := Option.some.inj hx
  refine node_arr [] b o _ w P hP c4 c2 (.inr ⟨_, _, _, rfl⟩) ((nodes_row k ih [] [] (by rw [ndL]) (fun t h => by simp at h) [] rfl (by simp) ad c (w.alloc oR) (fun _ _ _ => False) (fun _ _ _ h => h.elim) (fun _ _ _ _ _ h => h.elim) (fun _ _ _ h => h.elim) (fun _ _ _ h => h.elim) (hg.below hb) (fun j p h => by simp at h) (fun j p t h => by simp at h)).mono ?_)
  rintro e w' ⟨v, rfl, h1, h2⟩
  exact ⟨_, rfl, h1, h2.ch.mono (fun b o _ ⟨i, _, q⟩ => q.elim)⟩
 refine node_arr xs b o _ w P hP c4 c2 (.inr ⟨_, _, _, rfl⟩) ((nodes_row k ih ts xs hx hm ps hl hn ad c (w.alloc oR) Q (fun j b' o' q => (hQ j b' o' q).2.2 ht) hd (fun j b' o' q => Nat.lt_of_lt_of_le (hP _ _ (hQ j b' o' q).1) hb.size) (fun j b' o' q => hgg _ _ (hQ j b' o' q).1) (hg.below hb) (fun j p hp => blw_cell hb (he j p hp).1) (fun j p t hp ht' => liesBlw (hk j p t hp ht') hb (fun b' o' q => hP _ _ (hQ j b' o' q).1))).mono ?_)
 rintro e w' ⟨v, rfl, h1, h2⟩
 exact ⟨_, rfl, h1, h2.ch.mono (fun b' o' _ ⟨i, _, q⟩ => (hQ i b' o' q).1)⟩
theorem nc_obj (k : Nat) (ih : NC k) (ks us : List ByteArray) (hu : unL k ks = some us) (ts : List FT) (xs : List S38) (hx : ndL k ts = some xs) (hn : ts.length ≤ 1000000) (hm : ∀ t ∈ ts, Made t) (w : World) (P : Nat → Nat → Prop) (hP : ∀ b o, P b o → b < w.heap.size) (hgg : ∀ b o, P b o → b ≠ 0 ∧ b ≠ 1) (hg : Gl w) (b o ad : Nat) (v : Value) (ps : List (Nat × Nat))
  (c4 : w.cell? ⟨b, o + 4, none⟩ = some (.int .i64 1)) (c1 : w.cell? ⟨b, o + 1, none⟩ = some (.bool false)) (p1 : P b (o + 1)) (c0 : w.cell? ⟨b, o, none⟩ = some v) (sf : Soft w b)
  (hv : (v = .slice none 0 0 ∧ ts = []) ∨ ∃ c, v = .slice (some ⟨ad, 0, none⟩) ts.length c) (hl : ps.length = ts.length) (hkl : ks.length = ts.length) (hne : ts ≠ [] → ad ≠ b ∧ Soft w ad)
  (hs : ∀ (j : Nat) (k : ByteArray), ks[j]? = some k → w.cell? ⟨ad, j * 2, none⟩ = some (.string k) ∧ P ad (j * 2))
  (he : ∀ (j : Nat) (p : Nat × Nat), ps[j]? = some p → w.cell? ⟨ad, j * 2 + 1, none⟩ = some (.pointer (some ⟨p.1, p.2, none⟩)) ∧ P ad (j * 2 + 1))
  (Q : Nat → Nat → Nat → Prop) (hQ : ∀ j b' o', Q j b' o' → P b' o' ∧ ¬ (b' = b ∧ o ≤ o' ∧ o' < o + 5) ∧ (ts ≠ [] → b' ≠ ad)) (hd : ∀ i j b' o', i < j → Q i b' o' → ¬ Q j b' o')
  (hk : ∀ (j : Nat) (p : Nat × Nat) (t : FT), ps[j]? = some p → ts[j]? = some t → Lies w (Q j) p.1 p.2 t) :
  Calls Tryd.prog 37 #[.pointer (some ⟨b, o, none⟩)] w (NP w P ⟨6, ByteArray.empty, us, xs⟩) := by
 have hb0 : Below w.heap.size w (w.alloc oR) := below_alloc (Below.refl _ w) _
 have hs0 : (w.alloc oR).heap.size = w.heap.size + 1 := by simp
 refine node_obj us xs b o w P hP c4 (object_any b o (w.alloc oR) P (fun b o q => by have := hP b o q; omega) us xs ?_)
 intro gn W hgn hBW hN
 have hb : Below w.heap.size w ((w.alloc oR).alloc oR) := hb0.alloc (by omega) _
 obtain ⟨w1, hw1⟩ : ∃ z, z = (w.alloc oR).alloc oR := ⟨_, rfl⟩
 rw [← hw1] at hb hgn hBW ⊢
 have sfb : Soft w1 b := sf.of (hb.block b (sf.ok (o := 0)).2)
 by_cases ht : ts = []
 ·subst ht
  rw [ndL] at hx
  obtain rfl := Option.some.inj hx
  obtain rfl := List.length_eq_zero_iff.1 hkl
  rw [unL] at hu
  obtain rfl := Option.some.inj hu
  obtain ⟨A, c, rfl⟩ : ∃ A c, v = .slice A 0 c := by
   rcases hv with ⟨h, _⟩ | ⟨c, h⟩
   ·exact ⟨_, _, h⟩
   exact ⟨_, _, h⟩
  have hblt : b < w1.heap.size := (sfb.ok (o := 0)).2
  refine (visit_nil A c b o gn W ((hBW.cell (p := ⟨b, o + 1, none⟩) hblt).trans (blw_cell hb c1)) ((hBW.cell (p := ⟨b, o, none⟩) hblt).trans (blw_cell hb c0)) (sfb.of (hBW.block b hblt))).mono ?_
  rintro e w' ⟨rfl, hch⟩
  refine ⟨_, _, rfl, hN.ch hch (fun b' o' q => by rw [q.1]; omega), (Ch.of_below hBW P).comp hch (fun b' o' _ q => by rw [q.1, q.2]; exact p1)⟩
 have hn0 : 0 < ts.length := List.length_pos_iff.2 ht
 obtain ⟨hab, sfa⟩ := hne ht
 obtain ⟨c, rfl⟩ : ∃ c, v = .slice (some ⟨ad, 0, none⟩) ts.length c := by
  rcases hv with ⟨_, h⟩ | h
  ·exact absurd h ht
  exact h
 have hp0 : 0 < ps.length := by omega
 have had : P ad (0 * 2 + 1) := (he 0 ps[0] (List.getElem?_eq_getElem hp0)).2
 refine (visit_calls k ih ks us hu ts xs hx hm ps hl hkl hn0 hn b o ad c w1 W (hg.below hb) (blw_cell hb c1) (blw_cell hb c0) sfb (sfa.of (hb.block ad (sfa.ok (o := 0)).2)) hab (hgg _ _ had) (hgg _ _ p1) (fun j s hj => blw_cell hb (hs j s hj).1) (fun j p hp => blw_cell hb (he j p hp).1) Q (fun j b' o' q => ⟨(hQ j b' o' q).2.1, (hQ j b' o' q).2.2 ht⟩) hd (fun j b' o' q => Nat.lt_of_lt_of_le (hP _ _ (hQ j b' o' q).1) hb.size) (fun j b' o' q => hgg _ _ (hQ j b' o' q).1) (fun j p t hp ht' => liesBlw (hk j p t hp ht') hb (fun b' o' q => hP _ _ (hQ j b' o' q).1)) gn hgn hBW hN).mono ?_
 rintro e w' ⟨v2, v3, rfl, hnm, hch⟩
 refine ⟨_, _, rfl, hnm, hch.mono (fun b' o' _ q => ?_)⟩
 rcases q with (⟨rfl, i, hi, rfl⟩ | ⟨rfl, rfl⟩) | ⟨i, _, q⟩
 ·exact (hs i ks[i] (List.getElem?_eq_getElem (by omega))).2
 ·exact p1
 exact (hQ i b' o' q).1
theorem nd_arr {k : Nat} {ts : List FT} {x : S38} (h : nd (k + 1) (.mk 2 ByteArray.empty [] ts) = some x) : ts.length ≤ 1000000 ∧ ∃ xs, ndL k ts = some xs ∧ x = ⟨5, ByteArray.empty, [], xs⟩ := by
 rw [nd, if_neg (by decide), if_neg (by decide), if_pos rfl] at h
 split at h
 case isFalse => cases h
 rename_i hn
 obtain ⟨xs, hx, h⟩ := Option.bind_eq_some_iff.mp h
 exact ⟨hn, xs, hx, (Option.some.inj h).symm⟩
theorem nd_obj {k : Nat} {ks : List ByteArray} {ts : List FT} {x : S38} (h : nd (k + 1) (.mk 1 ByteArray.empty ks ts) = some x) : ts.length ≤ 1000000 ∧ ∃ us xs, unL k ks = some us ∧ ndL k ts = some xs ∧ x = ⟨6, ByteArray.empty, us, xs⟩ := by
 rw [nd, if_neg (by decide), if_pos rfl] at h
 split at h
 case isFalse => cases h
 rename_i hn
 obtain ⟨us, hu, h⟩ := Option.bind_eq_some_iff.mp h
 obtain ⟨xs, hx, h⟩ := Option.bind_eq_some_iff.mp h
 exact ⟨hn, us, xs, hu, hx, (Option.some.inj h).symm⟩
/-- fjNode's contract, for all rounds. -/
theorem nc_all : ∀ k, NC k
 | 0 => fun t x h => by rw [nd] at h; cases h
 | k + 1 => fun t x h hm w P b o hl hg hgg => by
  have ih := nc_all k
  obtain ⟨P', hl', hPP, hP⟩ : ∃ P' : Nat → Nat → Prop, Lies w P' b o t ∧ (∀ b o, P' b o → P b o) ∧ (∀ b o, P' b o → b < w.heap.size) := ⟨_, FJ.Lies.old hl, fun b o q => q.1, fun b o q => q.2⟩
  have hgg' : ∀ b o, P' b o → b ≠ 0 ∧ b ≠ 1 := fun b o q => hgg b o (hPP b o q)
  suffices hh : Calls Tryd.prog 37 #[.pointer (some ⟨b, o, none⟩)] w (NP w P' x) from hh.mono fun e w' q => q.mono hPP
  clear hl hgg hPP
  cases hl' with
  | @leaf _ _ _ q s h1 h2 c3 p3 c4 p4 sf =>
   cases hm with
   | arr => exact absurd rfl h2
   | obj => exact absurd rfl h1
   | leaf hq =>
    rcases hq with rfl | rfl | rfl | rfl | rfl
    ·rw [nd, if_pos rfl] at h
     split at h
     case isFalse => cases h
     rename_i hs
     obtain ⟨u, hu, h⟩ := Option.bind_eq_some_iff.mp h
     obtain rfl := Option.some.inj h
     exact node_str k s u hu hs b o w P' hg c4 c3 sf p3 p4
    ·rw [nd, if_neg (by decide), if_neg (by decide), if_neg (by decide), if_pos rfl] at h
     split at h
     case isFalse => cases h
     rename_i hs
     obtain rfl := Option.some.inj h
     exact node_num s hs b o w P' c4 c3
    ·rw [nd, if_neg (by decide), if_neg (by decide), if_neg (by decide), if_neg (by decide), if_pos rfl] at h
     obtain rfl := Option.some.inj h
     exact node_const 5 2 (.inl ⟨rfl, rfl⟩) b o w P' c4
    ·rw [nd, if_neg (by decide), if_neg (by decide), if_neg (by decide), if_neg (by decide), if_neg (by decide), if_pos rfl] at h
     obtain rfl := Option.some.inj h
     exact node_const 6 1 (.inr (.inl ⟨rfl, rfl⟩)) b o w P' c4
    rw [nd, if_neg (by decide), if_neg (by decide), if_neg (by decide), if_neg (by decide), if_neg (by decide), if_neg (by decide)] at h
    obtain rfl := Option.some.inj h
    exact node_const 0 0 (.inr (.inr ⟨rfl, rfl⟩)) b o w P' c4
  | @arr _ _ _ ad v ts ps c4 p4 c2 p2 hv hl he Q hQ hd hk =>
   have hms : ∀ t ∈ ts, Made t := by
    cases hm with
    | leaf hk => omega
    | arr h => exact h
   obtain ⟨hn, xs, hx, rfl⟩ := nd_arr h
   exact nc_arr k ih ts xs hx hn hms w P' hP hgg' hg b o ad v ps c4 c2 hv hl he Q hQ hd hk
  | @obj _ _ _ ad v ks ts ps c4 p4 c1 p1 c0 p0 sf hv hl hkl hne hs he Q hQ hd hk =>
   have hms : ∀ t ∈ ts, Made t := by
    cases hm with
    | leaf hk => omega
    | obj _ h => exact h
   obtain ⟨hn, us, xs, hu, hx, rfl⟩ := nd_obj h
   exact nc_obj k ih ks us hu ts xs hx hn hms w P' hP hgg' hg b o ad v ps c4 c1 p1 c0 sf hv hl hkl hne hs he Q hQ hd hk
end FJ
end Go.Proofs.YtnajijaachgipaaDoor.PT
end
section
namespace Go.Proofs.YtnajijaachgipaaDoor.H
open Go.RowKit Go.Proofs.YtnajijaachgipaaDoorW.PrintWords Go.Proofs.YtnajijaachgipaaDoorW.PrintLast Go.Proofs.YtnajijaachgipaaDoorW.PrintMore
set_option linter.unusedVariables false
theorem clearNil (W : World) : (Builtin.clear_ #[81] 0 #[.slice none 0 0]).run Tryd.prog W = .ok (.tuple #[]) W := by
 simp [Builtin.clear_, run_underlying Tryd.underlying81]
set_option maxHeartbeats 1000000 in
set_option maxRecDepth 100000 in
theorem objReset (b o : Nat) (W : World) (hlt : b < W.heap.size) (c0 : W.cell? ⟨b, o, none⟩ = some (.slice none 0 0)) (f0 : W.frozen? ⟨b, o, none⟩ = false) (c1 : W.cell? ⟨b, o + 1, none⟩ = some (.bool false)) (f1 : W.frozen? ⟨b, o + 1, none⟩ = false) :
  Calls Tryd.prog 93 #[.pointer (some ⟨b, o, none⟩)] W fun e W' => e = .returned (.tuple #[]) ∧ W' = (W.setCell ⟨b, o, none⟩ (.slice none 0 0)).setCell ⟨b, o + 1, none⟩ (.bool false) := by
 go_enter Tryd.func93, Tryd.ntmps93
 have hcl := clearNil
 go_wp2
 first | go_end0 | ((try simp only [Exit.inBlock, Exit.then]); refine bodyPost_ret (results_none rfl _ _ _) rfl ?_)
 exact ⟨rfl, rfl⟩
/-- Where the members' trees may lie. -/
def Ko_ (W0 W : World) (g : Nat) (Bo : Option (Nat × Nat)) (n : Nat) (B1 : Option (Nat × Nat)) (n1 ba oa : Nat) (Ko : Option (Nat × Nat)) (b o : Nat) : Prop := Nw W0 W g Bo n B1 n1 b o ∧ ¬ (b = ba ∧ oa ≤ o ∧ o < oa + 5) ∧ ∀ c, Ko ≠ some (b, c)
/-- An object in the making: m members have room, of which the first are read. -/
structure OI (W0 W : World) (g co : Nat) (Bo : Option (Nat × Nat)) (n : Nat) (B1 : Option (Nat × Nat)) (n1 ba oa : Nat) (Ko : Option (Nat × Nat)) (m : Nat) (ks : List ByteArray) (ps : List (Nat × Nat)) (ts : List FT) : Prop where
 st : PS W0 W g co Bo n B1 n1
 new : ∀ j, j < 5 → ¬ Old W0 g Bo (n * 5) ba (oa + j)
 old : ∀ j, j < 5 → Old W g B1 (n1 * 5) ba (oa + j)
 form : ∃ cur, W.heap[ba]? = some (.cells cur 86 (0, 0)) ∧ oa + 5 ≤ cur.size
 c4 : W.cell? ⟨ba, oa + 4, none⟩ = some (.int .i64 1)
 c1 : W.cell? ⟨ba, oa + 1, none⟩ = some (.bool false)
 kv : CS zk 108 W ba oa Ko m
 blk : ∀ K c, Ko = some (K, c) → W0.heap.size ≤ K ∧ K ≠ g ∧ ∀ c', B1 ≠ some (K, c')
 hl : ps.length = ts.length
 hm : ts.length ≤ m
 hk : ks.length ≤ m
 keys : ∀ (j : Nat) (k : ByteArray), ks[j]? = some k → ∀ K c, Ko = some (K, c) → W.cell? ⟨K, j * 2, none⟩ = some (.string k)
 vals : ∀ (j : Nat) (p : Nat × Nat), ps[j]? = some p → ∀ K c, Ko = some (K, c) → W.cell? ⟨K, j * 2 + 1, none⟩ = some (ptr p)
 kids : Kids W (Ko_ W0 W g Bo n B1 n1 ba oa Ko) ps ts
section
variable {W W0 W1 W2 : World} {g co n n1 n2 ba oa m : Nat} {Bo B1 B2 Ko : Option (Nat × Nat)} {ks : List ByteArray} {ps : List (Nat × Nat)} {ts : List FT}
theorem OI.balt (h : OI W0 W g co Bo n B1 n1 ba oa Ko m ks ps ts) : ba < W.heap.size := h.kv.glt
theorem OI.kold (h : OI W0 W g co Bo n B1 n1 ba oa Ko m ks ps ts) {K c : Nat} (e : Ko = some (K, c)) (o : Nat) : Old W g B1 (n1 * 5) K o := ⟨h.kv.blt e, (h.blk K c e).2.1, fun c' e2 => absurd e2 ((h.blk K c e).2.2 c')⟩
theorem OI.child {b o : Nat} {t : FT} (h : OI W0 W1 g co Bo n B1 n1 ba oa Ko m ks ps ts) (k : PS W1 W2 g co B1 n1 B2 n2) (hl : Lies W2 (Nw W1 W2 g B1 n1 B2 n2) b o t) :
  OI W0 W2 g co Bo n B2 n2 ba oa Ko m ks ps ts ∧ Pend W2 (Ko_ W0 W2 g Bo n B2 n2 ba oa Ko) ps ts b o t := by
 obtain ⟨cur, hc, hcs⟩ := h.form
 obtain ⟨cur', hc', hs'⟩ := k.ch.form ba h.balt cur _ hc
 refine ⟨⟨h.st.trans k, h.new, fun j hj => (h.old j hj).step k.lk k.ch.size, ⟨cur', hc', by omega⟩, ((h.old 4 (by omega)).keep k.ch).trans h.c4, ((h.old 1 (by omega)).keep k.ch).trans h.c1, ?_, fun K c e => ⟨(h.blk K c e).1, (h.blk K c e).2.1, fun c' e2 => ?_⟩, h.hl, h.hm, h.hk, fun j x hx K c e => ((h.kold e _).keep k.ch).trans (h.keys j x hx K c e), fun j x hx K c e => ((h.kold e _).keep k.ch).trans (h.vals j x hx K c e), ?_⟩, ?_⟩
 ·exact h.kv.ch k.ch (by have := (h.old 0 (by omega)).not (co := co); simpa using this) (fun K c e p _ => (h.kold e p).not)
 ·rcases k.lk.2 K c' e2 with ⟨c2, e3⟩ | hle
  ·exact (h.blk K c e).2.2 c2 e3
  have := h.kv.blt e; omega
 ·exact h.kids.frame (fun b o hq => ⟨⟨hq.1.1, hq.1.2.step k.lk k.ch.size⟩, hq.2⟩) (fun b o hq => hq.1.2.keep k.ch) (fun b o hq s => s.ch k.ch)
 refine h.kids.pend (fun b o hq => ⟨⟨hq.1.1, hq.1.2.step k.lk k.ch.size⟩, hq.2⟩) (fun b o hq => hq.1.2.keep k.ch) (fun b o hq s => s.ch k.ch) (fun b o hq => ⟨⟨fun ho => hq.1 (ho.step h.st.lk h.st.ch.size), hq.2⟩, ?_, fun c e => hq.1 (h.kold e o)⟩) (fun b o hq hr => hr.1 hq.1.2) hl
 rintro ⟨rfl, h1, h2⟩
 have := h.old (o - oa) (by omega)
 rw [show oa + (o - oa) = o by omega] at this
 exact hq.1 this
theorem OI.below (h : OI W0 W1 g co Bo n B1 n1 ba oa Ko m ks ps ts) (hb : Below W1.heap.size W1 W2) : OI W0 W2 g co Bo n B1 n1 ba oa Ko m ks ps ts := by
 have k : PS W1 W2 g co B1 n1 B1 n1 := (PS.refl h.st.cs).below hb
 obtain ⟨cur, hc, hcs⟩ := h.form
 exact ⟨h.st.below hb, h.new, fun j hj => (h.old j hj).step k.lk k.ch.size, ⟨cur, (hb.block ba h.balt).trans hc, hcs⟩, ((h.old 4 (by omega)).keep k.ch).trans h.c4, ((h.old 1 (by omega)).keep k.ch).trans h.c1, h.kv.ch (Ch.of_below hb (fun _ _ => False)) id (fun _ _ _ _ _ => id), h.blk, h.hl, h.hm, h.hk, fun j x hx K c e => ((h.kold e _).keep k.ch).trans (h.keys j x hx K c e), fun j x hx K c e => ((h.kold e _).keep k.ch).trans (h.vals j x hx K c e), h.kids.frame (fun b o hq => ⟨⟨hq.1.1, hq.1.2.step k.lk k.ch.size⟩, hq.2⟩) (fun b o hq => hq.1.2.keep k.ch) (fun b o hq s => s.ch k.ch)⟩
theorem OI.hfar (h : OI W0 W1 g co Bo n B1 n1 ba oa Ko m ks ps ts) : ¬ SK ba oa Ko (m * zk.size) g co ∧ (∀ B c, B1 = some (B, c) → ∀ p, n1 * zc.size ≤ p → ¬ SK ba oa Ko (m * zk.size) B p) ∧ ba ≠ g := by
 have hg := (h.old 0 (by omega)).2.1
 refine ⟨?_, fun B c e p hp => ?_, hg⟩
 ·rintro (⟨e, _⟩ | ⟨c, e, _⟩)
  ·exact hg e.symm
  exact (h.blk g c e).2.1 rfl
 rintro (⟨rfl, rfl⟩ | ⟨c', e', _⟩)
 ·have := (h.old 0 (by omega)).2.2 c e
  have hz : zc.size = 5 := rfl
  rw [hz] at hp
  omega
 exact (h.blk B c' e').2.2 c e
/-- Room for one member more. -/
theorem OI.room {K c : Nat} (h : OI W0 W1 g co Bo n B1 n1 ba oa Ko m ks ps ts) (v : NewV zk 108 W1 W2 ba oa Ko m K c) : OI W0 W2 g co Bo n B1 n1 ba oa (some (K, c)) (m + 1) ks ps ts := by
 obtain ⟨f1, f2, hbg⟩ := h.hfar
 obtain ⟨cur, hc, hcs⟩ := h.form
 obtain ⟨cur', hc', hs'⟩ := v.ch.form ba h.balt cur _ hc
 have hst : PS W0 W2 g co Bo n B1 n1 := by
  refine ⟨h.st.ch.comp v.ch ?_, h.st.cs.ch v.ch f1 f2, h.st.lk⟩
  rintro k p hk (⟨rfl, rfl⟩ | ⟨c', e, _⟩)
  ·have := not_old hk hbg (h.new 0 (by omega))
   exact .inr (by simpa using this)
  have := (h.blk k c' e).1; omega
 have hn0 : Ko = none → m = 0 := fun e => by
  rcases h.kv.row with ⟨_, q⟩ | ⟨B, c, xs, q, _⟩
  ·exact q
  rw [e] at q; cases q
 have hcell : ∀ b o, b < W1.heap.size → ¬ (b = ba ∧ o = oa) → (∀ c, Ko ≠ some (b, c)) → W2.cell? ⟨b, o, none⟩ = W1.cell? ⟨b, o, none⟩ := fun b o hb h1 h2 => v.ch.cell b o hb (by rintro (q | ⟨c', e, _⟩); exact h1 q; exact h2 c' e)
 have hkb : ∀ c, Ko ≠ some (ba, c) := fun c e => h.kv.ne e rfl
 have hcopy : ∀ j, j < m * 2 → ∃ K0 c0, Ko = some (K0, c0) ∧ W2.cell? ⟨K, j, none⟩ = W1.cell? ⟨K0, j, none⟩ := fun j hj => by
  cases e : Ko with
  | none => have := hn0 e; omega
  | some x => exact ⟨x.1, x.2, rfl, v.copy x.1 x.2 e j hj⟩
 have hnb : ∀ b o, Ko_ W0 W1 g Bo n B1 n1 ba oa Ko b o → Ko_ W0 W2 g Bo n B1 n1 ba oa (some (K, c)) b o := fun b o hq => by
  refine ⟨⟨hq.1.1, hq.1.2.step (Lk.refl _ _ _) v.ch.size⟩, hq.2.1, fun c' e => ?_⟩
  obtain ⟨rfl, rfl⟩ := Prod.mk.inj (Option.some.inj e)
  rcases v.lk.2 K c rfl with ⟨c2, e2⟩ | hle
  ·exact hq.2.2 c2 e2
  have := hq.1.2.1; omega
 refine ⟨hst, h.new, fun j hj => (h.old j hj).step (Lk.refl _ _ _) v.ch.size, ⟨cur', hc', by omega⟩, ?_, ?_, v.st, fun K' c' e => ?_, h.hl, by have := h.hm; omega, by have := h.hk; omega, fun j x hx K' c' e => ?_, fun j x hx K' c' e => ?_, h.kids.frame hnb (fun b o hq => hcell b o hq.1.2.1 (fun e => hq.2.1 ⟨e.1, by omega, by omega⟩) hq.2.2) (fun b o hq s => s.ch v.ch)⟩
 ·exact (hcell ba (oa + 4) h.balt (by omega) hkb).trans h.c4
 ·exact (hcell ba (oa + 1) h.balt (by omega) hkb).trans h.c1
 ·obtain ⟨rfl, rfl⟩ := Prod.mk.inj (Option.some.inj e)
  rcases v.lk.2 K c rfl with ⟨c2, e2⟩ | hle
  ·exact h.blk K c2 e2
  have h1 := h.st.ch.size
  have h2 := h.st.cs.glt
  exact ⟨by omega, by omega, fun c3 e3 => by have := h.st.cs.blt e3; omega⟩
 ·obtain ⟨rfl, rfl⟩ := Prod.mk.inj (Option.some.inj e)
  have hj : j < ks.length := (List.getElem?_eq_some_iff.1 hx).1
  obtain ⟨K0, c0, e0, e1⟩ := hcopy (j * 2) (by have := h.hk; omega)
  exact e1.trans (h.keys j x hx K0 c0 e0)
 obtain ⟨rfl, rfl⟩ := Prod.mk.inj (Option.some.inj e)
 have hj : j < ps.length := (List.getElem?_eq_some_iff.1 hx).1
 obtain ⟨K0, c0, e0, e1⟩ := hcopy (j * 2 + 1) (by have := h.hm; have := h.hl; omega)
 exact e1.trans (h.vals j x hx K0 c0 e0)
/-- A place of the members' row is written. -/
theorem OI.put {K c o : Nat} {u : Value} (h : OI W0 W g co Bo n B1 n1 ba oa (some (K, c)) m ks ps ts) (ho : o < m * 2) (hk : ∀ j, j < ks.length → j * 2 ≠ o) (hp : ∀ j, j < ps.length → j * 2 + 1 ≠ o) :
  OI W0 (W.setCell ⟨K, o, none⟩ u) g co Bo n B1 n1 ba oa (some (K, c)) m ks ps ts ∧ (W.setCell ⟨K, o, none⟩ u).cell? ⟨K, o, none⟩ = some u ∧ (∀ b p, (∀ c', some (K, c) ≠ some (b, c')) → (W.setCell ⟨K, o, none⟩ u).cell? ⟨b, p, none⟩ = W.cell? ⟨b, p, none⟩) ∧ W.heap.size ≤ (W.setCell ⟨K, o, none⟩ u).heap.size := by
 obtain ⟨cur, hc, hsz⟩ : ∃ cur, W.heap[K]? = some (.cells cur 108 (0, 0)) ∧ m * 2 ≤ cur.size := by
  rcases h.kv.row with ⟨e, _⟩ | ⟨B, c', xs, e, _, hnc, _, hl, hh⟩
  ·cases e
  obtain ⟨rfl, rfl⟩ := Prod.mk.inj (Option.some.inj e)
  have hz : zk.size = 2 := rfl
  rw [hz] at hl
  exact ⟨_, hh, by rw [Array.size_append, List.size_toArray, hl]; omega⟩
 have hkba : K ≠ ba := h.kv.ne rfl
 have hset := cell_setCell (b := K) (o := o) hc u
 have hch := Ch.set (o := o) hc u
 have hbk := h.blk K c rfl
 have hst := h.st.write (fun ho => by have := ho.1; omega) (h.kold rfl o) hc u
 have hfar : ∀ b p, ¬ (b = K ∧ p = o) → (W.setCell ⟨K, o, none⟩ u).cell? ⟨b, p, none⟩ = W.cell? ⟨b, p, none⟩ := fun b p hn => by rw [hset, if_neg (fun e => hn ⟨e.1, e.2.1⟩)]
 obtain ⟨cur0, hc0, hcs0⟩ := h.form
 obtain ⟨cur', hc', hs'⟩ := hch.form ba h.balt cur0 _ hc0
 refine ⟨⟨hst, h.new, fun j hj => (h.old j hj).step (Lk.refl _ _ _) hch.size, ⟨cur', hc', by omega⟩, (hfar _ _ (fun e => hkba e.1.symm)).trans h.c4, (hfar _ _ (fun e => hkba e.1.symm)).trans h.c1, h.kv.ch hch (fun e => hkba e.1.symm) (fun B c' e p hp e2 => ?_), h.blk, h.hl, h.hm, h.hk, fun j x hx K' c' e => ?_, fun j x hx K' c' e => ?_, h.kids.frame (fun b o hq => ⟨⟨hq.1.1, hq.1.2.step (Lk.refl _ _ _) hch.size⟩, hq.2⟩) (fun b p hq => hfar b p (fun e => hq.2.2 c (by rw [e.1]))) (fun b p hq s => s.ch hch)⟩, ?_, fun b p hn => hfar b p (fun e => hn c (by rw [e.1])), hch.size⟩
 ·have hz : zk.size = 2 := rfl
  rw [hz] at hp
  omega
 ·obtain ⟨rfl, rfl⟩ := Prod.mk.inj (Option.some.inj e)
  exact (hfar _ _ (fun e => hk j (List.getElem?_eq_some_iff.1 hx).1 e.2)).trans (h.keys j x hx K c rfl)
 ·obtain ⟨rfl, rfl⟩ := Prod.mk.inj (Option.some.inj e)
  exact (hfar _ _ (fun e => hp j (List.getElem?_eq_some_iff.1 hx).1 e.2)).trans (h.vals j x hx K c rfl)
 rw [hset, if_pos ⟨rfl, rfl, by omega⟩]
theorem OI.key {K c : Nat} {k : ByteArray} (h : OI W0 W g co Bo n B1 n1 ba oa (some (K, c)) (m + 1) ks ps ts) (hks : ks.length = m) (hts : ts.length = m) : OI W0 (W.setCell ⟨K, m * 2, none⟩ (.string k)) g co Bo n B1 n1 ba oa (some (K, c)) (m + 1) (ks ++ [k]) ps ts := by
 obtain ⟨h1, h2, _, _⟩ := h.put (o := m * 2) (u := .string k) (by omega) (fun j hj => by omega) (fun j hj => by omega)
 exact { h1 with
  hk := by rw [List.length_append, hks]; exact Nat.le_refl _
  keys := fun j x hx K' c' e => by
   obtain ⟨rfl, rfl⟩ := Prod.mk.inj (Option.some.inj e)
   by_cases hj : j < ks.length
   ·rw [List.getElem?_append_left hj] at hx
    exact h1.keys j x hx K c rfl
   rw [List.getElem?_append_right (by omega)] at hx
   have e1 : j - ks.length = 0 := by
    rcases Nat.eq_zero_or_pos (j - ks.length) with q | q
    ·exact q
    rw [List.getElem?_eq_none (by simp; omega)] at hx; cases hx
   rw [e1] at hx
   obtain rfl := Option.some.inj hx
   rw [show j = m by omega]
   exact h2 }
theorem OI.val {K c b o : Nat} {t : FT} (h : OI W0 W g co Bo n B1 n1 ba oa (some (K, c)) (m + 1) ks ps ts) (hts : ts.length = m) (hl : Pend W (Ko_ W0 W g Bo n B1 n1 ba oa (some (K, c))) ps ts b o t) : OI W0 (W.setCell ⟨K, m * 2 + 1, none⟩ (ptr (b, o))) g co Bo n B1 n1 ba oa (some (K, c)) (m + 1) ks (ps ++ [(b, o)]) (ts ++ [t]) := by
 have hpl := h.hl
 obtain ⟨curK, hcK⟩ : ∃ cur, W.heap[K]? = some (.cells cur 108 (0, 0)) := by
  rcases h.kv.row with ⟨e, _⟩ | ⟨B, c', xs, e, _, hnc, _, hl, hh⟩
  ·cases e
  obtain ⟨rfl, rfl⟩ := Prod.mk.inj (Option.some.inj e)
  exact ⟨_, hh⟩
 obtain ⟨h1, h2, h3, h4⟩ := h.put (o := m * 2 + 1) (u := ptr (b, o)) (by omega) (fun j hj => by omega) (fun j hj => by omega)
 have one : ∀ {α : Type} (l : List α) (a x : α) (j : Nat), (l ++ [a])[j]? = some x → (j < l.length ∧ l[j]? = some x) ∨ (j = l.length ∧ a = x) := fun l a x j hx => by
  by_cases hj : j < l.length
  ·rw [List.getElem?_append_left hj] at hx
   exact .inl ⟨hj, hx⟩
  rw [List.getElem?_append_right (by omega)] at hx
  have e1 : j - l.length = 0 := by
   rcases Nat.eq_zero_or_pos (j - l.length) with q | q
   ·exact q
   rw [List.getElem?_eq_none (by simp; omega)] at hx; cases hx
  rw [e1] at hx
  exact .inr ⟨by omega, Option.some.inj hx⟩
 exact { h1 with
  hl := by simp [hpl]
  hm := by rw [List.length_append, hts]; exact Nat.le_refl _
  vals := fun j x hx K' c' e => by
   obtain ⟨rfl, rfl⟩ := Prod.mk.inj (Option.some.inj e)
   rcases one ps (b, o) x j hx with ⟨hj, hx⟩ | ⟨hj, rfl⟩
   ·exact h1.vals j x hx K c rfl
   rw [show j = m by omega]
   exact h2
  kids := (hl.frame (fun b o hq => ⟨⟨hq.1.1, hq.1.2.step (Lk.refl _ _ _) h4⟩, hq.2⟩) (fun b o hq => h3 b o (fun c' e => hq.2.2 c' e)) (fun b o hq s => s.ch (Ch.set hcK _))).push hpl }
theorem OI.kat {K c o : Nat} (h : OI W0 W g co Bo n B1 n1 ba oa (some (K, c)) m ks ps ts) (ho : o < m * 2) : (∃ x, W.cell? ⟨K, o, none⟩ = some x) ∧ W.frozen? ⟨K, o, none⟩ = false ∧ K < W.heap.size := by
 rcases h.kv.row with ⟨e, _⟩ | ⟨B, c', xs, e, _, hnc, _, hl, hh⟩
 ·cases e
 obtain ⟨rfl, rfl⟩ := Prod.mk.inj (Option.some.inj e)
 have hz : zk.size = 2 := rfl
 rw [hz] at hl
 refine ⟨?_, by simp [World.frozen?, hh], (Array.getElem?_eq_some_iff.1 hh).1⟩
 rw [cell_of_row W K o _ _ (0, 0) hh]
 exact ⟨_, Array.getElem?_eq_getElem (by rw [Array.size_append, List.size_toArray, hl]; omega)⟩
/-- A place of the members' row, behind a step that fails. -/
theorem OI.kfar {K c o : Nat} (h : OI W0 W1 g co Bo n B1 n1 ba oa (some (K, c)) m ks ps ts) (ho : o < m * 2) (k : Ch W1 W2 (SK g co B1 (n1 * 5))) : (∃ x, W2.cell? ⟨K, o, none⟩ = some x) ∧ W2.frozen? ⟨K, o, none⟩ = false ∧ K < W2.heap.size ∧ ∀ u, Ch W0 (W2.setCell ⟨K, o, none⟩ u) (SK g co Bo (n * 5)) := by
 obtain ⟨⟨x, hx⟩, _, hlt⟩ := h.kat ho
 have hW : W0.heap.size ≤ K := (h.blk K c rfl).1
 obtain ⟨cur, hc⟩ : ∃ cur, W1.heap[K]? = some (.cells cur 108 (0, 0)) := by
  rcases h.kv.row with ⟨e, _⟩ | ⟨B, c', xs, e, _, hnc, _, hl, hh⟩
  ·cases e
  obtain ⟨rfl, rfl⟩ := Prod.mk.inj (Option.some.inj e)
  exact ⟨_, hh⟩
 obtain ⟨cur', hc', _⟩ := k.form K hlt cur _ hc
 refine ⟨⟨x, (k.cell K o hlt (h.kold rfl o).not).trans hx⟩, by simp [World.frozen?, hc'], (Array.getElem?_eq_some_iff.1 hc').1, fun u => ?_⟩
 exact (h.st.ch.comp k h.st.lk.sub).comp (Ch.set hc' u) (fun b p hb e => by have := e.1; omega)
/-- The object, done. -/
theorem OI.done (h : OI W0 W g co Bo n B1 n1 ba oa Ko ts.length ks ps ts) (hn : ks.length = ts.length) : Lies W (Nw W0 W g Bo n B1 n1) ba oa (.mk 1 ByteArray.empty ks ts) := by
 have hnw : ∀ j, j < 5 → Nw W0 W g Bo n B1 n1 ba (oa + j) := fun j hj => ⟨h.new j hj, h.old j hj⟩
 have hc0 := h.kv.at_
 obtain ⟨Q, hQ, hd, hkids⟩ := h.kids
 have hsf : Soft W ba := by
  obtain ⟨cur, hc, _⟩ := h.form
  exact ⟨_, _, hc⟩
 cases e : Ko with
 | none =>
  have hm0 : ts.length = 0 := by
   rcases h.kv.row with ⟨_, q⟩ | ⟨B, c, xs, q, _⟩
   ·exact q
   rw [e] at q; cases q
  have ht0 : ts = [] := List.eq_nil_of_length_eq_zero hm0
  have hp0 : ps = [] := List.eq_nil_of_length_eq_zero (h.hl.trans hm0)
  have hk0 : ks = [] := List.eq_nil_of_length_eq_zero (hn.trans hm0)
  rw [e] at hc0
  exact .obj (ad := 0) h.c4 (hnw 4 (by omega)) h.c1 (hnw 1 (by omega)) hc0 (hnw 0 (by omega)) hsf (.inl ⟨rfl, ht0⟩) h.hl hn (fun hts => absurd ht0 hts) (fun j k hk => by rw [hk0] at hk; simp at hk) (fun j p hp => by rw [hp0] at hp; simp at hp)
   Q (fun j b' o' hq => ⟨(hQ j b' o' hq).1, (hQ j b' o' hq).2.1, fun hts _ => hts ht0⟩) hd hkids
 | some x =>
  obtain ⟨K, c⟩ := x
  have hsk : Soft W K := by
   rcases h.kv.row with ⟨q, _⟩ | ⟨B, c', xs, q, _, _, _, _, hh⟩
   ·rw [e] at q; cases q
   rw [e] at q
   obtain ⟨rfl, rfl⟩ := Prod.mk.inj (Option.some.inj q)
   exact ⟨_, _, hh⟩
  rw [e] at hc0
  have hnk : ∀ o, Nw W0 W g Bo n B1 n1 K o := fun o => ⟨fun ho => by have := ho.1; have := (h.blk K c e).1; omega, h.kold e o⟩
  exact .obj (ad := K) h.c4 (hnw 4 (by omega)) h.c1 (hnw 1 (by omega)) hc0 (hnw 0 (by omega)) hsf (.inr ⟨c, rfl⟩) h.hl hn (fun _ => ⟨h.kv.ne e, hsk⟩) (fun j k hk => ⟨h.keys j k hk K c e, hnk _⟩) (fun j p hp => ⟨h.vals j p hp K c e, hnk _⟩)
   Q (fun j b' o' hq => ⟨(hQ j b' o' hq).1, (hQ j b' o' hq).2.1, fun _ e2 => (hQ j b' o' hq).2.2 c (by rw [e, e2])⟩) hd hkids
/-- An object that has just begun. -/
theorem OI.begin {B c : Nat} (h0 : PS W W1 g co Bo n B1 n1) (h : NewV zc 86 W1 W2 g co B1 n1 B c) :
  OI W (((W2.setCell ⟨B, n1 * 5 + 4, none⟩ (.int .i64 1)).setCell ⟨B, n1 * 5, none⟩ (.slice none 0 0)).setCell ⟨B, n1 * 5 + 1, none⟩ (.bool false)) g co Bo n (some (B, c)) (n1 + 1) B (n1 * 5) none 0 [] [] [] := by
 obtain ⟨cur, hc, hcs⟩ := h.form
 have a0 := h0.new h
 have no : ∀ j, j < 5 → ¬ Old W g Bo (n * 5) B (n1 * 5 + j) := fun j hj ho => (h.old hj).1 (ho.step h0.lk h0.ch.size)
 have a1 := a0.write (no 4 (by omega)) (h.old (by omega)).2 hc (.int .i64 1)
 have c1 := Ch.set (o := n1 * 5 + 4) hc (.int .i64 1)
 obtain ⟨cur2, hc2, hs2⟩ := c1.form B (h.st.blt rfl) cur _ hc
 have a2 := a1.write (o := n1 * 5) (no 0 (by omega)) ((h.old (j := 0) (by omega)).2.step (Lk.refl _ _ _) c1.size) hc2 (.slice none 0 0)
 have c2 := Ch.set (o := n1 * 5) hc2 (.slice none 0 0)
 obtain ⟨cur3, hc3, hs3⟩ := c2.form B (Array.getElem?_eq_some_iff.1 hc2).1 cur2 _ hc2
 have a3 := a2.write (no 1 (by omega)) (((h.old (j := 1) (by omega)).2.step (Lk.refl _ _ _) c1.size).step (Lk.refl _ _ _) c2.size) hc3 (.bool false)
 have c3 := Ch.set (o := n1 * 5 + 1) hc3 (.bool false)
 obtain ⟨cur4, hc4, hs4⟩ := c3.form B (Array.getElem?_eq_some_iff.1 hc3).1 cur3 _ hc3
 have hz : (((W2.setCell ⟨B, n1 * 5 + 4, none⟩ (.int .i64 1)).setCell ⟨B, n1 * 5, none⟩ (.slice none 0 0)).setCell ⟨B, n1 * 5 + 1, none⟩ (.bool false)).cell? ⟨B, n1 * 5, none⟩ = some (.slice none 0 0) := by
  rw [cell_setCell hc3, if_neg (by omega), cell_setCell hc2, if_pos ⟨rfl, rfl, by rw [hs2]; exact hcs 0 (by omega)⟩]
 refine ⟨a3, no, fun j hj => (((h.old hj).2.step (Lk.refl _ _ _) c1.size).step (Lk.refl _ _ _) c2.size).step (Lk.refl _ _ _) c3.size, ⟨cur4, hc4, by have := hcs 4 (by omega); omega⟩, ?_, ?_, ⟨⟨cur4, _, hc4, ?_⟩, .inl ⟨rfl, rfl⟩⟩, fun K c e => (by cases e), rfl, Nat.le_refl _, Nat.le_refl _, fun j k hk => (by simp at hk), fun j k hk => (by simp at hk), Kids.nil _ _⟩
 ·rw [cell_setCell hc3, if_neg (by omega), cell_setCell hc2, if_neg (by omega), cell_setCell hc, if_pos ⟨rfl, rfl, hcs 4 (by omega)⟩]
 ·rw [cell_setCell hc3, if_pos ⟨rfl, rfl, by rw [hs3, hs2]; exact hcs 1 (by omega)⟩]
 rw [cell_of_row _ B _ cur4 _ (0, 0) hc4] at hz
 exact hz
end
end Go.Proofs.YtnajijaachgipaaDoor.H
end
section
namespace Go.Proofs.YtnajijaachgipaaDoor.PT
open Go.RowKit Go.Proofs.YtnajijaachgipaaDoorW.PrintWords Go.Proofs.YtnajijaachgipaaDoorW.PrintLast Go.Proofs.YtnajijaachgipaaDoorW.PrintMore Go.Proofs.YtnajijaachgipaaDoor.H
set_option linter.unusedVariables false
set_option linter.unusedSimpArgs false
namespace FJ
theorem key_ok {k : Nat} {s a b : ByteArray} (h : rk k s = some (a, b, none)) (w : World) : Calls Tryd.prog 95 #[.string s] w fun e w' => e = .returned (.tuple #[.string a, .string b, .nilIface]) ∧ Below w.heap.size w w' := by
 obtain ⟨q, hq, hx⟩ := Option.bind_eq_some_iff.mp h
 split at hx
 ·obtain rfl := Option.some.inj hx
  exact (fastjson_parseRawKey.calls k s a b none w hq).mono fun e w' ⟨_, _, he, hb⟩ => ⟨he, hb⟩
 cases hx
theorem key_err {k : Nat} {s a b : ByteArray} {x : Int} (h : rk k s = some (a, b, some x)) (w : World) : Calls Tryd.prog 95 #[.string s] w fun e w' => ∃ (et : Nat) (ep : Value), e = .returned (.tuple #[.string a, .string b, .iface et ep]) ∧ Below w.heap.size w w' := by
 obtain ⟨q, hq, hx⟩ := Option.bind_eq_some_iff.mp h
 split at hx
 ·obtain rfl := Option.some.inj hx
  exact (fastjson_parseRawKey.calls k s a b (some x) w hq).mono fun e w' ⟨et, ep, he, hb⟩ => ⟨et, ep, he, hb⟩
 cases hx
theorem rk_size {k : Nat} {s a b : ByteArray} {o : Option Int} (h : rk k s = some (a, b, o)) : b.size ≤ s.size := by
 obtain ⟨q, hq, hx⟩ := Option.bind_eq_some_iff.mp h
 split at hx
 ·rename_i hc; obtain rfl := Option.some.inj hx; exact hc
 cases hx
theorem newv_obj {W W1 : World} {g co n B c : Nat} {Bo : Option (Nat × Nat)} (h : NewV zc 86 W W1 g co Bo n B c) : W1.cell? ⟨B, n * 5 + 4, none⟩ = some (.int .i64 0) ∧ W1.frozen? ⟨B, n * 5 + 4, none⟩ = false ∧ W1.cell? ⟨B, n * 5, none⟩ = some (.slice none 0 0) ∧ W1.frozen? ⟨B, n * 5, none⟩ = false ∧ W1.cell? ⟨B, n * 5 + 1, none⟩ = some (.bool false) ∧ W1.frozen? ⟨B, n * 5 + 1, none⟩ = false ∧ B < W1.heap.size := by
 obtain ⟨cur, hc, _⟩ := h.form
 exact ⟨h.zero 4 _ rfl, by simp [World.frozen?, hc], h.zero 0 _ rfl, by simp [World.frozen?, hc], h.zero 1 _ rfl, by simp [World.frozen?, hc], h.st.blt rfl⟩
/-- Far cells stay behind one store. -/
theorem far_set {W : World} {b o p : Nat} {u x : Value} (hb : b < W.heap.size) (hop : p ≠ o) (hc : W.cell? ⟨b, p, none⟩ = some x) (hf : W.frozen? ⟨b, p, none⟩ = false) : (W.setCell ⟨b, o, none⟩ u).cell? ⟨b, p, none⟩ = some x ∧ (W.setCell ⟨b, o, none⟩ u).frozen? ⟨b, p, none⟩ = false := by
 cases hh : W.heap[b]? with
 | none => simp [World.cell?, hh] at hc
 | some ob =>
  cases ob with
  | cells cur ty fr =>
   have h2 := setRow_heap W b cur (cur.setIfInBounds o u) ty fr hh
   rw [setCell_eq_setRow W b o cur ty fr u hh]
   constructor
   ·rw [cell_of_row _ b p _ ty fr h2, Array.getElem?_setIfInBounds_ne (Ne.symm hop)]
    rw [cell_of_row W b p _ ty fr hh] at hc
    exact hc
   simp only [World.frozen?, hh] at hf
   simp only [World.frozen?, h2]
   exact hf
  | _ => simp [World.cell?, hh] at hc
set_option maxHeartbeats 2000000 in
set_option maxRecDepth 100000 in
theorem obj_empty (k : Nat) (s t : ByteArray) (d : Int) (hs : sk k s = some t) (h : t.size = 0) (W : World) (g co : Nat) (Bo : Option (Nat × Nat)) (n m : Nat) :
  Calls Tryd.prog 71 #[.pointer (some ⟨g, co, none⟩), .string s, .int .i64 d] W (Post W g co Bo n m none) := by
 have e0 : ((t.size : Int) == 0) = true := beq_iff_eq.2 (by omega)
 have HS := Aside0.mk hs
 clear hs
 go_enter Tryd.func71, Tryd.ntmps71
 go_wp2_with (first
  | (go_at_call 47; with_reducible refine (sk_calls HS.out _).mono ?_; rintro e w1 ⟨rfl, m1, rfl⟩; have HB := Aside0.mk (drN W m1))
  | (go_at_call 41; refine (errNew _ _).mono ?_; rintro e w2 ⟨et, ep, rfl, hb⟩))
 go_ret3
 exact Post.err (Ch.of_below (HB.out.trans (hb.mono HB.out.size)) _)
set_option maxHeartbeats 2000000 in
set_option maxRecDepth 100000 in
theorem obj_nil (k : Nat) (s t : ByteArray) (d : Int) (hs : sk k s = some t) (h : t.size ≠ 0) (hc : bt t 0 = 125) (W : World) (g co : Nat) (Bo : Option (Nat × Nat)) (n : Nat) (hC : CS zc 86 W g co Bo n) (hn : n ≤ 200000) :
  Calls Tryd.prog 71 #[.pointer (some ⟨g, co, none⟩), .string s, .int .i64 d] W (Post W g co Bo n (n + s.size + 1) (some (.mk 1 ByteArray.empty [] [], rest t 1))) := by
 obtain ⟨e0, e1, e2, e3, e4⟩ := nul h
 have k1 : (bt t 0 == 125) = true := beq_iff_eq.2 hc
 have hcs := cutr t 1 1 rfl (by omega)
 have hsz : n + 1 + (rest t 1).size ≤ n + s.size + 1 := by have := sk_size hs; rw [size_rest]; omega
 have HZ := Aside0.mk hsz
 have HS := Aside0.mk hs
 have HC := Aside0.mk hC
 have HN : Aside0 (n ≤ 1000000) := ⟨by omega⟩
 clear hs hC hc hn hsz
 obtain ⟨q, hq⟩ : ∃ q, q = n * 5 := ⟨_, rfl⟩
 have HQ := Aside0.mk hq
 clear hq
 go_enter Tryd.func71, Tryd.ntmps71
 go_wp2_with (first
  | (go_at_call 47; with_reducible refine (sk_calls HS.out _).mono ?_; rintro e w1 ⟨rfl, m1, rfl⟩; have HP := Aside0.mk ((PS.refl HC.out).below (drN W m1)))
  | (go_at_call 39; refine (getV g co n Bo _ HP.out.cs HN.out).mono ?_; rintro e w2 ⟨B, c, rfl, hv⟩; have HV := Aside0.mk hv; obtain ⟨c4, f4, c0, f0, c1, f1, hlt⟩ := newv_obj hv; clear hv; rw [← HQ.out] at c4 f4 c0 f0 c1 f1 ⊢)
  | (go_at_call 93; refine (objReset B q _ (by simpa using hlt) (far_set hlt (by omega) c0 f0).1 (far_set hlt (by omega) c0 f0).2 (far_set hlt (by omega) c1 f1).1 (far_set hlt (by omega) c1 f1).2).mono ?_; rintro e w3 ⟨rfl, rfl⟩))
 go_quiet (fail)
 go_wp2
 go_ret3
 have ha := (OI.begin HP.out HV.out).below (drN _ nq)
 rw [← HQ.out] at ha
 exact ⟨B, q, _, _, rfl, ha.st, HZ.out, ha.done rfl⟩
structure LO (W wr : World) (g co : Nat) (Bo : Option (Nat × Nat)) (n ba oa m : Nat) (d : Int) (r : Res) (K kq : Nat) (s : ByteArray) (B1 : Option (Nat × Nat)) (n1 : Nat) (Ko : Option (Nat × Nat)) (ks : List ByteArray) (ps : List (Nat × Nat)) (ts : List FT) : Prop where
 oi : OI W wr g co Bo n B1 n1 ba oa Ko ts.length ks ps ts
 kn : ks.length = ts.length
 go : pOl kq s d ks ts = some r
 sz : n1 + s.size ≤ m
 le : kq ≤ K
 ln : ts.length + s.size ≤ m
set_option maxHeartbeats 4000000 in
set_option maxRecDepth 100000 in
theorem obj_loop (k K : Nat) (V : ∀ j, j < K → VC j) (s t : ByteArray) (d : Int) (hd0 : 1 ≤ d) (hd1 : d ≤ 300) (hs : sk k s = some t) (h : t.size ≠ 0) (hc : ¬ bt t 0 = 125) (r : Res) (hr : pOl K t d [] [] = some r) (W : World) (g co : Nat) (Bo : Option (Nat × Nat)) (n : Nat) (hC : CS zc 86 W g co Bo n) (hn : n + s.size + 1 ≤ 200000) :
  Calls Tryd.prog 71 #[.pointer (some ⟨g, co, none⟩), .string s, .int .i64 d] W (Post W g co Bo n (n + s.size + 1) r) := by
 obtain ⟨e0, e1, e2, e3, e4⟩ := nul h
 have k1 : (bt t 0 == 125) = false := beq_eq_false_iff_ne.2 hc
 have hsz : n + 1 + t.size ≤ n + s.size + 1 := by have := sk_size hs; omega
 obtain ⟨m, hm⟩ : ∃ m, m = n + s.size + 1 := ⟨_, rfl⟩
 rw [← hm]
 rw [← hm] at hsz
 have HM : Aside0 (m ≤ 200000) := ⟨by omega⟩
 have HZ := Aside0.mk hsz
 have HS := Aside0.mk hs
 have HC := Aside0.mk hC
 have HN : Aside0 (n ≤ 1000000) := ⟨by omega⟩
 have HR := Aside0.mk hr
 have HV := Aside0.mk V
 have HD : Aside0 (0 ≤ d ∧ d ≤ 300) := ⟨by omega⟩
 clear hs hC hc hn hsz hr V hd0 hd1 hm
 obtain ⟨q, hq⟩ : ∃ q, q = n * 5 := ⟨_, rfl⟩
 have HQ := Aside0.mk hq
 clear hq
 go_enter Tryd.func71, Tryd.ntmps71
 go_wp2_with (first
  | (go_at_call 47; with_reducible refine (sk_calls HS.out _).mono ?_; rintro e w1 ⟨rfl, m1, rfl⟩; have HP := Aside0.mk ((PS.refl HC.out).below (drN W m1)))
  | (go_at_call 39; refine (getV g co n Bo _ HP.out.cs HN.out).mono ?_; rintro e w2 ⟨B, c, rfl, hv⟩; have HW := Aside0.mk hv; obtain ⟨c4, f4, c0, f0, c1, f1, hlt⟩ := newv_obj hv; clear hv; rw [← HQ.out] at c4 f4 c0 f0 c1 f1 ⊢)
  | (go_at_call 93; refine (objReset B q _ (by simpa using hlt) (far_set hlt (by omega) c0 f0).1 (far_set hlt (by omega) c0 f0).2 (far_set hlt (by omega) c1 f1).1 (far_set hlt (by omega) c1 f1).2).mono ?_; rintro e w3 ⟨rfl, rfl⟩))
 have ha := OI.begin HP.out HW.out
 rw [← HQ.out] at ha
 have HL := Aside0.mk (show LO W _ g co Bo n B q m d r K K t (some (B, c)) (n + 1) none [] [] [] from ⟨ha, rfl, HR.out, HZ.out, Nat.le_refl _, by have := HZ.out; simp; omega⟩)
 clear ha c4 f4 c0 f0 c1 f1 HP HW HR HS
 go_loopg [1] K (fun kq v1 wr => ∃ (s' : ByteArray) (B1 : Option (Nat × Nat)) (n1 : Nat) (Ko : Option (Nat × Nat)) (ks : List ByteArray) (ps : List (Nat × Nat)) (ts : List FT), v1 = .string s' ∧ Aside0 (LO W wr g co Bo n B q m d r K kq s' B1 n1 Ko ks ps ts))
 case atStart => exact ⟨t, _, _, _, _, _, _, rfl, HL⟩
 case round =>
  clear HL
  obtain ⟨s', B1, n1, Ko, ks, ps, ts, rfl, HL⟩ := hrel
  obtain ⟨hoi, hkn, hgo, hsz, hle, hln⟩ := HL.out
  clear HL
  cases gk with
  | zero => cases hgo
  | succ j =>
  unfold pOl at hgo
  obtain ⟨s1, h1, hx⟩ := Option.bind_eq_some_iff.mp hgo
  have HA := Aside0.mk hoi
  have H1 := Aside0.mk h1
  have htl : ts.length ≤ 1000000 := by have := HM.out; omega
  obtain ⟨z, hz⟩ : ∃ z, z = ts.length * 2 := ⟨_, rfl⟩
  have HZ2 := Aside0.mk hz
  clear hoi hgo hz
  by_cases y0 : s1.size = 0
  ·rw [if_pos y0] at hx
   obtain rfl := Option.some.inj hx
   have y1 : ((s1.size : Int) == 0) = true := beq_iff_eq.2 (by omega)
   clear hx y0
   go_wp2_with (first
    | (go_at_call 94; refine (getK B q ts.length Ko _ HA.out.kv htl).mono ?_; rintro e w3 ⟨K2, c2, rfl, hv⟩; have HA1 := Aside0.mk (HA.out.room hv); clear hv; rw [← HZ2.out])
    | (go_at_call 47; with_reducible refine (sk_calls H1.out _).mono ?_; rintro e w4 ⟨rfl, m2, rfl⟩; have HA2 := Aside0.mk (HA1.out.below (drN _ m2)))
    | (go_at_call 41; refine (errNew _ _).mono ?_; rintro e w7 ⟨et, ep, rfl, hb7⟩))
   go_ret3
   exact Post.err (HA2.out.st.ch.comp (Ch.of_below hb7 (fun _ _ => False)) (fun _ _ _ h => h.elim))
  rw [if_neg y0] at hx
  obtain ⟨y1, y2, y3, y4, y5⟩ := nul y0
  have hcs := cutr s1 1 1 rfl (by omega)
  by_cases y6 : bt s1 0 = 34
  rotate_left
  ·rw [if_neg y6] at hx
   obtain rfl := Option.some.inj hx
   have y7 : (bt s1 0 == 34) = false := beq_eq_false_iff_ne.2 y6
   clear hx y6 y0
   go_wp2_with (first
    | (go_at_call 94; refine (getK B q ts.length Ko _ HA.out.kv htl).mono ?_; rintro e w3 ⟨K2, c2, rfl, hv⟩; have HA1 := Aside0.mk (HA.out.room hv); clear hv; rw [← HZ2.out])
    | (go_at_call 47; with_reducible refine (sk_calls H1.out _).mono ?_; rintro e w4 ⟨rfl, m2, rfl⟩; have HA2 := Aside0.mk (HA1.out.below (drN _ m2)))
    | (go_at_call 41; refine (errNew _ _).mono ?_; rintro e w7 ⟨et, ep, rfl, hb7⟩))
   go_ret3
   exact Post.err (HA2.out.st.ch.comp (Ch.of_below hb7 (fun _ _ => False)) (fun _ _ _ h => h.elim))
  rw [if_pos y6] at hx
  have y7 : (bt s1 0 == 34) = true := beq_iff_eq.2 y6
  obtain ⟨⟨ka, kb, ko⟩, h2, hx⟩ := Option.bind_eq_some_iff.mp hx
  have H2 := Aside0.mk h2
  have HKN := Aside0.mk hkn
  clear h2 y6 hkn
  cases ko with
  | some xe =>
   have hx2 : some none = some r := hx
   obtain rfl := Option.some.inj hx2
   clear hx hx2
   go_wp2_with (first
    | (go_at_call 94; refine (getK B q ts.length Ko _ HA.out.kv htl).mono ?_; rintro e w3 ⟨K2, c2, rfl, hv⟩; have HA1 := Aside0.mk (HA.out.room hv); clear hv; rw [← HZ2.out])
    | (go_at_call 47; with_reducible refine (sk_calls H1.out _).mono ?_; rintro e w4 ⟨rfl, m2, rfl⟩; have HA2 := Aside0.mk (HA1.out.below (drN _ m2)))
    | (go_at_call 95; refine (key_err H2.out _).mono ?_; rintro e w5 ⟨et5, ep5, rfl, hb5⟩; have HA3 := Aside0.mk (HA2.out.below hb5); obtain ⟨⟨x0, c0⟩, f0, hlt2⟩ := HA3.out.kat (o := z) (by have := HZ2.out; omega); have HA4 := Aside0.mk (HA3.out.put (o := z) (u := .string ka) (by have := HZ2.out; omega) (fun i hi => by have := HZ2.out; have := HKN.out; omega) (fun i hi => by have := HZ2.out; omega)); clear hb5)
    | (go_at_call 41; refine (errNew _ _).mono ?_; rintro e w7 ⟨et, ep, rfl, hb7⟩))
   go_ret3
   exact Post.err (HA4.out.1.st.ch.comp (Ch.of_below hb7 (fun _ _ => False)) (fun _ _ _ h => h.elim))
  | none =>
  simp only [Option.isSome_none, Bool.false_eq_true, if_false] at hx
  obtain ⟨s2, h3, hx⟩ := Option.bind_eq_some_iff.mp hx
  have H3 := Aside0.mk h3
  have hs2 := sk_size h3
  have hs1 := sk_size h1
  have hkb := rk_size H2.out
  rw [size_rest] at hkb
  clear h3 h1
  by_cases z0 : s2.size = 0
  ·rw [if_pos z0] at hx
   obtain rfl := Option.some.inj hx
   have z1 : ((s2.size : Int) == 0) = true := beq_iff_eq.2 (by omega)
   clear hx z0
   go_wp2_with (first
    | (go_at_call 94; refine (getK B q ts.length Ko _ HA.out.kv htl).mono ?_; rintro e w3 ⟨K2, c2, rfl, hv⟩; have HA1 := Aside0.mk (HA.out.room hv); clear hv; rw [← HZ2.out])
    | (go_at_call 47; with_reducible refine (sk_calls H1.out _).mono ?_; rintro e w4 ⟨rfl, m2, rfl⟩; have HA2 := Aside0.mk (HA1.out.below (drN _ m2)))
    | (go_at_call 95; refine (key_ok H2.out _).mono ?_; rintro e w5 ⟨rfl, hb5⟩; have HA3 := Aside0.mk (HA2.out.below hb5); obtain ⟨⟨x0, c0⟩, f0, hlt2⟩ := HA3.out.kat (o := z) (by have := HZ2.out; omega); have HA4 := Aside0.mk (by have hh := HA3.out.key (k := ka) HKN.out rfl; rw [← HZ2.out] at hh; exact hh); clear hb5)
    | (go_at_call 47; with_reducible refine (sk_calls H3.out _).mono ?_; rintro e w6 ⟨rfl, m3, rfl⟩; have HA5 := Aside0.mk (HA4.out.below (drN _ m3)))
    | (go_at_call 41; refine (errNew _ _).mono ?_; rintro e w7 ⟨et, ep, rfl, hb7⟩))
   go_ret3
   exact Post.err (HA5.out.st.ch.comp (Ch.of_below hb7 (fun _ _ => False)) (fun _ _ _ h => h.elim))
  rw [if_neg z0] at hx
  obtain ⟨z1, z2, z3, z4, z5⟩ := nul z0
  have hcs2 := cutr s2 1 1 rfl (by omega)
  by_cases z6 : bt s2 0 = 58
  rotate_left
  ·rw [if_neg z6] at hx
   obtain rfl := Option.some.inj hx
   have z7 : (bt s2 0 == 58) = false := beq_eq_false_iff_ne.2 z6
   clear hx z6 z0
   go_wp2_with (first
    | (go_at_call 94; refine (getK B q ts.length Ko _ HA.out.kv htl).mono ?_; rintro e w3 ⟨K2, c2, rfl, hv⟩; have HA1 := Aside0.mk (HA.out.room hv); clear hv; rw [← HZ2.out])
    | (go_at_call 47; with_reducible refine (sk_calls H1.out _).mono ?_; rintro e w4 ⟨rfl, m2, rfl⟩; have HA2 := Aside0.mk (HA1.out.below (drN _ m2)))
    | (go_at_call 95; refine (key_ok H2.out _).mono ?_; rintro e w5 ⟨rfl, hb5⟩; have HA3 := Aside0.mk (HA2.out.below hb5); obtain ⟨⟨x0, c0⟩, f0, hlt2⟩ := HA3.out.kat (o := z) (by have := HZ2.out; omega); have HA4 := Aside0.mk (by have hh := HA3.out.key (k := ka) HKN.out rfl; rw [← HZ2.out] at hh; exact hh); clear hb5)
    | (go_at_call 47; with_reducible refine (sk_calls H3.out _).mono ?_; rintro e w6 ⟨rfl, m3, rfl⟩; have HA5 := Aside0.mk (HA4.out.below (drN _ m3)))
    | (go_at_call 41; refine (errNew _ _).mono ?_; rintro e w7 ⟨et, ep, rfl, hb7⟩))
   go_ret3
   exact Post.err (HA5.out.st.ch.comp (Ch.of_below hb7 (fun _ _ => False)) (fun _ _ _ h => h.elim))
  rw [if_pos z6] at hx
  have z7 : (bt s2 0 == 58) = true := beq_iff_eq.2 z6
  obtain ⟨s3, h4, hx⟩ := Option.bind_eq_some_iff.mp hx
  obtain ⟨zz, h5, hx⟩ := Option.bind_eq_some_iff.mp hx
  have H4 := Aside0.mk h4
  have hs3 := sk_size h4
  rw [size_rest] at hs3
  have HVC := Aside0.mk (fun W' B1 n1 hC hn => HV.out j (by omega) s3 d zz h5 HD.out.1 HD.out.2 W' g co B1 n1 hC hn)
  have hn1 : n1 + s3.size ≤ 200000 := by have := HM.out; omega
  clear h4 h5 z6
  cases zz with
  | none =>
   obtain rfl := Option.some.inj hx
   clear hx z0 hs3 hs2 hs1 hkb hsz hln
   go_wp2_with (first
    | (go_at_call 94; refine (getK B q ts.length Ko _ HA.out.kv htl).mono ?_; rintro e w3 ⟨K2, c2, rfl, hv⟩; have HA1 := Aside0.mk (HA.out.room hv); clear hv; rw [← HZ2.out])
    | (go_at_call 47; with_reducible refine (sk_calls H1.out _).mono ?_; rintro e w4 ⟨rfl, m2, rfl⟩; have HA2 := Aside0.mk (HA1.out.below (drN _ m2)))
    | (go_at_call 95; refine (key_ok H2.out _).mono ?_; rintro e w5 ⟨rfl, hb5⟩; have HA3 := Aside0.mk (HA2.out.below hb5); obtain ⟨⟨x0, c0⟩, f0, hlt2⟩ := HA3.out.kat (o := z) (by have := HZ2.out; omega); have HA4 := Aside0.mk (by have hh := HA3.out.key (k := ka) HKN.out rfl; rw [← HZ2.out] at hh; exact hh); clear hb5)
    | (go_at_call 47; with_reducible refine (sk_calls H3.out _).mono ?_; rintro e w6 ⟨rfl, m3, rfl⟩; have HA5 := Aside0.mk (HA4.out.below (drN _ m3)); clear c0 f0 hlt2)
    | (go_at_call 47; with_reducible refine (sk_calls H4.out _).mono ?_; rintro e w8 ⟨rfl, m4, rfl⟩; have HA6 := Aside0.mk (by have hh := HA5.out.below (drN _ m4); rw [World.drewN_drewN] at hh; exact hh))
    | (go_at_call 49; refine (HVC.out _ _ _ HA6.out.st.cs hn1).mono ?_; rintro e w9 ⟨t1, et9, ep9, rfl, hch⟩; obtain ⟨⟨x1, c1⟩, f1, hlt3, hset⟩ := HA6.out.kfar (o := z + 1) (by have := HZ2.out; omega) hch; have HB := Aside0.mk (hset (.pointer none)); clear hch hset)
    | (go_at_call 41; refine (errNew _ _).mono ?_; rintro e w7 ⟨et, ep, rfl, hb7⟩))
   go_ret3
   exact Post.err (HB.out.comp (Ch.of_below hb7 (fun _ _ => False)) (fun _ _ _ h => h.elim))
  | some x =>
   obtain ⟨tx, sx⟩ := x
   obtain ⟨s4, h6, hx⟩ := Option.bind_eq_some_iff.mp hx
   have H6 := Aside0.mk h6
   have hs4 := sk_size h6
   have HZZ : Aside0 (s4.size ≤ sx.size ∧ s3.size ≤ s2.size - 1 ∧ s2.size ≤ kb.size ∧ kb.size ≤ s1.size - 1 ∧ s1.size ≤ s'.size ∧ n1 + s'.size ≤ m ∧ ts.length + s'.size ≤ m ∧ j + 1 ≤ K ∧ s1.size ≠ 0) := ⟨hs4, hs3, hs2, hkb, hs1, hsz, hln, hle, y0⟩
   have hl1 : (ts ++ [tx]).length = ts.length + 1 := by simp
   have hk1 : (ks ++ [ka]).length = (ts ++ [tx]).length := by have := HKN.out; simp [this]
   have HL1 := Aside0.mk hl1
   have HK1 := Aside0.mk hk1
   clear h6 hs4 hs3 hs2 hkb hs1 hsz hln hle z0 y0 hl1 hk1
   by_cases v0 : s4.size = 0
   ·rw [if_pos v0] at hx
    obtain rfl := Option.some.inj hx
    have v1 : ((s4.size : Int) == 0) = true := beq_iff_eq.2 (by omega)
    clear hx v0
    go_wp2_with (first
     | (go_at_call 94; refine (getK B q ts.length Ko _ HA.out.kv htl).mono ?_; rintro e w3 ⟨K2, c2, rfl, hv⟩; have HA1 := Aside0.mk (HA.out.room hv); clear hv; rw [← HZ2.out])
     | (go_at_call 47; with_reducible refine (sk_calls H1.out _).mono ?_; rintro e w4 ⟨rfl, m2, rfl⟩; have HA2 := Aside0.mk (HA1.out.below (drN _ m2)))
     | (go_at_call 95; refine (key_ok H2.out _).mono ?_; rintro e w5 ⟨rfl, hb5⟩; have HA3 := Aside0.mk (HA2.out.below hb5); obtain ⟨⟨x0, c0⟩, f0, hlt2⟩ := HA3.out.kat (o := z) (by have := HZ2.out; omega); have HA4 := Aside0.mk (by have hh := HA3.out.key (k := ka) HKN.out rfl; rw [← HZ2.out] at hh; exact hh); clear hb5)
     | (go_at_call 47; with_reducible refine (sk_calls H3.out _).mono ?_; rintro e w6 ⟨rfl, m3, rfl⟩; have HA5 := Aside0.mk (HA4.out.below (drN _ m3)); clear c0 f0 hlt2)
     | (go_at_call 47; with_reducible refine (sk_calls H4.out _).mono ?_; rintro e w8 ⟨rfl, m4, rfl⟩; have HA6 := Aside0.mk (by have hh := HA5.out.below (drN _ m4); rw [World.drewN_drewN] at hh; exact hh))
     | (go_at_call 49; refine (HVC.out _ _ _ HA6.out.st.cs hn1).mono ?_; rintro e w9 ⟨b, o, B2, n2, rfl, hps, hsz2, hlies⟩; have HA7 := Aside0.mk (HA6.out.child hps hlies); have HS7 : Aside0 (n2 + sx.size ≤ n1 + s3.size ∧ n1 ≤ n2) := ⟨hsz2, (by have := hps.lk.1; omega)⟩; obtain ⟨⟨x1, c1⟩, f1, hlt3⟩ := HA7.out.1.kat (o := z + 1) (by have := HZ2.out; omega); have HA8 := Aside0.mk (by have hh := HA7.out.1.val rfl HA7.out.2; rw [← HZ2.out] at hh; simp only [ptr] at hh; exact hh); clear hps hsz2 hlies)
     | (go_at_call 47; with_reducible refine (sk_calls H6.out _).mono ?_; rintro e w10 ⟨rfl, m5, rfl⟩; have HA9 := Aside0.mk (HA8.out.below (drN _ m5)))
     | (go_at_call 41; refine (errNew _ _).mono ?_; rintro e w7 ⟨et, ep, rfl, hb7⟩))
    go_ret3
    exact Post.err (HA9.out.st.ch.comp (Ch.of_below hb7 (fun _ _ => False)) (fun _ _ _ h => h.elim))
   rw [if_neg v0] at hx
   obtain ⟨v1, v2, v3, v4, v5⟩ := nul v0
   have hcs3 := cutr s4 1 1 rfl (by omega)
   by_cases v6 : bt s4 0 = 44
   ·rw [if_pos v6] at hx
    have v7 : (bt s4 0 == 44) = true := beq_iff_eq.2 v6
    have HX := Aside0.mk hx
    have V0 := Aside0.mk v0
    clear hx v6 v0
    go_wp2_with (first
     | (go_at_call 94; refine (getK B q ts.length Ko _ HA.out.kv htl).mono ?_; rintro e w3 ⟨K2, c2, rfl, hv⟩; have HA1 := Aside0.mk (HA.out.room hv); clear hv; rw [← HZ2.out])
     | (go_at_call 47; with_reducible refine (sk_calls H1.out _).mono ?_; rintro e w4 ⟨rfl, m2, rfl⟩; have HA2 := Aside0.mk (HA1.out.below (drN _ m2)))
     | (go_at_call 95; refine (key_ok H2.out _).mono ?_; rintro e w5 ⟨rfl, hb5⟩; have HA3 := Aside0.mk (HA2.out.below hb5); obtain ⟨⟨x0, c0⟩, f0, hlt2⟩ := HA3.out.kat (o := z) (by have := HZ2.out; omega); have HA4 := Aside0.mk (by have hh := HA3.out.key (k := ka) HKN.out rfl; rw [← HZ2.out] at hh; exact hh); clear hb5)
     | (go_at_call 47; with_reducible refine (sk_calls H3.out _).mono ?_; rintro e w6 ⟨rfl, m3, rfl⟩; have HA5 := Aside0.mk (HA4.out.below (drN _ m3)); clear c0 f0 hlt2)
     | (go_at_call 47; with_reducible refine (sk_calls H4.out _).mono ?_; rintro e w8 ⟨rfl, m4, rfl⟩; have HA6 := Aside0.mk (by have hh := HA5.out.below (drN _ m4); rw [World.drewN_drewN] at hh; exact hh))
     | (go_at_call 49; refine (HVC.out _ _ _ HA6.out.st.cs hn1).mono ?_; rintro e w9 ⟨b, o, B2, n2, rfl, hps, hsz2, hlies⟩; have HA7 := Aside0.mk (HA6.out.child hps hlies); have HS7 : Aside0 (n2 + sx.size ≤ n1 + s3.size ∧ n1 ≤ n2) := ⟨hsz2, (by have := hps.lk.1; omega)⟩; obtain ⟨⟨x1, c1⟩, f1, hlt3⟩ := HA7.out.1.kat (o := z + 1) (by have := HZ2.out; omega); have HA8 := Aside0.mk (by have hh := HA7.out.1.val rfl HA7.out.2; rw [← HZ2.out] at hh; simp only [ptr] at hh; exact hh); clear hps hsz2 hlies)
     | (go_at_call 47; with_reducible refine (sk_calls H6.out _).mono ?_; rintro e w10 ⟨rfl, m5, rfl⟩; have HA9 := Aside0.mk (HA8.out.below (drN _ m5)))
     | (go_at_call 41; refine (errNew _ _).mono ?_; rintro e w7 ⟨et, ep, rfl, hb7⟩))
    go_roundg j
    case measure => omega
    case rel =>
     refine ⟨rest s4 1, B2, n2, some (K2, c2), ks ++ [ka], ps ++ [(b, o)], ts ++ [tx], rfl, ⟨⟨?_, HK1.out, HX.out, ?_, ?_, ?_⟩⟩⟩
     ·rw [HL1.out]
      exact HA9.out
     ·have := HZZ.out; have := HS7.out; rw [size_rest]; omega
     ·have := HZZ.out; omega
     have := HZZ.out; have := HS7.out; have := V0.out; rw [size_rest, HL1.out]; omega
   rw [if_neg v6] at hx
   have v7 : (bt s4 0 == 44) = false := beq_eq_false_iff_ne.2 v6
   by_cases v8 : bt s4 0 = 125
   ·rw [if_pos v8] at hx
    obtain rfl := Option.some.inj hx
    have v9 : (bt s4 0 == 125) = true := beq_iff_eq.2 v8
    clear hx v6 v8 v0
    go_wp2_with (first
     | (go_at_call 94; refine (getK B q ts.length Ko _ HA.out.kv htl).mono ?_; rintro e w3 ⟨K2, c2, rfl, hv⟩; have HA1 := Aside0.mk (HA.out.room hv); clear hv; rw [← HZ2.out])
     | (go_at_call 47; with_reducible refine (sk_calls H1.out _).mono ?_; rintro e w4 ⟨rfl, m2, rfl⟩; have HA2 := Aside0.mk (HA1.out.below (drN _ m2)))
     | (go_at_call 95; refine (key_ok H2.out _).mono ?_; rintro e w5 ⟨rfl, hb5⟩; have HA3 := Aside0.mk (HA2.out.below hb5); obtain ⟨⟨x0, c0⟩, f0, hlt2⟩ := HA3.out.kat (o := z) (by have := HZ2.out; omega); have HA4 := Aside0.mk (by have hh := HA3.out.key (k := ka) HKN.out rfl; rw [← HZ2.out] at hh; exact hh); clear hb5)
     | (go_at_call 47; with_reducible refine (sk_calls H3.out _).mono ?_; rintro e w6 ⟨rfl, m3, rfl⟩; have HA5 := Aside0.mk (HA4.out.below (drN _ m3)); clear c0 f0 hlt2)
     | (go_at_call 47; with_reducible refine (sk_calls H4.out _).mono ?_; rintro e w8 ⟨rfl, m4, rfl⟩; have HA6 := Aside0.mk (by have hh := HA5.out.below (drN _ m4); rw [World.drewN_drewN] at hh; exact hh))
     | (go_at_call 49; refine (HVC.out _ _ _ HA6.out.st.cs hn1).mono ?_; rintro e w9 ⟨b, o, B2, n2, rfl, hps, hsz2, hlies⟩; have HA7 := Aside0.mk (HA6.out.child hps hlies); have HS7 : Aside0 (n2 + sx.size ≤ n1 + s3.size ∧ n1 ≤ n2) := ⟨hsz2, (by have := hps.lk.1; omega)⟩; obtain ⟨⟨x1, c1⟩, f1, hlt3⟩ := HA7.out.1.kat (o := z + 1) (by have := HZ2.out; omega); have HA8 := Aside0.mk (by have hh := HA7.out.1.val rfl HA7.out.2; rw [← HZ2.out] at hh; simp only [ptr] at hh; exact hh); clear hps hsz2 hlies)
     | (go_at_call 47; with_reducible refine (sk_calls H6.out _).mono ?_; rintro e w10 ⟨rfl, m5, rfl⟩; have HA9 := Aside0.mk (HA8.out.below (drN _ m5)))
     | (go_at_call 41; refine (errNew _ _).mono ?_; rintro e w7 ⟨et, ep, rfl, hb7⟩))
    go_quiet (fail)
    go_wp2
    go_ret3
    have hf := HA9.out.below (drN _ nq)
    rw [← HL1.out] at hf
    exact ⟨B, q, _, _, rfl, hf.st, (by have := HZZ.out; have := HS7.out; show _ + (rest s4 1).size ≤ _; rw [size_rest]; omega), hf.done HK1.out⟩
   rw [if_neg v8] at hx
   obtain rfl := Option.some.inj hx
   have v9 : (bt s4 0 == 125) = false := beq_eq_false_iff_ne.2 v8
   clear hx v6 v8 v0
   go_wp2_with (first
    | (go_at_call 94; refine (getK B q ts.length Ko _ HA.out.kv htl).mono ?_; rintro e w3 ⟨K2, c2, rfl, hv⟩; have HA1 := Aside0.mk (HA.out.room hv); clear hv; rw [← HZ2.out])
    | (go_at_call 47; with_reducible refine (sk_calls H1.out _).mono ?_; rintro e w4 ⟨rfl, m2, rfl⟩; have HA2 := Aside0.mk (HA1.out.below (drN _ m2)))
    | (go_at_call 95; refine (key_ok H2.out _).mono ?_; rintro e w5 ⟨rfl, hb5⟩; have HA3 := Aside0.mk (HA2.out.below hb5); obtain ⟨⟨x0, c0⟩, f0, hlt2⟩ := HA3.out.kat (o := z) (by have := HZ2.out; omega); have HA4 := Aside0.mk (by have hh := HA3.out.key (k := ka) HKN.out rfl; rw [← HZ2.out] at hh; exact hh); clear hb5)
    | (go_at_call 47; with_reducible refine (sk_calls H3.out _).mono ?_; rintro e w6 ⟨rfl, m3, rfl⟩; have HA5 := Aside0.mk (HA4.out.below (drN _ m3)); clear c0 f0 hlt2)
    | (go_at_call 47; with_reducible refine (sk_calls H4.out _).mono ?_; rintro e w8 ⟨rfl, m4, rfl⟩; have HA6 := Aside0.mk (by have hh := HA5.out.below (drN _ m4); rw [World.drewN_drewN] at hh; exact hh))
    | (go_at_call 49; refine (HVC.out _ _ _ HA6.out.st.cs hn1).mono ?_; rintro e w9 ⟨b, o, B2, n2, rfl, hps, hsz2, hlies⟩; have HA7 := Aside0.mk (HA6.out.child hps hlies); have HS7 : Aside0 (n2 + sx.size ≤ n1 + s3.size ∧ n1 ≤ n2) := ⟨hsz2, (by have := hps.lk.1; omega)⟩; obtain ⟨⟨x1, c1⟩, f1, hlt3⟩ := HA7.out.1.kat (o := z + 1) (by have := HZ2.out; omega); have HA8 := Aside0.mk (by have hh := HA7.out.1.val rfl HA7.out.2; rw [← HZ2.out] at hh; simp only [ptr] at hh; exact hh); clear hps hsz2 hlies)
    | (go_at_call 47; with_reducible refine (sk_calls H6.out _).mono ?_; rintro e w10 ⟨rfl, m5, rfl⟩; have HA9 := Aside0.mk (HA8.out.below (drN _ m5)))
    | (go_at_call 41; refine (errNew _ _).mono ?_; rintro e w7 ⟨et, ep, rfl, hb7⟩))
   go_ret3
   exact Post.err (HA9.out.st.ch.comp (Ch.of_below hb7 (fun _ _ => False)) (fun _ _ _ h => h.elim))
theorem obj_all (k : Nat) (V : ∀ j, j < k → VC j) : OC k := by
 intro s d r h hd0 hd1 W g co Bo n hC hn
 cases k with
 | zero => cases h
 | succ k =>
 unfold pO at h
 obtain ⟨t, hs, hx⟩ := Option.bind_eq_some_iff.mp h
 by_cases y0 : t.size = 0
 ·rw [if_pos y0] at hx
  obtain rfl := Option.some.inj hx
  exact obj_empty k s t d hs y0 W g co Bo n _
 rw [if_neg y0] at hx
 by_cases y1 : bt t 0 = 125
 ·rw [if_pos y1] at hx
  obtain rfl := Option.some.inj hx
  exact obj_nil k s t d hs y0 y1 W g co Bo n hC (by omega)
 rw [if_neg y1] at hx
 exact obj_loop k k (fun j hj => V j (by omega)) s t d hd0 hd1 hs y0 y1 r hx W g co Bo n hC hn
/-- The parser's contracts, for all rounds. -/
theorem all_vc (k : Nat) : VC k := by
 induction k using Nat.strongRecOn with
 | ind k ih =>
  cases k with
  | zero => intro s d r h; cases h
  | succ k => exact val_step k (arr_all k (fun j hj => ih j (by omega))) (obj_all k (fun j hj => ih j (by omega)))
end FJ
end Go.Proofs.YtnajijaachgipaaDoor.PT
end
section
namespace Go.Proofs.YtnajijaachgipaaDoor.PT
open Go.RowKit Go.Proofs.YtnajijaachgipaaDoorW.PrintWords Go.Proofs.YtnajijaachgipaaDoorW.PrintLast Go.Proofs.YtnajijaachgipaaDoorW.PrintMore Go.Proofs.YtnajijaachgipaaDoor.H
set_option linter.unusedVariables false
set_option linter.unusedSimpArgs false
namespace FJ
/-! ### more rounds -/
theorem sk_mono (k : Nat) (s : ByteArray) : LeO (sk k s) (sk (k + 1) s) := LeO.bind (fastjson_skipWS.mono s k) fun _ => LeO.refl _
theorem rs_mono (k : Nat) (s : ByteArray) : LeO (rs k s) (rs (k + 1) s) := LeO.bind (fastjson_parseRawString.mono s k) fun _ => LeO.refl _
theorem rk_mono (k : Nat) (s : ByteArray) : LeO (rk k s) (rk (k + 1) s) := LeO.bind (fastjson_parseRawKey.mono s k) fun _ => LeO.refl _
theorem rn_mono (k : Nat) (s : ByteArray) : LeO (rn k s) (rn (k + 1) s) := LeO.bind (fastjson_parseRawNumber.mono s k) fun _ => LeO.refl _
theorem word_mono {s : ByteArray} {w : List UInt8} {n : Int} {a b : Option Res} (h : LeO a b) : LeO (word s w n a) (word s w n b) := by
 unfold word
 exact LeO.ite h (LeO.ite (LeO.refl _) h)
set_option maxHeartbeats 1000000 in
theorem p_mono : ∀ k, (∀ s d, LeO (pV k s d) (pV (k + 1) s d)) ∧ (∀ s d, LeO (pA k s d) (pA (k + 1) s d)) ∧ (∀ s d ts, LeO (pAl k s d ts) (pAl (k + 1) s d ts)) ∧ (∀ s d, LeO (pO k s d) (pO (k + 1) s d)) ∧ (∀ s d ks ts, LeO (pOl k s d ks ts) (pOl (k + 1) s d ks ts))
 | 0 => ⟨fun _ _ r h => by simp [pV] at h, fun _ _ r h => by simp [pA] at h, fun _ _ _ r h => by simp [pAl] at h, fun _ _ r h => by simp [pO] at h, fun _ _ _ _ r h => by simp [pOl] at h⟩
 | k + 1 => by
  obtain ⟨iV, iA, iAl, iO, iOl⟩ := p_mono k
  refine ⟨?_, ?_, ?_, ?_, ?_⟩
  ·intro s d
   unfold pV
   refine LeO.ite (LeO.refl _) (LeO.ite (LeO.refl _) (LeO.ite (iO _ _) (LeO.ite (iA _ _) (LeO.ite (LeO.bind (rs_mono _ _) fun _ => LeO.refl _) (LeO.ite (LeO.refl _) (LeO.ite (LeO.refl _) (LeO.ite (word_mono (LeO.ite (LeO.bind (fastjson_zzFold.mono _ _ _) fun _ => LeO.refl _) (LeO.refl _))) (LeO.bind (rn_mono _ _) fun _ => LeO.refl _))))))))
  ·intro s d
   unfold pA
   exact LeO.bind (sk_mono _ _) fun x => LeO.ite (LeO.refl _) (LeO.ite (LeO.refl _) (iAl _ _ _))
  ·intro s d ts
   unfold pAl
   refine LeO.bind (sk_mono _ _) fun x => LeO.bind (iV _ _) fun r => ?_
   cases r with
   | none => exact LeO.refl _
   | some r => exact LeO.bind (sk_mono _ _) fun y => LeO.ite (LeO.refl _) (LeO.ite (iAl _ _ _) (LeO.refl _))
  ·intro s d
   unfold pO
   exact LeO.bind (sk_mono _ _) fun x => LeO.ite (LeO.refl _) (LeO.ite (LeO.refl _) (iOl _ _ _ _))
  intro s d ks ts
  unfold pOl
  refine LeO.bind (sk_mono _ _) fun x => LeO.ite (LeO.refl _) (LeO.ite (LeO.bind (rk_mono _ _) fun r => LeO.ite (LeO.refl _) (LeO.bind (sk_mono _ _) fun y => LeO.ite (LeO.refl _) (LeO.ite (LeO.bind (sk_mono _ _) fun z => LeO.bind (iV _ _) fun q => ?_) (LeO.refl _)))) (LeO.refl _))
  cases q with
  | none => exact LeO.refl _
  | some q => exact LeO.bind (sk_mono _ _) fun y => LeO.ite (LeO.refl _) (LeO.ite (iOl _ _ _ _) (LeO.refl _))
/-! ### what is made -/
theorem word_made {s : ByteArray} {w : List UInt8} {n : Int} {a : Option Res} {t : FT} {r : ByteArray} (h : word s w n a = some (some (t, r))) : t = lit n ByteArray.empty ∨ a = some (some (t, r)) := by
 unfold word at h
 split at h
 ·exact .inr h
 split at h
 ·have := Option.some.inj (Option.some.inj h)
  exact .inl (Prod.mk.inj this).1.symm
 exact .inr h
theorem leaf_made {k : Int} {x : ByteArray × ByteArray × Option Int} {t : FT} {r : ByteArray} (h : leaf k x = some (t, r)) : t = lit k x.1 := by
 unfold leaf at h
 split at h
 ·cases h
 exact (Prod.mk.inj (Option.some.inj h)).1.symm
set_option maxHeartbeats 1000000 in
theorem p_made : ∀ k, (∀ s d t r, pV k s d = some (some (t, r)) → Made t) ∧ (∀ s d t r, pA k s d = some (some (t, r)) → Made t) ∧ (∀ s d ts t r, (∀ t ∈ ts, Made t) → pAl k s d ts = some (some (t, r)) → Made t) ∧ (∀ s d t r, pO k s d = some (some (t, r)) → Made t) ∧ (∀ s d ks ts t r, ks.length = ts.length → (∀ t ∈ ts, Made t) → pOl k s d ks ts = some (some (t, r)) → Made t)
 | 0 => ⟨fun _ _ _ r h => by simp [pV] at h, fun _ _ _ r h => by simp [pA] at h, fun _ _ _ _ r _ h => by simp [pAl] at h, fun _ _ _ r h => by simp [pO] at h, fun _ _ _ _ _ r _ _ h => by simp [pOl] at h⟩
 | k + 1 => by
  obtain ⟨iV, iA, iAl, iO, iOl⟩ := p_made k
  have snoc : ∀ {ts : List FT} {t : FT}, (∀ t ∈ ts, Made t) → Made t → ∀ u ∈ ts ++ [t], Made u := fun h1 h2 u hu => by
   rcases List.mem_append.1 hu with h | h
   ·exact h1 u h
   rw [List.mem_singleton.1 h]; exact h2
  refine ⟨?_, ?_, ?_, ?_, ?_⟩
  ·intro s d t r h
   unfold pV at h
   split at h
   ·cases h
   split at h
   ·cases h
   split at h
   ·exact iO _ _ _ _ h
   split at h
   ·exact iA _ _ _ _ h
   split at h
   ·obtain ⟨q, hq, hx⟩ := Option.bind_eq_some_iff.mp h
    rw [leaf_made (Option.some.inj hx)]
    exact .leaf (.inl rfl)
   split at h
   ·rcases word_made h with rfl | e
    ·exact .leaf (.inr (.inr (.inl rfl)))
    cases e
   split at h
   ·rcases word_made h with rfl | e
    ·exact .leaf (.inr (.inr (.inr (.inl rfl))))
    cases e
   split at h
   ·rcases word_made h with rfl | e
    ·exact .leaf (.inr (.inr (.inr (.inr rfl))))
    split at e
    ·obtain ⟨q, hq, hx⟩ := Option.bind_eq_some_iff.mp e
     split at hx
     ·have := (Prod.mk.inj (Option.some.inj (Option.some.inj hx))).1
      rw [← this]
      exact .leaf (.inr (.inl rfl))
     cases hx
    cases e
   obtain ⟨q, hq, hx⟩ := Option.bind_eq_some_iff.mp h
   rw [leaf_made (Option.some.inj hx)]
   exact .leaf (.inr (.inl rfl))
  ·intro s d t r h
   unfold pA at h
   obtain ⟨q, hq, h⟩ := Option.bind_eq_some_iff.mp h
   split at h
   ·cases h
   split at h
   ·have := (Prod.mk.inj (Option.some.inj (Option.some.inj h))).1
    rw [← this]
    exact .arr (by simp)
   exact iAl _ _ _ _ _ (by simp) h
  ·intro s d ts t r hts h
   unfold pAl at h
   obtain ⟨q, hq, h⟩ := Option.bind_eq_some_iff.mp h
   obtain ⟨v, hv, h⟩ := Option.bind_eq_some_iff.mp h
   cases v with
   | none => cases h
   | some v =>
    have hm := snoc hts (iV _ _ v.1 v.2 hv)
    obtain ⟨x, hx, h⟩ := Option.bind_eq_some_iff.mp h
    split at h
    ·cases h
    split at h
    ·exact iAl _ _ _ _ _ hm h
    split at h
    ·have := (Prod.mk.inj (Option.some.inj (Option.some.inj h))).1
     rw [← this]
     exact .arr hm
    cases h
  ·intro s d t r h
   unfold pO at h
   obtain ⟨q, hq, h⟩ := Option.bind_eq_some_iff.mp h
   split at h
   ·cases h
   split at h
   ·have := (Prod.mk.inj (Option.some.inj (Option.some.inj h))).1
    rw [← this]
    exact .obj rfl (by simp)
   exact iOl _ _ _ _ _ _ rfl (by simp) h
  intro s d ks ts t r hkl hts h
  unfold pOl at h
  obtain ⟨q, hq, h⟩ := Option.bind_eq_some_iff.mp h
  split at h
  ·cases h
  split at h
  ·obtain ⟨y, hy, h⟩ := Option.bind_eq_some_iff.mp h
   split at h
   ·cases h
   obtain ⟨z, hz, h⟩ := Option.bind_eq_some_iff.mp h
   split at h
   ·cases h
   split at h
   ·obtain ⟨u, hu, h⟩ := Option.bind_eq_some_iff.mp h
    obtain ⟨v, hv, h⟩ := Option.bind_eq_some_iff.mp h
    cases v with
    | none => cases h
    | some v =>
     have hm := snoc hts (iV _ _ v.1 v.2 hv)
     obtain ⟨x, hx, h⟩ := Option.bind_eq_some_iff.mp h
     split at h
     ·cases h
     split at h
     ·exact iOl _ _ _ _ _ _ (by simp [hkl]) hm h
     split at h
     ·have := (Prod.mk.inj (Option.some.inj (Option.some.inj h))).1
      rw [← this]
      exact .obj (by simp [hkl]) hm
     cases h
   cases h
  cases h
/-! ### Parse -/
/-- What Parse computes of a text. -/
def pP (k : Nat) (s : ByteArray) : Option (Option FT) := (sk k s).bind fun t => (pV k t 0).bind fun r => match r with
 | none => some none
 | some x => (sk k x.2).bind fun u => some (if u.size = 0 then some x.1 else none)
theorem nw_new {w W W1 : World} {g : Nat} {B' : Option (Nat × Nat)} {n' b o : Nat} (hs : w.heap.size ≤ W.heap.size) (h : Nw W W1 g none 0 B' n' b o) : w.heap.size ≤ b := by
 obtain ⟨h1, h2⟩ := h
 rcases Nat.lt_or_ge b W.heap.size with q | q
 ·exact absurd ⟨q, h2.2.1, fun c e => by cases e⟩ h1
 omega
end FJ
end Go.Proofs.YtnajijaachgipaaDoor.PT
end
section
namespace Go.Proofs.YtnajijaachgipaaDoor.PT
open Go.RowKit Go.Proofs.YtnajijaachgipaaDoor.J Go.Proofs.YtnajijaachgipaaDoorW.PrintWords Go.Proofs.YtnajijaachgipaaDoorW.PrintLast Go.Proofs.YtnajijaachgipaaDoorW.PrintMore Go.Proofs.YtnajijaachgipaaDoor.H
set_option linter.unusedVariables false
set_option linter.unusedSimpArgs false
namespace FJ
theorem loopU_mono : ∀ (k : Nat) (out : List Int) (s : ByteArray), LeO (loopU k out s) (loopU (k + 1) out s)
 | 0, _, _ => fun r h => by simp [loopU] at h
 | k + 1, out, s => by
  rw [loopU, loopU.eq_def (k + 1 + 1)]
  dsimp only
  refine LeO.ite (LeO.refl _) ?_
  cases ix 92 (bytesOf (oneU (bt s 0) (s.extract 1 s.size)).2) with
  | none => exact LeO.refl _
  | some n => exact loopU_mono k _ _
theorem unU_mono (k : Nat) (s : ByteArray) : LeO (unU k s) (unU (k + 1) s) := by
 unfold unU
 cases ix 92 (bytesOf s) with
 | none => exact LeO.refl _
 | some n => exact LeO.bind (loopU_mono k _ _) fun _ => LeO.refl _
theorem unL_mono (k : Nat) : ∀ l, LeO (unL k l) (unL (k + 1) l)
 | [] => LeO.refl _
 | s :: l => by
  rw [unL, unL]
  exact LeO.ite (LeO.bind (unU_mono k s) fun _ => LeO.bind (unL_mono k l) fun _ => LeO.refl _) (LeO.refl _)
mutual
theorem nd_mono : ∀ (k : Nat) (t : FT), LeO (nd k t) (nd (k + 1) t)
 | 0, _ => fun r h => by simp [nd] at h
 | k + 1, .mk q s ks ts => by
  rw [nd, nd]
  exact LeO.ite (LeO.ite (LeO.bind (unU_mono k s) fun _ => LeO.refl _) (LeO.refl _)) (LeO.ite (LeO.ite (LeO.bind (unL_mono k ks) fun _ => LeO.bind (ndL_mono k ts) fun _ => LeO.refl _) (LeO.refl _)) (LeO.ite (LeO.ite (LeO.bind (ndL_mono k ts) fun _ => LeO.refl _) (LeO.refl _)) (LeO.refl _)))
theorem ndL_mono : ∀ (k : Nat) (ts : List FT), LeO (ndL k ts) (ndL (k + 1) ts)
 | _, [] => by rw [ndL, ndL]; exact LeO.refl _
 | k, t :: ts => by
  rw [ndL, ndL]
  exact LeO.bind (nd_mono k t) fun _ => LeO.bind (ndL_mono k ts) fun _ => LeO.refl _
end
theorem chP {w W W' : World} {P : Nat → Nat → Prop} (hb : Below w.heap.size w W) (hp : ∀ b o, P b o → w.heap.size ≤ b) (h : Ch W W' P) : Below w.heap.size w W' :=
 ⟨h.os.trans hb.os, h.tape.trans hb.tape, h.output.trans hb.output, Nat.le_trans hb.size h.size, fun k hk => (h.block k (Nat.lt_of_lt_of_le hk hb.size) (fun o e => by have := hp _ _ e; omega)).trans (hb.block k hk)⟩
theorem gl_ne {w : World} {P : Nat → Nat → Prop} (hg : Gl w) (hp : ∀ b o, P b o → w.heap.size ≤ b) : ∀ b o, P b o → b ≠ 0 ∧ b ≠ 1 := fun b o q => by
 obtain ⟨te6, te7, pe6, pe7, h6, h7⟩ := hg
 have l6 := World.block_lt_of_cell? w _ h6
 have l7 := World.block_lt_of_cell? w _ h7
 have := hp b o q
 simp only at l6 l7
 omega
theorem results_ctt {P : Program} {fn : Func} {p u v : Tmp} {ty : TypeId} (h : fn.results = #[.cell p ty, .tmp u, .tmp v]) (tmps : Array Value) (w : World) (g : Nat) (t : TypeId) (cs : Array Value) (fr : Nat × Nat) (d : TypeDesc)
  (hp : tmps.getD p undef = .pointer (some ⟨g, 0, none⟩)) (hg : w.heap[g]? = some (.cells cs t fr))
  (hu : P.underlying ty = some d) (hd : (match d with | .struct _ | .array _ _ => true | _ => false) = true) (hi : (P.info? ty).map (·.size) = some cs.size) :
  (results fn tmps).run P w = .ok (.tuple #[.agg cs, tmps.getD u undef, tmps.getD v undef]) w := by
 have hp' : tmps[p]?.getD undef = .pointer (some ⟨g, 0, none⟩) := by simpa using hp
 simp [results, h, hp', asAddr, run_loadVar_row w g t ty cs fr d hg hu hd hi]
/-- Behind a call only what is new has changed; the result's block is as it was made. -/
theorem aft {w W w2 : World} {S : Nat → Nat → Prop} (hW : Below w.heap.size w W) (hr : W.heap[w.heap.size]? = some oR) (hch : Ch W w2 S) (hS : ∀ k o, S k o → w.heap.size < k) : Below w.heap.size w w2 ∧ w2.heap[w.heap.size]? = some oR := by
 have hlt : w.heap.size < W.heap.size := (Array.getElem?_eq_some_iff.1 hr).1
 refine ⟨⟨hch.os.trans hW.os, hch.tape.trans hW.tape, hch.output.trans hW.output, Nat.le_trans hW.size hch.size, fun k hk => (hch.block k (Nat.lt_trans hk hlt) (fun o e => by have := hS k o e; omega)).trans (hW.block k hk)⟩, (hch.block _ hlt (fun o e => Nat.lt_irrefl _ (hS _ o e))).trans hr⟩
theorem below_st {w w1 F : World} (h : Below w.heap.size w w1) (hk : ∀ k, k ≠ w.heap.size → F.heap[k]? = w1.heap[k]?) (hs : F.heap.size = w1.heap.size ∧ F.os = w1.os ∧ F.tape = w1.tape ∧ F.output = w1.output) : Below w.heap.size w F :=
 ⟨hs.2.1.trans h.os, hs.2.2.1.trans h.tape, hs.2.2.2.trans h.output, by rw [hs.1]; exact h.size, fun k hk' => (hk k (Nat.ne_of_lt hk')).trans (h.block k hk')⟩
/-- What a reading door leaves of its tree. -/
def ND (w : World) (x : S38) (v2 v3 : Value) (w' : World) : Prop := Kd.R Kd.string 9 w' w.heap.size (fun _ => True) v2 x.f2 ∧ Kd.R k38 38 w' w.heap.size (fun k_ => some k_ ≠ (v2 : Value).ownBlock) v3 x.f3 ∧ Below w.heap.size w w'
theorem nd_st {w w2 w3 F : World} {x : S38} {v2 v3 : Value} (h2 : Kd.R Kd.string 9 w3 w2.heap.size (fun _ => True) v2 x.f2) (h3 : Kd.R k38 38 w3 w2.heap.size (fun k_ => some k_ ≠ (v2 : Value).ownBlock) v3 x.f3) (hlt : w.heap.size < w2.heap.size) (hb : Below w.heap.size w w3)
  (hk : ∀ k, k ≠ w.heap.size → F.heap[k]? = w3.heap[k]?) (hs : F.heap.size = w3.heap.size ∧ F.os = w3.os ∧ F.tape = w3.tape ∧ F.output = w3.output) : ND w x v2 v3 F :=
 ⟨Kd.R_lower (Kd.R_mono (Kd.R_step (Kd.R_bound h2) (fun k hq _ => hk k (by have := hq.2.1; omega))) (fun _ _ => trivial)) (by omega), Kd.R_lower (Kd.R_mono (Kd.R_step (Kd.R_bound h3) (fun k hq _ => hk k (by have := hq.2.1; omega))) (fun _ hq => hq.1)) (by omega), below_st hb hk hs⟩
theorem nd_none {w w2 F : World} (hb : Below w.heap.size w w2) (hk : ∀ k, k ≠ w.heap.size → F.heap[k]? = w2.heap[k]?) (hs : F.heap.size = w2.heap.size ∧ F.os = w2.os ∧ F.tape = w2.tape ∧ F.output = w2.output) : ND w ⟨0, ByteArray.empty, [], []⟩ (.slice none 0 0) (.slice none 0 0) F :=
 ⟨Kd.R_nil _ _ _ _ _, Kd.R_nil _ _ _ _ _, below_st hb hk hs⟩
def PBV (w : World) : Res → Ending → World → Prop
 | none, e, w' => ∃ (s : ByteArray) (et : Nat) (ep : Value), e = .returned (.tuple #[.pointer none, .string s, .iface et ep]) ∧ Below w.heap.size w w'
 | some x, e, w' => ∃ (b o : Nat) (P : Nat → Nat → Prop), e = .returned (.tuple #[.pointer (some ⟨b, o, none⟩), .string x.2, .nilIface]) ∧ Lies w' P b o x.1 ∧ Made x.1 ∧ Below w.heap.size w w' ∧ ∀ b o, P b o → w.heap.size ≤ b
set_option maxHeartbeats 2000000 in
set_option maxRecDepth 100000 in
/-- DoorValue: a value read by a new cache at a depth. -/
theorem dv_calls (k : Nat) (s : ByteArray) (d : Int) (r : Res) (w : World) (hn : s.size ≤ 100000) (h0 : 0 ≤ d) (h1 : d ≤ 300) (h : pV k s d = some r) :
  Calls Tryd.prog 36 #[.string s, .int .i64 d] w (PBV w r) := by
 have hb0 : Below w.heap.size w (w.alloc (.cells #[.slice none 0 0] 50)) := below_alloc (Below.refl _ w) _
 have HC := Aside0.mk (all_vc k s d r h h0 h1 (w.alloc (.cells #[.slice none 0 0] 50)) w.heap.size 0 none 0 ⟨⟨_, _, blk_new w _, rfl⟩, .inl ⟨rfl, rfl⟩⟩ (by omega))
 have HB0 := Aside0.mk hb0
 have hSK : ∀ k o, SK w.heap.size 0 none (0 * 5) k o → w.heap.size ≤ k := fun k o e => by
  rcases e with e | ⟨c, e, _⟩
  ·exact Nat.le_of_eq e.1.symm
  cases e
 have HSK := Aside0.mk hSK
 clear hSK hb0 hn h0 h1
 cases r with
 | none =>
  clear h
  go_enter Tryd.func36, Tryd.ntmps36
  go_wp2_with (go_at_call 49; refine HC.out.mono ?_; rintro e w2 ⟨t, et, ep, rfl, hch⟩; have HB := Aside0.mk (chP HB0.out HSK.out hch); clear hch)
  go_ret3
  exact ⟨_, _, _, rfl, HB.out⟩
 | some x =>
  have HM := Aside0.mk ((p_made k).1 s d x.1 x.2 h)
  clear h
  go_enter Tryd.func36, Tryd.ntmps36
  go_wp2_with (go_at_call 49; refine HC.out.mono ?_; rintro e w2 ⟨b, o, B', n', rfl, hps, hsz7, hlies⟩; have HB := Aside0.mk (chP HB0.out HSK.out hps.ch); have HL := Aside0.mk hlies; clear hps hlies hsz7)
  go_ret3
  exact ⟨_, _, _, rfl, HL.out, HM.out, HB.out, fun b o q => nw_new HB0.out.size q⟩
/-- What FjRead computes. -/
def rdN (k : Nat) (s : ByteArray) : Option (Option S38) := if s.size ≤ 100000 then (pP k s).bind fun r => match r with
 | none => some none
 | some t => (nd k t).bind fun x => some (some x)
 else none
def tupN : Option S38 → Int × ByteArray × List ByteArray × List S38 × Bool
 | none => (0, ByteArray.empty, [], [], false)
 | some x => (x.f0, x.f1, x.f2, x.f3, true)
def read (k : Nat) (s : ByteArray) : Option (Int × ByteArray × List ByteArray × List S38 × Bool) := (rdN k s).bind fun r => some (tupN r)
/-- What a door leaves that reads a tree. -/
def RP (w : World) : Option S38 → Ending → World → Prop
 | none, e, w' => e = .returned (.tuple #[.agg #[.int .i64 0, .string ByteArray.empty, .slice none 0 0, .slice none 0 0], .bool false]) ∧ ND w ⟨0, ByteArray.empty, [], []⟩ (.slice none 0 0) (.slice none 0 0) w'
 | some x, e, w' => ∃ v2 v3 : Value, e = .returned (.tuple #[.agg #[.int .i64 x.f0, .string x.f1, v2, v3], .bool true]) ∧ ND w x v2 v3 w'
theorem RP.tell {w w' : World} {e : Ending} {r : Option S38} {r1 : Int} {r2 : ByteArray} {r3 : List ByteArray} {r4 : List S38} {r5 : Bool} (h : RP w r e w') (ht : tupN r = (r1, r2, r3, r4, r5)) :
  ∃ v2_ v3_ : Value, e = .returned (.tuple #[.agg #[.int .i64 r1, .string r2, v2_, v3_], .bool r5]) ∧ Kd.R Kd.string 9 w' w.heap.size (fun _ => True) v2_ r3 ∧ Kd.R k38 38 w' w.heap.size (fun k_ => some k_ ≠ (v2_ : Value).ownBlock) v3_ r4 ∧ Below w.heap.size w w' := by
 cases r with
 | none =>
  simp only [tupN, Prod.mk.injEq] at ht
  obtain ⟨rfl, rfl, rfl, rfl, rfl⟩ := ht
  exact ⟨_, _, h.1, h.2.1, h.2.2.1, h.2.2.2⟩
 | some x =>
  simp only [tupN, Prod.mk.injEq] at ht
  obtain ⟨rfl, rfl, rfl, rfl, rfl⟩ := ht
  obtain ⟨v2, v3, he, h2, h3, hb⟩ := h
  exact ⟨v2, v3, he, h2, h3, hb⟩
/-- What FjValueAt computes. -/
def vaN (k : Nat) (s : ByteArray) (d : Int) : Option (Option (S38 × ByteArray)) := if s.size ≤ 100000 ∧ 0 ≤ d ∧ d ≤ 300 then (pV k s d).bind fun r => match r with
 | none => some none
 | some y => (nd k y.1).bind fun x => some (some (x, y.2))
 else none
def tupV : Option (S38 × ByteArray) → Int × ByteArray × List ByteArray × List S38 × ByteArray × Bool
 | none => (0, ByteArray.empty, [], [], ByteArray.empty, false)
 | some x => (x.1.f0, x.1.f1, x.1.f2, x.1.f3, x.2, true)
def valueAt (k : Nat) (s : ByteArray) (d : Int) : Option (Int × ByteArray × List ByteArray × List S38 × ByteArray × Bool) := (vaN k s d).bind fun r => some (tupV r)
theorem vaN_mono (k : Nat) (s : ByteArray) (d : Int) : LeO (vaN k s d) (vaN (k + 1) s d) := by
 unfold vaN
 refine LeO.ite (LeO.bind ((p_mono k).1 s d) fun r => ?_) (LeO.refl _)
 cases r with
 | none => exact LeO.refl _
 | some t => exact LeO.bind (nd_mono k t.1) fun _ => LeO.refl _
theorem valueAt_mono (k : Nat) (s : ByteArray) (d : Int) : LeO (valueAt k s d) (valueAt (k + 1) s d) := LeO.bind (vaN_mono k s d) fun _ => LeO.refl _
def RPV (w : World) : Option (S38 × ByteArray) → Ending → World → Prop
 | none, e, w' => e = .returned (.tuple #[.agg #[.int .i64 0, .string ByteArray.empty, .slice none 0 0, .slice none 0 0], .string ByteArray.empty, .bool false]) ∧ ND w ⟨0, ByteArray.empty, [], []⟩ (.slice none 0 0) (.slice none 0 0) w'
 | some x, e, w' => ∃ v2 v3 : Value, e = .returned (.tuple #[.agg #[.int .i64 x.1.f0, .string x.1.f1, v2, v3], .string x.2, .bool true]) ∧ ND w x.1 v2 v3 w'
theorem RPV.tell {w w' : World} {e : Ending} {r : Option (S38 × ByteArray)} {r1 : Int} {r2 : ByteArray} {r3 : List ByteArray} {r4 : List S38} {r5 : ByteArray} {r6 : Bool} (h : RPV w r e w') (ht : tupV r = (r1, r2, r3, r4, r5, r6)) :
  ∃ v2_ v3_ : Value, e = .returned (.tuple #[.agg #[.int .i64 r1, .string r2, v2_, v3_], .string r5, .bool r6]) ∧ Kd.R Kd.string 9 w' w.heap.size (fun _ => True) v2_ r3 ∧ Kd.R k38 38 w' w.heap.size (fun k_ => some k_ ≠ (v2_ : Value).ownBlock) v3_ r4 ∧ Below w.heap.size w w' := by
 cases r with
 | none =>
  simp only [tupV, Prod.mk.injEq] at ht
  obtain ⟨rfl, rfl, rfl, rfl, rfl, rfl⟩ := ht
  exact ⟨_, _, h.1, h.2.1, h.2.2.1, h.2.2.2⟩
 | some x =>
  simp only [tupV, Prod.mk.injEq] at ht
  obtain ⟨rfl, rfl, rfl, rfl, rfl, rfl⟩ := ht
  obtain ⟨v2, v3, he, h2, h3, hb⟩ := h
  exact ⟨v2, v3, he, h2, h3, hb⟩
set_option maxHeartbeats 2000000 in
set_option maxRecDepth 100000 in
theorem vaN_calls (k : Nat) (s : ByteArray) (d : Int) (r : Option (S38 × ByteArray)) (w : World) (hg : Gl w) (h : vaN k s d = some r) : Calls Tryd.prog 17 #[.string s, .int .i64 d] w (RPV w r) := by
 unfold vaN at h
 split at h
 case isFalse => cases h
 rename_i hn
 obtain ⟨q, hq, hx⟩ := Option.bind_eq_some_iff.mp h
 have HC := Aside0.mk (dv_calls k s d q (w.alloc oR) hn.1 hn.2.1 hn.2.2 hq)
 have HG := Aside0.mk hg
 have HB1 := Aside0.mk (show Below w.heap.size w (w.alloc oR) from below_alloc (Below.refl _ w) _)
 have HN1 := Aside0.mk (blk_new w oR)
 clear h hn hq hg
 cases q with
 | none =>
  obtain rfl := Option.some.inj hx
  clear hx
  go_enter Tryd.func17, Tryd.ntmps17
  go_wp2_with (go_at_call 36; (with_reducible refine HC.out.mono ?_); rintro e w2 ⟨t, et, ep, rfl, hbl⟩; obtain ⟨hb2, hr2⟩ := aft HB1.out HN1.out (Ch.of_below hbl (fun _ _ => False)) (fun k o e => e.elim); have HB := Aside0.mk hb2; obtain ⟨⟨⟨y0, b0⟩, f0, ⟨y1, b1⟩, f1, ⟨y2, b2⟩, f2, ⟨y3, b3⟩, f3, ly⟩, hfr, hfk, hfs, hf1, hf2, hf3⟩ := store4 (c0 := .int .i64 0) (c1 := .string ⟨#[]⟩) (c2 := .slice none 0 0) (c3 := .slice none 0 0) hr2; have HFR := Aside0.mk hfr; have HFK := Aside0.mk hfk; have HFS := Aside0.mk (And.intro hfs (And.intro hf1 (And.intro hf2 hf3))); clear hfr hfk hfs hf1 hf2 hf3; clear hbl hb2 hr2)
  refine bodyPost_ret (results_ctt rfl _ _ w.heap.size 38 #[.int .i64 0, .string ⟨#[]⟩, .slice none 0 0, .slice none 0 0] (0, 0) _ rfl ?fr Tryd.underlying38 rfl (by kernel_rfl)) rfl ?_
  case fr => exact HFR.out
  exact ⟨rfl, nd_none HB.out HFK.out HFS.out⟩
 | some t =>
  obtain ⟨x, hnd, hx⟩ := Option.bind_eq_some_iff.mp hx
  obtain rfl := Option.some.inj hx
  have HND := Aside0.mk hnd
  clear hnd hx
  go_enter Tryd.func17, Tryd.ntmps17
  go_wp2_with (first
   | (go_at_call 36; (with_reducible refine HC.out.mono ?_); rintro e w2 ⟨b, o, P, rfl, hlies, hmade, hbl, hnew⟩; obtain ⟨hb2, hr2⟩ := aft HB1.out HN1.out (Ch.of_below hbl (fun _ _ => False)) (fun k o e => e.elim); have HB := Aside0.mk hb2; have HR2_ := Aside0.mk hr2; have HL := Aside0.mk hlies; have HM := Aside0.mk hmade; have HNW := Aside0.mk (fun b o q => by have := hnew b o q; simp at this; omega : ∀ b o, P b o → w.heap.size < b); clear hbl hlies hmade hnew hb2 hr2)
   | (go_at_call 37; refine (nc_all k t.1 x HND.out HM.out _ P b o HL.out (HG.out.below HB.out) (gl_ne HG.out (fun b o q => Nat.le_of_lt (HNW.out b o q)))).mono ?_; rintro e w3 ⟨v2, v3, rfl, h2, h3, hc3⟩; obtain ⟨A2, q2, rfl⟩ := Kd.R_slice h2; obtain ⟨A3, q3, rfl⟩ := Kd.R_slice h3; obtain ⟨hb3, hr3⟩ := aft HB.out HR2_.out hc3 (HNW.out); have HR2 := Aside0.mk h2; have HR3 := Aside0.mk h3; have HB3 := Aside0.mk hb3; obtain ⟨⟨⟨y0, b0⟩, f0, ⟨y1, b1⟩, f1, ⟨y2, b2⟩, f2, ⟨y3, b3⟩, f3, ly⟩, hfr, hfk, hfs, hf1, hf2, hf3⟩ := store4 (c0 := .int .i64 x.f0) (c1 := .string x.f1) (c2 := .slice A2 x.f2.length q2) (c3 := .slice A3 x.f3.length q3) hr3; have HFR := Aside0.mk hfr; have HFK := Aside0.mk hfk; have HFS := Aside0.mk (And.intro hfs (And.intro hf1 (And.intro hf2 hf3))); clear hfr hfk hfs hf1 hf2 hf3; clear h2 h3 hc3 hb3 hr3))
  refine bodyPost_ret (results_ctt rfl _ _ w.heap.size 38 #[.int .i64 x.f0, .string x.f1, .slice A2 x.f2.length q2, .slice A3 x.f3.length q3] (0, 0) _ rfl ?fr Tryd.underlying38 rfl (by kernel_rfl)) rfl ?_
  case fr => exact HFR.out
  exact ⟨_, _, rfl, nd_st HR2.out HR3.out (Array.getElem?_eq_some_iff.1 HR2_.out).1 HB3.out HFK.out HFS.out⟩
end FJ
end Go.Proofs.YtnajijaachgipaaDoor.PT
end
section
namespace Go.Proofs.YtnajijaachgipaaDoor.PT
open Go.RowKit Go.Proofs.YtnajijaachgipaaDoorW.PrintWords Go.Proofs.YtnajijaachgipaaDoorW.PrintLast Go.Proofs.YtnajijaachgipaaDoorW.PrintMore
attribute [local go_sem] max2_int min2_int max_two min_two max_three min_three max_four min_four   -- for this text's walks alone
set_option linter.unusedVariables false
set_option linter.unusedSimpArgs false
/-! ### impl_FjValueAt: function 17, by hand -/
def impl_FjValueAt.f (k : Nat) (a0 : ByteArray) (a1 : Int) : Option (Int × ByteArray × List ByteArray × List S38 × ByteArray × Bool) := FJ.valueAt k a0 a1
theorem impl_FjValueAt.mono : ∀ a0 a1 k, LeO (impl_FjValueAt.f k a0 a1) (impl_FjValueAt.f (k + 1) a0 a1) := fun a0 a1 k => FJ.valueAt_mono k a0 a1
theorem impl_FjValueAt.calls (k : Nat) (a0 : ByteArray) (a1 : Int) (r1 : Int) (r2 : ByteArray) (r3 : List ByteArray) (r4 : List S38) (r5 : ByteArray) (r6 : Bool) (w : World) (hT0 : Kd.C Kd.errk w (some ⟨0, 0, none⟩) tabG0.length tabG0) (hT1 : Kd.C Kd.errk w (some ⟨1, 0, none⟩) tabG1.length tabG1) (h : impl_FjValueAt.f k a0 a1 = some (r1, r2, r3, r4, r5, r6)) :
  Calls Tryd.prog 17 #[.string a0, .int .i64 a1] w fun e w' => ∃ v2_ v3_ : Value, e = .returned (.tuple #[.agg #[.int .i64 r1, .string r2, v2_, v3_], .string r5, .bool r6]) ∧ Kd.R Kd.string 9 w' w.heap.size (fun _ => True) v2_ r3 ∧ Kd.R k38 38 w' w.heap.size (fun k_ => some k_ ≠ (v2_ : Value).ownBlock) v3_ r4 ∧ Below w.heap.size w w' := by
 obtain ⟨te6, pe6, hv6⟩ := errk_cell hT0
 obtain ⟨te7, pe7, hv7⟩ := errk_cell hT1
 obtain ⟨q, hq, hx⟩ := Option.bind_eq_some_iff.mp (show (FJ.vaN k a0 a1).bind _ = _ from h)
 exact (FJ.vaN_calls k a0 a1 q w ⟨te6, te7, pe6, pe7, hv6, hv7⟩ hq).mono fun e w' h => h.tell (Option.some.inj hx)
end Go.Proofs.YtnajijaachgipaaDoor.PT
end
