/- Bytes of texts as lists of whole numbers: plain laws. -/
import Derived.Test.YtfpbbnllaogclaaDoorWMore

namespace Go.Proofs.YtfpbbnllaogclaaDoor.J
open Go.RowKit Go.Proofs.YtfpbbnllaogclaaDoorW.PrintWords Go.Proofs.YtfpbbnllaogclaaDoorW.PrintLast

def IsB (l : List Int) : Prop := ∀ x ∈ l, 0 ≤ x ∧ x ≤ 255
theorem isB_bytesOf (s : ByteArray) : IsB (bytesOf s) := by
  intro x hx
  simp only [bytesOf, List.mem_map] at hx
  obtain ⟨b, _, rfl⟩ := hx
  have := b.toNat_lt
  omega
theorem IsB.append {a b : List Int} (h : IsB a) (k : IsB b) : IsB (a ++ b) := fun x hx => by
  rcases List.mem_append.1 hx with g | g
  · exact h x g
  · exact k x g
theorem IsB.left {a b : List Int} (h : IsB (a ++ b)) : IsB a := fun x hx => h x (List.mem_append_left _ hx)
theorem IsB.right {a b : List Int} (h : IsB (a ++ b)) : IsB b := fun x hx => h x (List.mem_append_right _ hx)
theorem isB_nil : IsB [] := fun x hx => by cases hx
theorem isB_cons {a : Int} {l : List Int} : IsB (a :: l) ↔ (0 ≤ a ∧ a ≤ 255) ∧ IsB l := by
  simp [IsB]
theorem u8_back (b : UInt8) : UInt8.ofNat ((b.toNat : Int)).toNat = b := by simp
theorem bytesOf_str {l : List Int} (h : IsB l) : bytesOf (strOfNums l) = l := by
  simp only [bytesOf, strOfNums_data, List.map_map]
  conv => rhs; rw [← List.map_id l]
  apply List.map_congr_left
  intro x hx
  have := h x hx
  show ((UInt8.ofNat x.toNat).toNat : Int) = x
  rw [UInt8.toNat_ofNat']
  omega
theorem str_bytesOf (s : ByteArray) : strOfNums (bytesOf s) = s := by
  apply ByteArray.ext
  apply Array.ext'
  rw [strOfNums_data]
  simp only [bytesOf, List.map_map]
  conv => rhs; rw [← List.map_id s.data.toList]
  apply List.map_congr_left
  intro b _
  exact u8_back b
theorem bytesOf_inj {a b : ByteArray} (h : bytesOf a = bytesOf b) : a = b := by
  rw [← str_bytesOf a, h, str_bytesOf]
theorem bytesOf_append (a b : ByteArray) : bytesOf (a ++ b) = bytesOf a ++ bytesOf b := by
  simp [bytesOf]
theorem bytesOf_extract (s : ByteArray) (a b : Nat) : bytesOf (s.extract a b) = ((bytesOf s).take b).drop a := by
  simp [bytesOf, List.map_drop, List.map_take, List.extract, List.drop_take]
theorem bt_get (s : ByteArray) (i : Int) : bt s i = (bytesOf s).getD i.toNat 0 := (rd_bytesOf s i).symm
theorem bt_nat (s : ByteArray) (i : Nat) : bt s i = (bytesOf s).getD i 0 := by rw [bt_get, Int.toNat_natCast]
theorem bt_mid {s : ByteArray} {p q : List Int} {c : Int} (h : bytesOf s = p ++ c :: q) {i : Int} (hi : i = p.length) : bt s i = c := by
  rw [bt_get, h, hi, Int.toNat_natCast]
  simp [List.getD_eq_getElem?_getD]
theorem toList_iff (a b : ByteArray) : a.toList = b.toList ↔ bytesOf a = bytesOf b := by
  constructor
  · intro h
    rw [Go.ByteArray.toList_eq, Go.ByteArray.toList_eq] at h
    simp only [bytesOf, h]
  · intro h
    rw [bytesOf_inj h]
theorem size_of {s : ByteArray} {l : List Int} (h : bytesOf s = l) : s.size = l.length := by rw [← h, bytesOf_length]
theorem wr {x : Int} (h0 : -9223372036854775808 ≤ x) (h1 : x ≤ 9223372036854775807) : wrap64 x = x := by
  unfold wrap64; omega
theorem bt_lo (s : ByteArray) (i : Int) : 0 ≤ bt s i := (bt_range s i).1
theorem bt_hi (s : ByteArray) (i : Int) : bt s i ≤ 255 := (bt_range s i).2
theorem bt_out (s : ByteArray) {i : Int} (h : (s.size : Int) ≤ i) : bt s i = 0 := by
  unfold bt; rw [dif_neg (by omega)]
/-- A byte that is not 0 stands in the text. -/
theorem bt_in {s : ByteArray} {i : Int} (h : bt s i ≠ 0) : i < (s.size : Int) := by
  rcases Int.lt_or_le i s.size with g | g
  · exact g
  · exact absurd (bt_out s g) h
theorem ev_const {α : Type} {g : Nat → Option α} {r : α} (h : ∀ k, g k = some r) : Ev g r := ⟨0, fun k _ => h k⟩
theorem ev_one {α : Type} {g : Nat → Option α} {r : α} (h : ∀ k, g (k + 1) = some r) : Ev g r := Ev.step h (Ev.now r)
theorem ev_det {α : Type} {g : Nat → Option α} {r q : α} (h : Ev g r) (h' : Ev g q) : r = q := by
  obtain ⟨a, ha⟩ := h
  obtain ⟨b, hb⟩ := h'
  have := (ha (max a b) (Nat.le_max_left _ _)).symm.trans (hb (max a b) (Nat.le_max_right _ _))
  exact Option.some.inj this
end Go.Proofs.YtfpbbnllaogclaaDoor.J
