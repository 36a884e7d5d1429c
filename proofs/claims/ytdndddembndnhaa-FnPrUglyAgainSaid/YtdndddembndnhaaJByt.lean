/- Bytes of texts as lists of whole numbers: plain laws. -/
import Derived.Test.YtdndddembndnhaaWMore

namespace Go.Proofs.Ytdndddembndnhaa.J
open Go.RowKit Go.Proofs.YtdndddembndnhaaW.PrintWords Go.Proofs.YtdndddembndnhaaW.PrintLast

def IsB (l : List Int) : Prop := ∀ x ∈ l, 0 ≤ x ∧ x ≤ 255
theorem isB_bytesOf (s : ByteArray) : IsB (bytesOf s) := by
  intro x hx
  simp only [bytesOf, List.mem_map] at hx
  obtain ⟨b, _, rfl⟩ := hx
  have := b.toNat_lt
  omega
theorem IsB.append {a b : List Int} (h : IsB a) (k : IsB b) : IsB (a ++ b) := fun x hx => by
  rcases List.mem_append.1 hx with g | g
  · exact h x g
  · exact k x g
theorem IsB.left {a b : List Int} (h : IsB (a ++ b)) : IsB a := fun x hx => h x (List.mem_append_left _ hx)
theorem IsB.right {a b : List Int} (h : IsB (a ++ b)) : IsB b := fun x hx => h x (List.mem_append_right _ hx)
theorem isB_nil : IsB [] := fun x hx => by cases hx
theorem isB_cons {a : Int} {l : List Int} : IsB (a :: l) ↔ (0 ≤ a ∧ a ≤ 255) ∧ IsB l := by
  simp [IsB]
theorem u8_back (b : UInt8) : UInt8.ofNat ((b.toNat : Int)).toNat = b := by simp
theorem bytesOf_str {l : List Int} (h : IsB l) : bytesOf (strOfNums l) = l := by
  simp only [bytesOf, strOfNums_data, List.map_map]
  conv => rhs; rw [← List.map_id l]
  apply List.map_congr_left
  intro x hx
  have := h x hx
  show ((UInt8.ofNat x.toNat).toNat : Int) = x
  rw [UInt8.toNat_ofNat']
  omega
theorem str_bytesOf (s : ByteArray) : strOfNums (bytesOf s) = s := by
  apply ByteArray.ext
  apply Array.ext'
  rw [strOfNums_data]
  simp only [bytesOf, List.map_map]
  conv => rhs; rw [← List.map_id s.data.toList]
  apply List.map_congr_left
  intro b _
  exact u8_back b
theorem bytesOf_inj {a b : ByteArray} (h : bytesOf a = bytesOf b) : a = b := by
  rw [← str_bytesOf a, h, str_bytesOf]
theorem bytesOf_append (a b : ByteArray) : bytesOf (a ++ b) = bytesOf a ++ bytesOf b := by
  simp [bytesOf]
theorem bytesOf_extract (s : ByteArray) (a b : Nat) : bytesOf (s.extract a b) = ((bytesOf s).take b).drop a := by
  simp [bytesOf, List.map_drop, List.map_take, List.extract, List.drop_take]
theorem bt_get (s : ByteArray) (i : Int) : bt s i = (bytesOf s).getD i.toNat 0 := (rd_bytesOf s i).symm
theorem bt_nat (s : ByteArray) (i : Nat) : bt s i = (bytesOf s).getD i 0 := by rw [bt_get, Int.toNat_natCast]
theorem bt_mid {s : ByteArray} {p q : List Int} {c : Int} (h : bytesOf s = p ++ c :: q) {i : Int} (hi : i = p.length) : bt s i = c := by
  rw [bt_get, h, hi, Int.toNat_natCast]
  simp [List.getD_eq_getElem?_getD]
theorem toList_iff (a b : ByteArray) : a.toList = b.toList ↔ bytesOf a = bytesOf b := by
  constructor
  · intro h
    rw [Go.ByteArray.toList_eq, Go.ByteArray.toList_eq] at h
    simp only [bytesOf, h]
  · intro h
    rw [bytesOf_inj h]
theorem size_of {s : ByteArray} {l : List Int} (h : bytesOf s = l) : s.size = l.length := by rw [← h, bytesOf_length]
end Go.Proofs.Ytdndddembndnhaa.J
