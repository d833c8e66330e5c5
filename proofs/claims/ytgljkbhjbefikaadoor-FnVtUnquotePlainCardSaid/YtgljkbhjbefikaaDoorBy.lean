import Derived.Test.YtgljkbhjbefikaaDoorPl
import Derived.Laws.BytesArg
namespace Go.Proofs.YtgljkbhjbefikaaDoor.By
open Go.RowKit Go.Proofs.YtgljkbhjbefikaaDoorW.PrintWords Go.Proofs.YtgljkbhjbefikaaDoor.Pl

/-! ### texts as lists of bytes -/
theorem str_bytes (s : ByteArray) : strOfNums (bytesOf s) = s := by
  unfold strOfNums bytesOf
  rw [List.map_map]
  have : (fun b : UInt8 => UInt8.ofNat (b.toNat : Int).toNat) = id := by funext b; simp
  rw [show ((fun n : Int => UInt8.ofNat n.toNat) ∘ fun b : UInt8 => (b.toNat : Int)) = id from this]
  simp
theorem bytesOf_inj {a b : ByteArray} (h : bytesOf a = bytesOf b) : a = b := by rw [← str_bytes a, h, str_bytes]
theorem bytesOf_extract (s : ByteArray) (i j : Nat) : bytesOf (s.extract i j) = ((bytesOf s).take j).drop i := by
  have e : (s.extract i j).data.toList = (s.data.toList.take j).drop i := by
    rw [ByteArray.data_extract, Array.toList_extract, List.extract_eq_take_drop, List.drop_take]
  unfold bytesOf
  rw [e, List.map_drop, List.map_take]
theorem bytesOf_from (s : ByteArray) (i : Nat) : bytesOf (s.extract i s.size) = (bytesOf s).drop i := by
  rw [bytesOf_extract, List.take_of_length_le (by rw [bytesOf_length]; exact Nat.le_refl _)]
theorem bytesOf_get (s : ByteArray) (i : Nat) (h : i < s.size) : (bytesOf s)[i]? = some (bt s (i : Int)) := by
  have hl : i < (bytesOf s).length := by rw [bytesOf_length]; exact h
  have := rd_bytesOf s (i : Int)
  simp only [rd, Int.toNat_natCast, List.getD_eq_getElem?_getD, List.getElem?_eq_getElem hl, Option.getD_some] at this
  rw [List.getElem?_eq_getElem hl, this]
theorem bytesOf_drop (s : ByteArray) (i : Nat) (h : i < s.size) : (bytesOf s).drop i = bt s (i : Int) :: (bytesOf s).drop (i + 1) := by
  have hl : i < (bytesOf s).length := by rw [bytesOf_length]; exact h
  rw [List.drop_eq_getElem_cons hl]
  have := bytesOf_get s i h
  rw [List.getElem?_eq_getElem hl] at this
  rw [Option.some.inj this]
theorem bytesOf_cons (s : ByteArray) (h : 0 < s.size) : bytesOf s = bt s 0 :: (bytesOf s).drop 1 := by
  have := bytesOf_drop s 0 h
  rw [List.drop_zero] at this; exact this
theorem bytesOf_nil {s : ByteArray} : bytesOf s = [] ↔ s.size = 0 := by rw [← bytesOf_length, List.length_eq_zero_iff]
theorem bytesOf_append (a b : ByteArray) : bytesOf (a ++ b) = bytesOf a ++ bytesOf b := by
  unfold bytesOf; rw [ByteArray.data_append, Array.toList_append, List.map_append]
theorem toList_of_bytes {a b : ByteArray} (h : bytesOf a = bytesOf b) : a.toList = b.toList := by rw [bytesOf_inj h]
end Go.Proofs.YtgljkbhjbefikaaDoor.By
