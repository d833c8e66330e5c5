/- zzCutPrefix of 0x and 0. -/
import Derived.Test.YthjbopjclkbhfaaGreatDoorGvCp
import Derived.Lib.Strings
import Derived.Lib.SmallJoins
namespace Go.Proofs.YthjbopjclkbhfaaGreatDoor.Given
open Go.RowKit Go.Proofs.YthjbopjclkbhfaaGreatDoorW.PrintWords

theorem cut_fact (s : ByteArray) (l : List UInt8) (b : Bool) (h : (s.data.toList.take l.length == l) = b) : ((s.extract 0 (⟨l.toArray⟩ : ByteArray).size).toList == (⟨l.toArray⟩ : ByteArray).toList) = b := by
  have e : (⟨l.toArray⟩ : ByteArray).size = l.length := by show l.toArray.size = _; simp
  rw [e, Lib.extract_toList, Lib.toList_data, List.drop_zero, Nat.sub_zero]
  exact h
theorem bytes_ext {a b : ByteArray} (h : a.data.toList = b.data.toList) : a = b := by
  obtain ⟨⟨a⟩⟩ := a
  obtain ⟨⟨b⟩⟩ := b
  have h' : a = b := h
  rw [h']
theorem cut_rest (l : List UInt8) (t : ByteArray) : ((⟨l.toArray⟩ : ByteArray) ++ t).extract (⟨l.toArray⟩ : ByteArray).size ((⟨l.toArray⟩ : ByteArray) ++ t).size = t := by
  apply bytes_ext
  have e : (⟨l.toArray⟩ : ByteArray).size = l.length := by show l.toArray.size = _; simp
  rw [← Lib.toList_data, Lib.extract_toList, Joins.data_append, ByteArray.size_append, e]
  show ((l ++ t.data.toList).drop l.length).take _ = _
  rw [List.drop_left, Nat.add_sub_cancel_left, List.take_of_length_le (by rw [← Lib.size_eq]; exact Nat.le_refl _)]
/-- What zzCutPrefix hands back. -/
def cutRes (s p : ByteArray) : ByteArray × Bool := if s.data.toList.take p.size == p.data.toList then (s.extract p.size s.size, true) else (s, false)
theorem cut.calls (s p : ByteArray) (w : World) :
    Calls Tryz.prog 24 #[.string s, .string p] w fun e w' => e = .returned (.tuple #[.string (cutRes s p).1, .bool (cutRes s p).2]) ∧ w = w' := by
  have hx := cut_fact s p.data.toList _ rfl
  have e1 : (⟨p.data.toList.toArray⟩ : ByteArray) = p := bytes_ext (by simp)
  rw [e1, ← Lib.size_eq] at hx
  unfold cutRes
  cases hb : s.data.toList.take p.size == p.data.toList with
  | true =>
    rw [hb] at hx
    refine (cut_yes s p ?_ hx w).mono ?_
    · have h2 := congrArg List.length (eq_of_beq hb)
      rw [List.length_take, ← Lib.size_eq, ← Lib.size_eq] at h2
      omega
    · rintro e w' ⟨rfl, rfl⟩
      exact ⟨by rw [if_pos rfl], rfl⟩
  | false =>
    rw [hb] at hx
    exact (cut_no s p hx w).mono fun e w' ⟨h1, h2⟩ => ⟨by rw [h1, if_neg (by decide)], h2⟩
theorem cutRes_no (s : ByteArray) (l : List UInt8) (h : (s.data.toList.take l.length == l) = false) : cutRes s ⟨l.toArray⟩ = (s, false) := by
  unfold cutRes
  have e : (⟨l.toArray⟩ : ByteArray).size = l.length := by show l.toArray.size = _; simp
  rw [e, if_neg (by rw [show (⟨l.toArray⟩ : ByteArray).data.toList = l from rfl, h]; decide)]
theorem cutRes_yes (l : List UInt8) (t : ByteArray) : cutRes ((⟨l.toArray⟩ : ByteArray) ++ t) ⟨l.toArray⟩ = (t, true) := by
  unfold cutRes
  have e : (⟨l.toArray⟩ : ByteArray).size = l.length := by show l.toArray.size = _; simp
  rw [cut_rest, e, if_pos]
  rw [Joins.data_append]
  show (List.take l.length (l ++ t.data.toList) == l) = true
  rw [List.take_left]
  simp
end Go.Proofs.YthjbopjclkbhfaaGreatDoor.Given
