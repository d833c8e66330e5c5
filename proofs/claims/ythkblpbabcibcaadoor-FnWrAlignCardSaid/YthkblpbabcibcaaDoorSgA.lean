/- The specification's list of basic types. -/
import Derived.Test.YthkblpbabcibcaaDoorPWax1
import Derived.Test.YthkblpbabcibcaaDoorSgT
namespace Go.Proofs.YthkblpbabcibcaaDoor.SgT
open Go.RowKit Go.Proofs.YthkblpbabcibcaaDoor.PWa Go.Proofs.YthkblpbabcibcaaDoorW.PrintWords

theorem basic_f (c : Int) : spec_Basic.f c = some (basic c) := by
  unfold spec_Basic.f
  by_cases h0 : c = 121
  · subst h0; decide
  rw [if_neg h0]
  by_cases h1 : c = 98
  · subst h1; decide
  rw [if_neg h1]
  by_cases h2 : c = 110
  · subst h2; decide
  rw [if_neg h2]
  by_cases h3 : c = 113
  · subst h3; decide
  rw [if_neg h3]
  by_cases h4 : c = 105
  · subst h4; decide
  rw [if_neg h4]
  by_cases h5 : c = 117
  · subst h5; decide
  rw [if_neg h5]
  by_cases h6 : c = 120
  · subst h6; decide
  rw [if_neg h6]
  by_cases h7 : c = 116
  · subst h7; decide
  rw [if_neg h7]
  by_cases h8 : c = 100
  · subst h8; decide
  rw [if_neg h8]
  by_cases h9 : c = 115
  · subst h9; decide
  rw [if_neg h9]
  by_cases h10 : c = 111
  · subst h10; decide
  rw [if_neg h10]
  by_cases h11 : c = 103
  · subst h11; decide
  rw [if_neg h11]
  by_cases h12 : c = 104
  · subst h12; decide
  rw [if_neg h12]
  have e : Given.lone c = (c == 118) := by
    unfold Given.lone
    simp only [beq_eq_false_iff_ne.mpr h0, beq_eq_false_iff_ne.mpr h1, beq_eq_false_iff_ne.mpr h2, beq_eq_false_iff_ne.mpr h3, beq_eq_false_iff_ne.mpr h4, beq_eq_false_iff_ne.mpr h5, beq_eq_false_iff_ne.mpr h6, beq_eq_false_iff_ne.mpr h7, beq_eq_false_iff_ne.mpr h8, beq_eq_false_iff_ne.mpr h9, beq_eq_false_iff_ne.mpr h10, beq_eq_false_iff_ne.mpr h11, beq_eq_false_iff_ne.mpr h12, Bool.false_or, Bool.or_false]
  unfold basic
  rw [e]
  cases h : (c == 118)
  · rfl
  · rw [beq_iff_eq.mp h]; rfl

theorem bytesOf_strOfNums (l : List Int) (h : ∀ x ∈ l, 0 ≤ x ∧ x ≤ 255) : bytesOf (strOfNums l) = l := by
  unfold bytesOf strOfNums
  simp only [List.map_map]
  have : ∀ x, x ∈ l → ((fun b : UInt8 => (b.toNat : Int)) ∘ fun n : Int => UInt8.ofNat n.toNat) x = x := by
    intro x hx
    obtain ⟨h0, h1⟩ := h x hx
    simp only [Function.comp, UInt8.toNat_ofNat']
    omega
  exact (List.map_congr_left this).trans (List.map_id' l)
theorem bytes_len (l : List Int) : (strOfNums l).size = l.length := by
  unfold strOfNums
  simp [ByteArray.size]
end Go.Proofs.YthkblpbabcibcaaDoor.SgT
