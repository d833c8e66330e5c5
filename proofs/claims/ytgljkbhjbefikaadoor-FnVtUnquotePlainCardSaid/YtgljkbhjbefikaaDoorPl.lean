import Derived.Test.YtgljkbhjbefikaaDoorWWords
import Derived.Laws.Strings
namespace Go.Proofs.YtgljkbhjbefikaaDoor.Pl
open Go.RowKit Go.Proofs.YtgljkbhjbefikaaDoorW.PrintWords

theorem w64 {x : Int} (h1 : -9223372036854775808 ≤ x) (h2 : x ≤ 9223372036854775807) : wrap64 x = x := by
  unfold wrap64; omega
theorem w32 {x : Int} (h1 : -2147483648 ≤ x) (h2 : x ≤ 2147483647) : wrap32 x = x := by
  unfold wrap32; omega
theorem wu64 {x : Int} (h1 : 0 ≤ x) (h2 : x ≤ 18446744073709551615) : IntKind.u64.wrap x = x := by
  simp only [IntKind.wrap, IntKind.bits, IntKind.signed]; simp; omega
/-- One round more is no harm. -/
theorem Ev_up {α : Type} {g : Nat → Option α} {r : α} (h : Ev (fun k => g (k + 1)) r) : Ev g r := Ev.step (fun _ => rfl) h
theorem Ev_some {α : Type} {a r : α} (h : a = r) : Ev (fun _ => some a) r := ⟨0, fun _ _ => by rw [h]⟩
theorem Ev_of {α : Type} {a : Option α} {r : α} (h : a = some r) : Ev (fun _ => a) r := ⟨0, fun _ _ => h⟩
theorem u8_range {x : Int} (h : (Lit.int .u8 x).wf = true) : 0 ≤ x ∧ x ≤ 255 := by
  have h1 : IntKind.u8.min = 0 := rfl
  have h2 : IntKind.u8.max = 255 := rfl
  simp only [Lit.wf, h1, h2, Bool.and_eq_true, decide_eq_true_eq] at h; exact h
theorem u16_range {x : Int} (h : (Lit.int .u16 x).wf = true) : 0 ≤ x ∧ x ≤ 65535 := by
  have h1 : IntKind.u16.min = 0 := rfl
  have h2 : IntKind.u16.max = 65535 := rfl
  simp only [Lit.wf, h1, h2, Bool.and_eq_true, decide_eq_true_eq] at h; exact h
theorem u32_range {x : Int} (h : (Lit.int .u32 x).wf = true) : 0 ≤ x ∧ x ≤ 4294967295 := by
  have h1 : IntKind.u32.min = 0 := rfl
  have h2 : IntKind.u32.max = 4294967295 := rfl
  simp only [Lit.wf, h1, h2, Bool.and_eq_true, decide_eq_true_eq] at h; exact h
theorem u64_range {x : Int} (h : (Lit.int .u64 x).wf = true) : 0 ≤ x ∧ x ≤ 18446744073709551615 := by
  have h1 : IntKind.u64.min = 0 := rfl
  have h2 : IntKind.u64.max = 18446744073709551615 := rfl
  simp only [Lit.wf, h1, h2, Bool.and_eq_true, decide_eq_true_eq] at h; exact h
theorem toList_length (s : ByteArray) : s.toList.length = s.size := by rw [ByteArray.toList_eq, Array.length_toList]; rfl
theorem toList_nil {s : ByteArray} : s.toList = ([] : List UInt8) ↔ s.size = 0 := by
  rw [← toList_length, List.length_eq_zero_iff]
end Go.Proofs.YtgljkbhjbefikaaDoor.Pl
