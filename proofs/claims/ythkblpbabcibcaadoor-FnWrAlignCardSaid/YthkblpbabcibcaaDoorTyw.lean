/- The program's own name of a type, over trees. Plain Lean. -/
import Derived.Test.YthkblpbabcibcaaDoorSgT
import Derived.Test.YthkblpbabcibcaaDoorBy
namespace Go.Proofs.YthkblpbabcibcaaDoor.SgT
open Go.RowKit Go.Proofs.YthkblpbabcibcaaDoorW.PrintWords Go.Proofs.YthkblpbabcibcaaDoor.Given Go.Proofs.YthkblpbabcibcaaDoor.By

/-- The door's text of the Go type in which a value is held. -/
def tyw : Tr → List Int
  | .lone c => [c]
  | .arr x => 91 :: tyw x
  | .dict k x => 123 :: k :: tyw x
  | .str _ => [91, 42]
  | _ => []

theorem tyw_len (x : Tr) (h : wf x true) : 1 ≤ (tyw x).length ∧ (tyw x).length ≤ (word x).length := by
  induction x with
  | nil => cases h
  | cons x xs => cases h.1
  | lone c => exact ⟨Nat.le_refl _, Nat.le_refl _⟩
  | arr x ih => have := ih h.2; simp only [tyw, word, List.length_cons]; omega
  | dict k x ih => have := ih h.2.2; simp only [tyw, word, List.length_cons, List.length_append]; omega
  | str xs => simp only [tyw, word, List.length_cons, List.length_append, List.length_nil]; omega

theorem fits_less {x : Tr} : ∀ {a t d a' t' d' : Int}, fits x a' t' d' = true → a ≤ a' → t ≤ t' → d ≤ d' → fits x a t d = true := by
  induction x with
  | nil => intros; rfl
  | cons x xs ih1 ih2 =>
    intro a t d a' t' d' h h1 h2 h3
    rw [fits, Bool.and_eq_true] at h ⊢
    exact ⟨ih1 h.1 h1 h2 h3, ih2 h.2 h1 h2 h3⟩
  | lone c =>
    intro a t d a' t' d' h h1 h2 h3
    rw [fits] at h ⊢
    unfold ok at h ⊢
    simp only [Bool.and_eq_true, decide_eq_true_eq] at h ⊢
    omega
  | arr x ih =>
    intro a t d a' t' d' h h1 h2 h3
    rw [fits, Bool.and_eq_true] at h ⊢
    refine ⟨?_, ih h.2 (by omega) h2 h3⟩
    have := h.1
    unfold ok at this ⊢
    simp only [Bool.and_eq_true, decide_eq_true_eq] at this ⊢
    omega
  | dict k x ih =>
    intro a t d a' t' d' h h1 h2 h3
    rw [fits, Bool.and_eq_true] at h ⊢
    refine ⟨?_, ih h.2 (by omega) h2 (by omega)⟩
    have := h.1
    unfold ok at this ⊢
    simp only [Bool.and_eq_true, decide_eq_true_eq] at this ⊢
    omega
  | str xs ih =>
    intro a t d a' t' d' h h1 h2 h3
    rw [fits, Bool.and_eq_true] at h ⊢
    refine ⟨?_, ih h.2 h1 (by omega) h3⟩
    have := h.1
    unfold ok at this ⊢
    simp only [Bool.and_eq_true, decide_eq_true_eq] at this ⊢
    omega
end Go.Proofs.YthkblpbabcibcaaDoor.SgT
