/- The program's alignment of a single complete type, by its first letter: the plain law. -/
import Derived.Test.YthkblpbabcibcaaDoorPWax3
import Derived.Test.YthkblpbabcibcaaDoorSgT2
namespace Go.Proofs.YthkblpbabcibcaaDoor.Pure
open Go.RowKit Go.Proofs.YthkblpbabcibcaaDoor.PWa Go.Proofs.YthkblpbabcibcaaDoorW.PrintWords Go.Proofs.YthkblpbabcibcaaDoorW.PrintLast Go.Proofs.YthkblpbabcibcaaDoor.SgT Go.Proofs.YthkblpbabcibcaaDoor.Pl Go.Proofs.YthkblpbabcibcaaDoor.By

theorem single_says (s : ByteArray) : ∃ b, Ev (fun k => spec_Single.f k s) b ∧ (b = true → Given.IsWord s) := by
  obtain ⟨R, hR, hx⟩ := types_all s
  unfold spec_Single.f
  by_cases h2 : R.2 = true
  · refine ⟨((R.1.length : Int) == 1), Ev.bind hR (by simp only [if_pos h2]; exact Ev.now _), fun hl => ?_⟩
    obtain ⟨hs, xs, hxs, e, er⟩ := hx h2
    have h1 : R.1.length = 1 := by have := beq_iff_eq.mp hl; omega
    rw [er, texts, List.length_map] at h1
    match xs, h1 with
    | [x], _ =>
      have hg := hxs x (by simp)
      exact ⟨hs, x, hg.1, by rw [e]; simp [words], hg.2⟩
  · refine ⟨false, Ev.bind hR (by simp only [if_neg h2]; exact Ev.now _), fun hl => by cases hl⟩

/-- The first letters of types. -/
theorem first_letter {s : ByteArray} (h : Given.IsWord s) : 0 < s.size ∧ (Given.lone (bt s 0) = true ∨ bt s 0 = 97 ∨ bt s 0 = 40) := by
  obtain ⟨_, x, hx, e, _⟩ := h
  have hp := Given.word_ne hx e
  refine ⟨hp, ?_⟩
  have e0 := bytesOf_cons s hp
  rw [e] at e0
  cases x with
  | nil => cases hx
  | cons x xs => cases hx.1
  | lone c => exact .inl (by rw [← (List.cons.inj e0).1]; exact hx.2)
  | arr x => exact .inr (.inl (List.cons.inj e0).1.symm)
  | dict k x => exact .inr (.inl (List.cons.inj e0).1.symm)
  | str xs => exact .inr (.inr (List.cons.inj e0).1.symm)

theorem align_says {c : Int} (h : Given.lone c = true ∨ c = 97 ∨ c = 40) : ∃ n, spec_Align.f 3 c = some n ∧ (if c = 98 then Given.alg c = 1 else if c = 40 then Given.alg c = 4 else Given.alg c = n) := by
  rcases h with h | rfl | rfl
  · rcases Given.is_lone h with ((((((((((((h | h) | h) | h) | h) | h) | h) | h) | h) | h) | h) | h) | h) | h <;> (subst h; exact ⟨_, rfl, by decide⟩)
  · exact ⟨_, rfl, by decide⟩
  · exact ⟨_, rfl, by decide⟩

theorem FnWrAlign : laws_FnWrAlign.Pure := by
  intro s hs
  refine Ev.rounds ?_
  unfold laws_FnWrAlign.f
  split
  · exact Ev.now _
  obtain ⟨b, hb, hw⟩ := single_says s
  refine Ev.bind hb ?_
  cases b with
  | false => simp only [if_neg (show ¬ (false = true) by decide)]; exact Ev.now _
  | true =>
    have hw := hw rfl
    obtain ⟨hp, hl⟩ := first_letter hw
    obtain ⟨n, hn, ha⟩ := align_says hl
    have hf : Given.WrAlign.f s = some (Given.alg (bt s 0), true) := by unfold Given.WrAlign.f; rw [if_pos (Given.isWord_to hw)]
    have hev : Ev (fun k => spec_Align.f k (bt s 0)) n := Ev.of (fun k => spec_Align.mono _ k) hn
    simp only [if_true, if_pos (show (0 : Int) < (s.size : Int) by omega)]
    refine Ev.bind hev ?_
    rw [hf]
    simp only [Option.bind_some, if_true]
    by_cases h98 : bt s 0 = 98
    · rw [if_pos h98] at ha ⊢
      rw [ha]; exact Ev.now _
    · rw [if_neg h98] at ha ⊢
      by_cases h40 : bt s 0 = 40
      · rw [if_pos h40] at ha ⊢
        rw [ha]; exact Ev.now _
      · rw [if_neg h40] at ha ⊢
        rw [ha, beq_self_eq_true]; exact Ev.now _

end Go.Proofs.YthkblpbabcibcaaDoor.Pure
