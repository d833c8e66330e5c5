/- Of what texts nothing is said: where sgLeft answers false, no "()" and no "{v" stands in the text. -/
import Derived.Test.YthkblpbabcibcaaPSgx2
import Derived.Test.YthkblpbabcibcaaSgT
import Derived.Test.YthkblpbabcibcaaBy
namespace Go.Proofs.Ythkblpbabcibcaa.SgT
open Go.RowKit Go.Proofs.Ythkblpbabcibcaa.PSg Go.Proofs.YthkblpbabcibcaaW.PrintWords Go.Proofs.YthkblpbabcibcaaW.PrintLast Go.Proofs.Ythkblpbabcibcaa.Pl Go.Proofs.Ythkblpbabcibcaa.Utf Go.Proofs.Ythkblpbabcibcaa.By

/-- At a place no "()" and no "{v" begins. -/
def Fine (s : ByteArray) (j : Nat) : Prop := j + 1 < s.size → ¬ (bt s (j : Int) = 40 ∧ bt s ((j + 1 : Nat) : Int) = 41) ∧ ¬ (bt s (j : Int) = 123 ∧ bt s ((j + 1 : Nat) : Int) = 118)

theorem two_bytes (s : ByteArray) (i : Nat) (h : i + 1 < s.size) (x y : UInt8) (hx : bt s (i : Int) = (x.toNat : Int)) (hy : bt s ((i + 1 : Nat) : Int) = (y.toNat : Int)) : (s.extract i (i + 2)).toList = [x, y] := by
  have e : bytesOf (s.extract i (i + 2)) = bytesOf (⟨#[x, y]⟩ : ByteArray) := by
    rw [bytesOf_extract, List.drop_take, bytesOf_drop s i (by omega), bytesOf_drop s (i + 1) h, hx, hy, show i + 2 - i = 2 by omega]
    rfl
  rw [toList_of_bytes e]
  rw [ByteArray.toList_eq]

theorem fine_noBad {s : ByteArray} (h : ∀ j, Fine s j) : NoBad (bytesOf s) := by
  intro p q
  have at_ : ∀ (x y : Int), bytesOf s = p ++ x :: y :: q → p.length + 1 < s.size ∧ bt s (p.length : Int) = x ∧ bt s ((p.length + 1 : Nat) : Int) = y := by
    intro x y e
    have hl := congrArg List.length e
    rw [bytesOf_length, List.length_append, List.length_cons, List.length_cons] at hl
    have g1 := bytesOf_get s p.length (by omega)
    have g2 := bytesOf_get s (p.length + 1) (by omega)
    rw [e, List.getElem?_append_right (Nat.le_refl _), Nat.sub_self] at g1
    rw [e, List.getElem?_append_right (by omega), show p.length + 1 - p.length = 1 by omega] at g2
    exact ⟨by omega, (Option.some.inj g1).symm, (Option.some.inj g2).symm⟩
  refine ⟨fun e => ?_, fun e => ?_⟩
  · obtain ⟨h1, h2, h3⟩ := at_ _ _ e
    exact (h p.length h1).1 ⟨h2, h3⟩
  · obtain ⟨h1, h2, h3⟩ := at_ _ _ e
    exact (h p.length h1).2 ⟨h2, h3⟩

theorem left_loop (s : ByteArray) (hs : s.size ≤ 1099511627776) : ∀ (n i : Nat) (st : List Int), s.size - i < n → i ≤ s.size → st.length ≤ i → ∃ b, Ev (fun k => laws_sgLeft.l0 k s st (i : Int)) b ∧ (b = false → ∀ j, i ≤ j → Fine s j) := by
  intro n
  induction n with
  | zero => intro i st h; omega
  | succ n ih =>
    intro i st h hi hst
    by_cases hlt : i < s.size
    · have w1 : wrap64 ((i : Int) + 1) = ((i + 1 : Nat) : Int) := by rw [w64 (by omega) (by omega)]; omega
      have w2 : wrap64 ((i : Int) + 2) = ((i + 2 : Nat) : Int) := by rw [w64 (by omega) (by omega)]; omega
      have p1 : (i : Int) < (s.size : Int) := by omega
      have p2 : (0 : Int) ≤ (i : Int) := by omega
      by_cases ho : bt s (i : Int) = 40 ∨ bt s (i : Int) = 123
      · have e0 : ∀ k, laws_sgLeft.l0 (k + 1) s st (i : Int) = laws_sgLeft.j1 k s st (i : Int) (bt s (i : Int)) true := by
          intro k
          simp only [laws_sgLeft.l0, if_pos p1, if_pos p2]
          rcases ho with ho | ho
          · rw [ho]; rfl
          · rw [ho]; rfl
        have pl : st.length < 140737488355328 := by omega
        by_cases hl2 : i + 1 < s.size
        · have p3 : ((i + 1 : Nat) : Int) < (s.size : Int) := by omega
          have p4 : (i : Int) ≤ ((i + 2 : Nat) : Int) := by omega
          have p5 : ((i + 2 : Nat) : Int) ≤ (s.size : Int) := by omega
          by_cases hb1 : (s.extract i (i + 2)).toList = ([40, 41] : List UInt8)
          · refine ⟨true, Ev.step e0 (Ev_up ?_), fun e => by cases e⟩
            simp only [laws_sgLeft.j1, if_true, if_pos p1, if_pos p2, if_pos pl, Option.bind_some, w1, w2, if_pos p3, if_pos p4, if_pos p5, Int.toNat_natCast, if_pos hb1]
            exact Ev.now _
          · by_cases hb2 : (s.extract i (i + 2)).toList = ([123, 118] : List UInt8)
            · refine ⟨true, Ev.step e0 (Ev_up ?_), fun e => by cases e⟩
              simp only [laws_sgLeft.j1, if_true, if_pos p1, if_pos p2, if_pos pl, Option.bind_some, w1, w2, if_pos p3, if_pos p4, if_pos p5, Int.toNat_natCast, if_neg hb1, if_pos hb2]
              exact Ev.now _
            · obtain ⟨b, hb, hf⟩ := ih (i + 1) (st ++ [bt s (i : Int)]) (by omega) (by omega) (by rw [List.length_append]; simp; exact hst)
              refine ⟨b, Ev.step e0 (Ev_up ?_), fun e j hj => ?_⟩
              · simp only [laws_sgLeft.j1, if_true, if_pos p1, if_pos p2, if_pos pl, Option.bind_some, w1, w2, if_pos p3, if_pos p4, if_pos p5, Int.toNat_natCast, if_neg hb1, if_neg hb2]
                exact hb
              · by_cases hji : j = i
                · subst hji
                  exact fun _ => ⟨fun hx => hb1 (two_bytes s j hl2 40 41 hx.1 hx.2), fun hx => hb2 (two_bytes s j hl2 123 118 hx.1 hx.2)⟩
                · exact hf e j (by omega)
        · have p3 : ¬ ((i + 1 : Nat) : Int) < (s.size : Int) := by omega
          obtain ⟨b, hb, hf⟩ := ih (i + 1) (st ++ [bt s (i : Int)]) (by omega) (by omega) (by rw [List.length_append]; simp; exact hst)
          refine ⟨b, Ev.step e0 (Ev_up ?_), fun e j hj h1 => ?_⟩
          · simp only [laws_sgLeft.j1, if_true, if_pos p1, if_pos p2, if_pos pl, Option.bind_some, w1, w2, if_neg p3]
            exact hb
          · exact hf e j (by omega) h1
      · have n40 : bt s (i : Int) ≠ 40 := fun e => ho (.inl e)
        have n123 : bt s (i : Int) ≠ 123 := fun e => ho (.inr e)
        have hfi : Fine s i := fun _ => ⟨fun hx => n40 hx.1, fun hx => n123 hx.1⟩
        have e0 : ∀ k, laws_sgLeft.l0 (k + 1 + 1) s st (i : Int) = (if bt s (i : Int) = 41 then (laws_sgLeft.j2 k s st (i : Int) (bt s (i : Int) == 41)) else (laws_sgLeft.j2 k s st (i : Int) (bt s (i : Int) == 125))) := by
          intro k
          simp only [laws_sgLeft.l0, if_pos p1, if_pos p2, if_neg n40, beq_eq_false_iff_ne.mpr n123, laws_sgLeft.j1, if_neg (show ¬ (false = true) by decide)]
        have go : ∀ st' : List Int, st'.length ≤ i → (∀ b, Ev (fun k => laws_sgLeft.l0 k s st' ((i + 1 : Nat) : Int)) b → Ev (fun k => laws_sgLeft.l0 k s st (i : Int)) b) → ∃ b, Ev (fun k => laws_sgLeft.l0 k s st (i : Int)) b ∧ (b = false → ∀ j, i ≤ j → Fine s j) := by
          intro st' hst' hgo
          obtain ⟨b, hb, hf⟩ := ih (i + 1) st' (by omega) (by omega) (by omega)
          refine ⟨b, hgo b hb, fun e j hj => ?_⟩
          by_cases hji : j = i
          · rw [hji]; exact hfi
          · exact hf e j (by omega)
        by_cases hc : bt s (i : Int) = 41 ∨ bt s (i : Int) = 125
        · have e1 : ∀ k, laws_sgLeft.l0 (k + 1 + 1) s st (i : Int) = laws_sgLeft.j2 k s st (i : Int) true := by
            intro k
            rw [e0 k]
            rcases hc with hc | hc <;> (rw [hc]; rfl)
          by_cases hz : st.length = 0
          · refine go st hst (fun b hb => Ev_up (Ev.step (fun k => e1 k) (Ev_up ?_)))
            simp only [laws_sgLeft.j2, if_true, if_pos (show (st.length : Int) = 0 by omega), w1]
            exact hb
          · have wl : wrap64 ((st.length : Int) - 1) = ((st.length - 1 : Nat) : Int) := by rw [w64 (by omega) (by omega)]; omega
            by_cases hm : (((rd st ((st.length - 1 : Nat) : Int)) == 40) != ((bt s (i : Int)) == 41)) = true
            · refine ⟨true, Ev_up (Ev.step (fun k => e1 k) (Ev_up ?_)), fun e => by cases e⟩
              simp only [laws_sgLeft.j2, if_true, if_neg (show ¬ (st.length : Int) = 0 by omega), wl, if_pos (show (0 : Int) ≤ ((st.length - 1 : Nat) : Int) by omega), if_pos (show ((st.length - 1 : Nat) : Int) < (st.length : Int) by omega), if_pos p1, if_pos p2, if_pos hm]
              exact Ev.now _
            · refine go (st.take (st.length - 1)) (by rw [List.length_take]; omega) (fun b hb => Ev_up (Ev.step (fun k => e1 k) (Ev_up ?_)))
              simp only [laws_sgLeft.j2, if_true, if_neg (show ¬ (st.length : Int) = 0 by omega), wl, if_pos (show (0 : Int) ≤ ((st.length - 1 : Nat) : Int) by omega), if_pos (show ((st.length - 1 : Nat) : Int) < (st.length : Int) by omega), if_pos p1, if_pos p2, if_neg hm, if_pos (show ((st.length - 1 : Nat) : Int) ≤ (st.length : Int) by omega), Int.toNat_natCast, w1]
              exact hb
        · have n41 : bt s (i : Int) ≠ 41 := fun e => hc (.inl e)
          have n125 : bt s (i : Int) ≠ 125 := fun e => hc (.inr e)
          refine go st hst (fun b hb => Ev_up (Ev.step (fun k => e0 k) ?_))
          simp only [if_neg n41, beq_eq_false_iff_ne.mpr n125]
          refine Ev_up ?_
          simp only [laws_sgLeft.j2, if_neg (show ¬ (false = true) by decide), w1]
          exact hb
    · refine ⟨false, Ev_up ?_, fun _ j hj h1 => by omega⟩
      simp only [laws_sgLeft.l0, if_neg (show ¬ (i : Int) < (s.size : Int) by omega)]
      exact Ev.now _

theorem left_says (s : ByteArray) (hs : s.size ≤ 1099511627776) : ∃ b, Ev (fun k => laws_sgLeft.f k s) b ∧ (b = false → NoBad (bytesOf s)) := by
  obtain ⟨b, hb, hf⟩ := left_loop s hs (s.size + 1) 0 [] (by omega) (by omega) (by simp)
  exact ⟨b, hb, fun e => fine_noBad (fun j => hf e j (by omega))⟩
end Go.Proofs.Ythkblpbabcibcaa.SgT
