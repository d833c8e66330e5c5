/- The specification's reader of types over bytes is that over lists. -/
import Derived.Test.YthkblpbabcibcaaDoorPWax2
import Derived.Test.YthkblpbabcibcaaDoorSgA
import Derived.Test.YthkblpbabcibcaaDoorSgC
import Derived.Test.YthkblpbabcibcaaDoorBy
namespace Go.Proofs.YthkblpbabcibcaaDoor.SgT
open Go.RowKit Go.Proofs.YthkblpbabcibcaaDoor.PWa Go.Proofs.YthkblpbabcibcaaDoorW.PrintWords Go.Proofs.YthkblpbabcibcaaDoorW.PrintLast Go.Proofs.YthkblpbabcibcaaDoor.Pl Go.Proofs.YthkblpbabcibcaaDoor.Utf Go.Proofs.YthkblpbabcibcaaDoor.By

theorem lone_basic (c : Int) : Given.lone c = (basic c || c == 118) := by
  unfold basic
  by_cases h : c = 118
  · subst h; decide
  · rw [beq_eq_false_iff_ne.mpr h, bne_iff_ne.mpr h]; simp

/-- A guard that isn't reached. -/
theorem lo (x : Int) (h1 : -1000 ≤ x) (h2 : x ≤ 100000) : wrap64 (x - 1) = x - 1 := w64 (by omega) (by omega)

def Cm (k0 : Nat) : Prop := ∀ (s : ByteArray) (A T D : Int), s.size < k0 → s.size ≤ 1099511627776 → -1000 ≤ A → A ≤ 1000 → -1000 ≤ T → T ≤ 1000 → -1000 ≤ D → D ≤ 1000 → Ev (fun k => spec_Complete.f k s A T D) (cmpL k0 (bytesOf s) A T D : Int)

theorem cmpL_le (k : Nat) (l : List Int) (A T D : Int) : cmpL k l A T D ≤ l.length := by
  by_cases h : cmpL k l A T D = 0
  · omega
  · obtain ⟨x, _, rest, e, el⟩ := cmpL_tree k l A T D h
    rw [el, e, List.length_append]; omega

theorem cm_loop (k0 : Nat) (ih : Cm k0) (s : ByteArray) (A T D : Int) (hs : s.size ≤ 1099511627776) (hk : s.size < k0 + 1) (hA : -1000 ≤ A) (hA2 : A ≤ 1000) (hT : 0 ≤ T) (hT2 : T ≤ 1000) (hD : -1000 ≤ D) (hD2 : D ≤ 1000) :
    ∀ (n at_ : Nat), 1 ≤ at_ → at_ ≤ s.size → s.size - at_ < n → Ev (fun k => spec_Complete.l0 k s A T D (at_ : Int)) (match slL (fun x => cmpL k0 x A (T - 1) D) n ((bytesOf s).drop at_) with
      | none => 0
      | some m => if at_ + m = 1 then 0 else ((at_ + m + 1 : Nat) : Int)) := by
  intro n
  induction n with
  | zero => intro at_ h1 h2 h3; omega
  | succ n ihn =>
    intro at_ h1 h2 h3
    refine Ev_up ?_
    simp only [spec_Complete.l0]
    by_cases hlt : at_ < s.size
    · rw [bytesOf_drop s at_ hlt]
      simp only [if_pos (show (at_ : Int) < (s.size : Int) by omega), if_pos (show (0 : Int) ≤ (at_ : Int) by omega)]
      refine Ev_up ?_
      simp only [spec_Complete.j5]
      by_cases h41 : bt s (at_ : Int) = 41
      · have e : (bt s (at_ : Int) != 41) = false := by rw [h41]; rfl
        rw [slL, if_pos h41]
        simp only [e, if_neg (show ¬ (false = true) by decide)]
        by_cases ha1 : at_ = 1
        · rw [if_neg (by omega), if_pos (by omega)]
          exact Ev.now _
        · rw [if_pos (show (at_ : Int) > 1 by omega), if_pos (show (at_ : Int) < (s.size : Int) by omega), if_neg (by omega), w64 (by omega) (by omega)]
          exact Ev_some (by omega)
      · have e : (bt s (at_ : Int) != 41) = true := by rw [bne_iff_ne]; exact h41
        simp only [e, if_true, if_pos (show (0 : Int) ≤ (at_ : Int) by omega), if_pos (show (at_ : Int) ≤ (s.size : Int) by omega), Int.toNat_natCast]
        rw [slL, if_neg h41, lo T (by omega) (by omega)]
        have hi := ih (s.extract at_ s.size) A (T - 1) D (by rw [ByteArray.size_extract]; omega) (by rw [ByteArray.size_extract]; omega) hA hA2 (by omega) (by omega) hD hD2
        rw [bytesOf_from, bytesOf_drop s at_ hlt] at hi
        have hle := cmpL_le k0 ((bytesOf s).drop at_) A (T - 1) D
        rw [List.length_drop, bytesOf_length, bytesOf_drop s at_ hlt] at hle
        refine Ev.bind hi ?_
        generalize hc : cmpL k0 (bt s (at_ : Int) :: (bytesOf s).drop (at_ + 1)) A (T - 1) D = c at hle
        by_cases hc0 : c = 0
        · simp only [if_pos (show (c : Int) = 0 by omega), if_pos hc0]
          exact Ev.now _
        · simp only [if_neg (show ¬ (c : Int) = 0 by omega), if_neg hc0, w64 (x := (at_ : Int) + (c : Int)) (by omega) (by omega)]
          have hn := ihn (at_ + c) (by omega) (by omega) (by omega)
          rw [show (at_ : Int) + (c : Int) = ((at_ + c : Nat) : Int) by omega]
          rw [← bytesOf_drop s at_ hlt, List.drop_drop]
          cases hsl : slL (fun x => cmpL k0 x A (T - 1) D) n ((bytesOf s).drop (at_ + c)) with
          | none => rw [hsl] at hn; exact hn
          | some m =>
            rw [hsl] at hn
            dsimp only [Option.map_some] at hn ⊢
            rw [show at_ + (m + c) = at_ + c + m by omega]
            exact hn
    · rw [List.drop_eq_nil_of_le (by rw [bytesOf_length]; omega)]
      simp only [if_neg (show ¬ ((at_ : Int) < (s.size : Int)) by omega)]
      refine Ev_up ?_
      simp only [spec_Complete.j5, if_neg (show ¬ (false = true) by decide), if_neg (show ¬ ((at_ : Int) < (s.size : Int)) by omega)]
      rw [slL]
      dsimp only
      split <;> exact Ev.now _

theorem ev_u {α : Type} {f g : Nat → Option α} {r : α} (h : ∀ k, f (k + 1) = g k) (hg : Ev g r) : Ev f r := Ev.step h hg

theorem complete_all : ∀ k0, Cm k0 := by
  intro k0
  induction k0 with
  | zero => intro s A T D h; omega
  | succ k0 ih =>
    intro s A T D hk hs hA hA2 hT hT2 hD hD2
    by_cases h0 : s.size = 0
    · rw [bytesOf_nil.mpr h0]
      refine Ev_up (Ev_up ?_)
      simp only [spec_Complete.f, Pl.toList_nil.mpr h0, if_true, spec_Complete.j0]
      exact Ev.now _
    have hpos : 0 < s.size := by omega
    have hl1 : (bytesOf s).length = s.size := bytesOf_length s
    have hnl : ¬ s.toList = ([] : List UInt8) := fun e => h0 (Pl.toList_nil.mp e)
    rw [bytesOf_cons s hpos, cmpL]
    -- a guard that stops it
    by_cases hg : (decide (A < 0) || decide (T < 0) || decide (D < 0)) = true
    · rw [if_pos hg]
      refine Ev_up (Ev_up ?_)
      simp only [spec_Complete.f, if_neg hnl]
      by_cases gA : A < 0
      · simp only [if_pos gA, spec_Complete.j0, if_true]; exact Ev.now _
      · simp only [if_neg gA]
        by_cases gT : T < 0
        · simp only [if_pos gT, spec_Complete.j0, if_true]; exact Ev.now _
        · have gD : D < 0 := by simpa [gA, gT] using hg
          simp only [if_neg gT, decide_eq_true gD, spec_Complete.j0, if_true]; exact Ev.now _
    rw [if_neg hg]
    have gA : ¬ A < 0 := fun e => hg (by simp [e])
    have gT : ¬ T < 0 := fun e => hg (by simp [e])
    have gD : ¬ D < 0 := fun e => hg (by simp [e])
    have p0 : (0 : Int) < (s.size : Int) := by omega
    refine Ev_up ?_
    simp only [spec_Complete.f, if_neg hnl, if_neg gA, if_neg gT, decide_eq_false gD]
    refine Ev_up ?_
    simp only [spec_Complete.j0, if_neg (show ¬ (false = true) by decide), if_pos p0, basic_f, Option.bind_some]
    -- the letters that stand for themselves
    cases hl : Given.lone (bt s 0) with
    | true =>
      rw [if_pos rfl]
      refine Ev_up ?_
      have e := lone_basic (bt s 0)
      rw [hl] at e
      by_cases hb : basic (bt s 0) = true
      · simp only [if_pos hb, spec_Complete.j1, if_true]; exact Ev.now _
      · have hb' : basic (bt s 0) = false := by simpa using hb
        rw [hb', Bool.false_or] at e
        simp only [hb', if_neg (show ¬ (false = true) by decide), ← e, spec_Complete.j1, if_true]; exact Ev.now _
    | false =>
      rw [if_neg (by decide)]
      have e := lone_basic (bt s 0)
      rw [hl] at e
      have hb' : basic (bt s 0) = false := by
        cases h : basic (bt s 0) with
        | false => rfl
        | true => rw [h] at e; cases e
      rw [hb', Bool.false_or] at e
      refine Ev_up ?_
      simp only [hb', if_neg (show ¬ (false = true) by decide), ← e, spec_Complete.j1, if_pos p0]
      by_cases h97 : bt s 0 = 97
      · simp only [if_pos h97]
        by_cases h1 : 1 < s.size
        · have q1 : (1 : Int) < (s.size : Int) := by omega
          simp only [if_pos (show (s.size : Int) > 1 by omega)]
          have hd1 : (bytesOf s).drop 1 = bt s 1 :: (bytesOf s).drop 2 := bytesOf_drop s 1 h1
          by_cases h123 : bt s 1 = 123
          · rw [hd1, h123, if_pos (show (123 :: (bytesOf s).drop 2).head? = some (123 : Int) from rfl), List.tail_cons]
            refine Ev_up ?_
            simp only [show ((123 : Int) == 123) = true from rfl, spec_Complete.j2, if_true]
            by_cases h4 : s.size < 4
            · simp only [if_pos (show (s.size : Int) < 4 by omega)]
              refine Ev_up ?_
              simp only [spec_Complete.j3, if_true]
              by_cases h2 : 2 < s.size
              · have hd2 : (bytesOf s).drop 2 = bt s 2 :: (bytesOf s).drop 3 := bytesOf_drop s 2 h2
                have hz : cmpL k0 [] (A - 1) T (D - 1) = 0 := by cases k0 <;> rfl
                rw [hd2, List.drop_eq_nil_of_le (show (bytesOf s).length ≤ 3 by omega)]
                simp only [hz, ne_eq, not_true_eq_false, false_and, if_false, ite_self]
                exact Ev.now _
              · rw [List.drop_eq_nil_of_le (show (bytesOf s).length ≤ 2 by omega)]
                exact Ev.now _
            · have h2 : 2 < s.size := by omega
              have hd2 : (bytesOf s).drop 2 = bt s 2 :: (bytesOf s).drop 3 := bytesOf_drop s 2 h2
              rw [hd2]
              simp only [if_neg (show ¬ (s.size : Int) < 4 by omega), if_pos (show (2 : Int) < (s.size : Int) by omega), basic_f, Option.bind_some]
              refine Ev_up ?_
              cases hk2 : basic (bt s 2) with
              | false =>
                simp only [Bool.not_false, spec_Complete.j3, if_true, if_neg (show ¬ (false = true) by decide)]
                exact Ev.now _
              | true =>
                simp only [Bool.not_true, spec_Complete.j3, if_true, if_neg (show ¬ (false = true) by decide), if_pos (show (3 : Int) ≤ (s.size : Int) by omega), lo A (by omega) (by omega), lo D (by omega) (by omega)]
                have hi := ih (s.extract 3 s.size) (A - 1) T (D - 1) (by rw [ByteArray.size_extract]; omega) (by rw [ByteArray.size_extract]; omega) (by omega) (by omega) hT hT2 (by omega) (by omega)
                rw [bytesOf_from] at hi
                have hle := cmpL_le k0 ((bytesOf s).drop 3) (A - 1) T (D - 1)
                rw [List.length_drop, hl1] at hle
                refine Ev.bind hi ?_
                generalize cmpL k0 ((bytesOf s).drop 3) (A - 1) T (D - 1) = c at hle
                by_cases hc0 : c = 0
                · simp only [hc0]
                  exact Ev.now _
                · simp only [if_neg (show ¬ (c : Int) = 0 by omega), w64 (x := (c : Int) + 4) (by omega) (by omega), w64 (x := (c : Int) + 3) (by omega) (by omega)]
                  by_cases hlt : s.size < c + 4
                  · simp only [if_pos (show (s.size : Int) < (c : Int) + 4 by omega)]
                    rw [List.getElem?_drop, List.getElem?_eq_none (by omega), if_neg (by simp)]
                    exact Ev.now _
                  · simp only [if_neg (show ¬ (s.size : Int) < (c : Int) + 4 by omega), if_pos (show (0 : Int) ≤ (c : Int) + 3 by omega), if_pos (show (c : Int) + 3 < (s.size : Int) by omega)]
                    have hgq : ((bytesOf s).drop 3)[c]? = some (bt s ((c : Int) + 3)) := by
                      rw [List.getElem?_drop, bytesOf_get s (3 + c) (by omega)]
                      rw [show ((3 + c : Nat) : Int) = (c : Int) + 3 by omega]
                    rw [hgq]
                    by_cases h125 : bt s ((c : Int) + 3) = 125
                    · rw [if_pos h125, if_pos ⟨hc0, by rw [h125]⟩]
                      exact Ev_some (by omega)
                    · rw [if_neg h125, if_neg (fun e => h125 (Option.some.inj e.2))]
                      exact Ev.now _
          · have e123 : (bt s 1 == 123) = false := by rw [beq_eq_false_iff_ne]; exact h123
            rw [if_neg (show ¬ ((bytesOf s).drop 1).head? = some 123 by rw [hd1]; intro e; exact h123 (Option.some.inj e))]
            refine Ev_up ?_
            simp only [e123, spec_Complete.j2, if_neg (show ¬ (false = true) by decide), if_pos p0, if_pos h97, if_pos (show (1 : Int) ≤ (s.size : Int) by omega), lo A (by omega) (by omega)]
            have hi := ih (s.extract 1 s.size) (A - 1) T D (by rw [ByteArray.size_extract]; omega) (by rw [ByteArray.size_extract]; omega) (by omega) (by omega) hT hT2 hD hD2
            rw [bytesOf_from] at hi
            have hle := cmpL_le k0 ((bytesOf s).drop 1) (A - 1) T D
            rw [List.length_drop, hl1] at hle
            refine Ev.bind hi ?_
            generalize cmpL k0 ((bytesOf s).drop 1) (A - 1) T D = c at hle
            by_cases hc0 : c = 0
            · simp only [if_neg (show ¬ (c : Int) > 0 by omega), if_pos hc0]; exact Ev.now _
            · simp only [if_pos (show (c : Int) > 0 by omega), if_neg hc0, w64 (x := (c : Int) + 1) (by omega) (by omega)]; exact Ev_some (by omega)
        · simp only [if_neg (show ¬ (s.size : Int) > 1 by omega)]
          rw [if_neg (show ¬ ((bytesOf s).drop 1).head? = some 123 by rw [List.drop_eq_nil_of_le (show (bytesOf s).length ≤ 1 by omega)]; simp)]
          refine Ev_up ?_
          simp only [spec_Complete.j2, if_neg (show ¬ (false = true) by decide), if_pos p0, if_pos h97, if_pos (show (1 : Int) ≤ (s.size : Int) by omega), lo A (by omega) (by omega)]
          have hi := ih (s.extract 1 s.size) (A - 1) T D (by rw [ByteArray.size_extract]; omega) (by rw [ByteArray.size_extract]; omega) (by omega) (by omega) hT hT2 hD hD2
          rw [bytesOf_from] at hi
          have hle := cmpL_le k0 ((bytesOf s).drop 1) (A - 1) T D
          rw [List.length_drop, hl1] at hle
          refine Ev.bind hi ?_
          generalize cmpL k0 ((bytesOf s).drop 1) (A - 1) T D = c at hle
          by_cases hc0 : c = 0
          · simp only [if_neg (show ¬ (c : Int) > 0 by omega), if_pos hc0]; exact Ev.now _
          · simp only [if_pos (show (c : Int) > 0 by omega), if_neg hc0, w64 (x := (c : Int) + 1) (by omega) (by omega)]; exact Ev_some (by omega)
      · simp only [if_neg h97]
        refine Ev_up ?_
        simp only [spec_Complete.j2, if_neg (show ¬ (false = true) by decide), if_pos p0, if_neg h97]
        by_cases h40 : bt s 0 = 40
        · simp only [if_pos h40]
          have hlp := cm_loop k0 ih s A T D hs hk hA hA2 (by omega) hT2 hD hD2 (((bytesOf s).drop 1).length + 1) 1 (by omega) (by omega) (by rw [List.length_drop, hl1]; omega)
          cases hsl : slL (fun x => cmpL k0 x A (T - 1) D) (((bytesOf s).drop 1).length + 1) ((bytesOf s).drop 1) with
          | none => rw [hsl] at hlp; exact hlp
          | some m =>
            rw [hsl] at hlp
            dsimp only at hlp ⊢
            by_cases hm : m = 0
            · rw [if_pos (by omega)] at hlp; rw [if_pos hm]; exact hlp
            · rw [if_neg (by omega)] at hlp; rw [if_neg hm, show m + 2 = 1 + m + 1 by omega]; exact hlp
        · simp only [if_neg h40]; exact Ev.now _
end Go.Proofs.YthkblpbabcibcaaDoor.SgT
