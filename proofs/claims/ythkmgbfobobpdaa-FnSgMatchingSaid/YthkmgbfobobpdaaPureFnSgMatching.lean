/- In a text of at most 2^12 bytes that begins with one mark (a bracket or a brace) the inner search finds the place of the mark that closes it, -1 if there is none. For every text; longer ones and those that begin otherwise are let by, as the law has it. -/
import Derived.Test.YthkmgbfobobpdaaPFnSgMatchingx1
import Derived.Test.YthkmgbfobobpdaaPl
import Derived.Test.YthkmgbfobobpdaaBm
namespace Go.Proofs.Ythkmgbfobobpdaa.Pure
open Go.RowKit Go.Proofs.Ythkmgbfobobpdaa.PFnSgMatching Go.Proofs.YthkmgbfobobpdaaW.PrintWords Go.Proofs.YthkmgbfobobpdaaW.PrintLast
open Go.Proofs.Ythkmgbfobobpdaa.Pl Go.Proofs.Ythkmgbfobobpdaa.Bm Go.Proofs.Ythkmgbfobobpdaa.Given

theorem matching (s : ByteArray) (L R : Int) (hL : 0 ≤ L ∧ L ≤ 127) (hR : 0 ≤ R ∧ R ≤ 127) (h0 : 0 < s.size) (hs : s.size ≤ 4096) (hb : bt s 0 = L) :
    impl_SgMatching.f s L R = some (bm s L R (s.size - 1) 1 1) := by
  simp only [impl_SgMatching.f, dbus_DoorMatching.f, findMatching.f, w32 (x := L) (by omega) (by omega), w32 (x := R) (by omega) (by omega)]
  rw [if_pos (by omega), fm_first s L R hL.2 hR.2 h0 hb]; rfl

theorem three : impl_SgMatching.f (⟨#[40, 97, 41]⟩ : ByteArray) 40 41 = some 2 := by
  rw [matching _ 40 41 (by omega) (by omega) (by decide) (by decide) (by decide)]
  decide

/-- Where the search has come to its end. -/
theorem law_end (s : ByteArray) (L R : Int) (want deep : Int) (i : Int) (hm : impl_SgMatching.f s L R = some want) : Ev (fun k => laws_FnSgMatching.j3 k s L R want deep i false) true := by
  refine Ev_up ?_
  simp only [laws_FnSgMatching.j3, hm, three, Option.bind_some, if_true, if_neg (show ¬ (false = true) by decide)]
  exact Ev_some rfl

theorem law_go (s : ByteArray) (L R : Int) (hs : s.size ≤ 4096) (r : Int) (hm : impl_SgMatching.f s L R = some r) (d : Nat) :
    ∀ (i : Nat) (deep : Int), s.size - i = d → 1 ≤ deep → deep ≤ i → bm s L R (s.size - i) i deep = r → Ev (fun k => laws_FnSgMatching.l0 k s L R (-1) deep (i : Int)) true := by
  induction d with
  | zero =>
    intro i deep hd _ _ hr
    have hn : ¬ (i : Int) < (s.size : Int) := by omega
    refine Ev_up ?_
    simp only [laws_FnSgMatching.l0, if_neg hn]
    rw [show s.size - i = 0 by omega] at hr
    have hr' : r = -1 := hr.symm
    subst hr'
    exact law_end s L R (-1) deep i hm
  | succ d ih =>
    intro i deep hd h1 h2 hr
    have hlt : (i : Int) < (s.size : Int) := by omega
    rw [hd, bm] at hr
    have e1 : wrap64 ((i : Int) + 1) = ((i + 1 : Nat) : Int) := by rw [w64 (by omega) (by omega)]; omega
    have e2 : wrap64 (deep + 1) = deep + 1 := w64 (by omega) (by omega)
    have e3 : wrap64 (deep - 1) = deep - 1 := w64 (by omega) (by omega)
    have hd' : s.size - (i + 1) = d := by omega
    refine Ev_up ?_
    simp only [laws_FnSgMatching.l0, if_pos hlt]
    refine Ev_up ?_
    simp only [laws_FnSgMatching.j3, if_pos hlt, if_pos (show (0 : Int) ≤ (i : Int) by omega), e1, e2, e3, show decide ((-1 : Int) < 0) = true by decide, if_true]
    by_cases c1 : bt s (i : Int) = L
    · simp only [if_pos c1] at hr ⊢
      exact ih (i + 1) (deep + 1) hd' (by omega) (by omega) (by rw [hd']; exact hr)
    · simp only [if_neg c1] at hr ⊢
      by_cases c2 : bt s (i : Int) = R
      · simp only [if_pos c2] at hr ⊢
        by_cases c3 : deep - 1 = 0
        · simp only [if_pos c3] at hr ⊢
          have hr' : r = (i : Int) := hr.symm
          subst hr'
          refine Ev_up ?_
          by_cases c4 : ((i + 1 : Nat) : Int) < (s.size : Int)
          · simp only [laws_FnSgMatching.l0, if_pos c4, show decide ((i : Int) < 0) = false by simp]
            exact law_end s L R _ _ _ hm
          · simp only [laws_FnSgMatching.l0, if_neg c4]
            exact law_end s L R _ _ _ hm
        · simp only [if_neg c3] at hr ⊢
          exact ih (i + 1) (deep - 1) hd' (by omega) (by omega) (by rw [hd']; exact hr)
      · simp only [if_neg c2] at hr ⊢
        exact ih (i + 1) deep hd' (by omega) (by omega) (by rw [hd']; exact hr)

theorem law_in (s : ByteArray) (L R : Int) (hL : 0 ≤ L ∧ L ≤ 127) (hR : 0 ≤ R ∧ R ≤ 127) (hz : s.size ≤ 140737488351232) : Ev (fun k => laws_FnSgMatching.j0 k s L R) true := by
  have out : Ev (fun k => laws_FnSgMatching.j1 k s L R true) true := by
    refine Ev_up ?_
    simp only [laws_FnSgMatching.j1, if_true]
    exact Ev.now _
  refine Ev_up ?_
  simp only [laws_FnSgMatching.j0]
  by_cases c0 : s.toList = ([] : List UInt8)
  · simp only [if_pos c0]; exact out
  have h0 : 0 < s.size := by
    have : s.size ≠ 0 := fun h => c0 (toList_nil.mpr h)
    omega
  simp only [if_neg c0, if_pos (show (0 : Int) < (s.size : Int) by omega)]
  by_cases c1 : bt s 0 = L
  · simp only [if_pos c1]
    by_cases c2 : (s.size : Int) > 4096
    · rw [decide_eq_true c2]; exact out
    · rw [decide_eq_false c2]
      refine Ev_up ?_
      simp only [laws_FnSgMatching.j1, if_neg (show ¬ (false = true) by decide)]
      have hm := matching s L R hL hR h0 (by omega) c1
      refine Ev_up ?_
      have hlt : (0 : Int) < (s.size : Int) := by omega
      simp only [laws_FnSgMatching.l0, if_pos hlt]
      refine Ev_up ?_
      simp only [laws_FnSgMatching.j3, if_pos hlt, if_pos (show (0 : Int) ≤ 0 by omega), show decide ((-1 : Int) < 0) = true by decide, if_true, if_pos c1, w64 (x := 0 + 1) (by omega) (by omega)]
      exact law_go s L R (by omega) _ hm (s.size - 1) 1 1 rfl (by omega) (by omega) rfl
  · simp only [if_neg c1]; exact out

theorem FnSgMatching : laws_FnSgMatching.Pure := by
  intro s b hs
  refine Ev.rounds ?_
  by_cases hb : (s.size : Int) > 2147483647
  · simp only [laws_FnSgMatching.f, if_pos hb]
    exact Ev.now _
  · simp only [laws_FnSgMatching.f, if_neg hb]
    cases b
    · simp only [if_neg (show ¬ (false = true) by decide)]
      exact law_in s 40 41 (by omega) (by omega) hs
    · simp only [if_true]
      exact law_in s 123 125 (by omega) (by omega) hs

end Go.Proofs.Ythkmgbfobobpdaa.Pure
