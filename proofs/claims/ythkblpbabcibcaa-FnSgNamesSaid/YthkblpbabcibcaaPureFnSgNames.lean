/- No signature holds a byte that is no letter of types: the plain law. -/
import Derived.Test.YthkblpbabcibcaaPSgx3
import Derived.Test.YthkblpbabcibcaaSgA
import Derived.Test.YthkblpbabcibcaaSgL
import Derived.Test.YthkblpbabcibcaaSgM
namespace Go.Proofs.Ythkblpbabcibcaa.Pure
open Go.RowKit Go.Proofs.Ythkblpbabcibcaa.PSg Go.Proofs.YthkblpbabcibcaaW.PrintWords Go.Proofs.YthkblpbabcibcaaW.PrintLast Go.Proofs.Ythkblpbabcibcaa.SgT Go.Proofs.Ythkblpbabcibcaa.Pl Go.Proofs.Ythkblpbabcibcaa.By

theorem letters_all {g : List Int → Option (List Int)} (hg : ∀ l r, g l = some r → ∃ p, l = p ++ r ∧ ∀ c ∈ p, letter c = true) :
    ∀ (n : Nat) (l : List Int), vsAllL g n l = true → ∀ c ∈ l, letter c = true := by
  intro n
  induction n with
  | zero =>
    intro l h
    rw [vsAllL] at h
    have : l = [] := by simpa using h
    rw [this]; simp
  | succ n ih =>
    intro l h
    rw [vsAllL] at h
    split at h
    · rename_i e; rw [e]; simp
    · split at h
      · cases h
      · rename_i r hr
        obtain ⟨p, rfl, hp⟩ := hg l r hr
        intro c hc
        rcases List.mem_append.mp hc with hc | hc
        · exact hp c hc
        · exact ih r h c hc

theorem letters_of : ∀ (k : Nat) (l r : List Int) (a t d : Int), vsL k l a t d = some r → ∃ p, l = p ++ r ∧ ∀ c ∈ p, letter c = true := by
  intro k
  induction k with
  | zero => intro l r a t d h; cases h
  | succ k ih =>
    intro l r a t d h
    cases l with
    | nil => rw [vsL] at h; cases h
    | cons c l =>
      rw [vsL] at h
      split at h
      · cases h
      · split at h
        · rename_i hl
          cases h
          exact ⟨[c], rfl, fun z hz => by rw [List.mem_singleton.mp hz, letter, hl]; rfl⟩
        · split at h
          · rename_i hc
            subst hc
            split at h
            · rename_i hh
              obtain ⟨l', rfl⟩ : ∃ l', l = 123 :: l' := by
                cases l with
                | nil => cases hh
                | cons z l' => rw [List.head?_cons] at hh; cases hh; exact ⟨l', rfl⟩
              simp only [List.tail_cons] at h
              split at h
              · cases h
              · rename_i i hi
                have hat := bmL_at l' 1 i hi
                split at h
                · cases h
                · rename_i key v hm
                  rw [hm] at hat
                  split at h
                  · cases h
                  · rename_i r1 hk1
                    split at h
                    · cases h
                    · rename_i r2 hv1
                      split at h
                      · rename_i hr2
                        subst hr2
                        cases h
                        obtain ⟨p2, e2, h2⟩ := ih v [] _ _ _ hv1
                        rw [List.append_nil] at e2
                        subst e2
                        have hlk : letter key = true := by
                          obtain ⟨p1, e1, h1⟩ := ih _ _ _ _ _ hk1
                          cases p1 with
                          | nil =>
                            -- what is taken is never empty
                            exfalso
                            cases k with
                            | zero => cases hk1
                            | succ k =>
                              rw [List.nil_append] at e1
                              subst e1
                              rw [vsL] at hk1
                              split at hk1
                              · cases hk1
                              · split at hk1
                                · cases hk1
                                · split at hk1
                                  · rw [if_neg (by simp)] at hk1
                                    cases k <;> cases hk1
                                  · split at hk1
                                    · cases hk1
                                    · cases hk1
                          | cons z p1 =>
                            have : key = z := (List.cons.inj e1).1
                            rw [this]; exact h1 z (by simp)
                        obtain ⟨z, hz⟩ : ∃ z, l'.drop (i + 1) = z := ⟨_, rfl⟩
                        rw [hz] at hat ⊢
                        subst hat
                        refine ⟨97 :: 123 :: key :: (v ++ [125]), by simp, ?_⟩
                        intro c hc
                        simp only [List.mem_cons, List.mem_append, List.not_mem_nil, or_false] at hc
                        rcases hc with rfl | rfl | rfl | hc | rfl
                        · decide
                        · decide
                        · exact hlk
                        · exact h2 c hc
                        · decide
                      · cases h
            · obtain ⟨p, rfl, hp⟩ := ih l r _ _ _ h
              refine ⟨97 :: p, rfl, ?_⟩
              intro c hc
              rcases List.mem_cons.mp hc with rfl | hc
              · decide
              · exact hp c hc
          · split at h
            · rename_i hc
              subst hc
              split at h
              · cases h
              · rename_i i hi
                have hat := bmL_at l 1 i hi
                split at h
                · rename_i hv
                  cases h
                  have hm := letters_all (fun l r h => ih l r _ _ _ h) _ _ hv
                  obtain ⟨z, hz⟩ : ∃ z, l.drop (i + 1) = z := ⟨_, rfl⟩
                  obtain ⟨m, hm2⟩ : ∃ m, l.take i = m := ⟨_, rfl⟩
                  rw [hz, hm2] at hat
                  rw [hz]
                  rw [hm2] at hm
                  subst hat
                  refine ⟨40 :: (m ++ [41]), by simp, ?_⟩
                  intro c hc
                  simp only [List.mem_cons, List.mem_append, List.not_mem_nil, or_false] at hc
                  rcases hc with rfl | hc | rfl
                  · decide
                  · exact hm c hc
                  · decide
                · cases h
            · cases h

theorem names_psOk {s : ByteArray} (h : Given.psOk s = true) : ∀ c ∈ bytesOf s, letter c = true := by
  rw [Given.psOk, Bool.and_eq_true, vsAll_list (gL := fun y => vsL 256 y 0 0 0) (fun s => vs_list 256 s 0 0 0)] at h
  exact letters_all (fun l r h => letters_of 256 l r 0 0 0 h) _ _ h.2

theorem names_true (a : ByteArray) (c : Int) (b : ByteArray) : Ev (fun k => laws_FnSgNames.j1 k a c b true) true := by
  refine Ev_up ?_
  simp only [laws_FnSgNames.j1, if_true]; exact Ev.now _

theorem names_end (a : ByteArray) (c : Int) (b : ByteArray) (ha : a.size ≤ 140737488351232) (hb : b.size ≤ 140737488351232) (h0 : 0 ≤ c) (h1 : c ≤ 255) (hl : letter c = false) (x : Bool) : Ev (fun k => laws_FnSgNames.j1 k a c b x) true := by
  cases x with
  | true => exact names_true a c b
  | false =>
    have hp : Given.psOk ((a ++ strOfNums [c]) ++ b) = false := by
      cases hp : Given.psOk ((a ++ strOfNums [c]) ++ b) with
      | false => rfl
      | true =>
        have := names_psOk hp c (by
          rw [bytesOf_append, bytesOf_append, bytesOf_strOfNums [c] (fun x hx => by rw [List.mem_singleton.mp hx]; exact ⟨h0, h1⟩)]
          simp)
        rw [hl] at this; cases this
    refine Ev_up ?_
    have z1 : (strOfNums [c]).size = 1 := bytes_len [c]
    have z2 : (a ++ strOfNums [c]).size = a.size + 1 := by rw [ByteArray.size_append, z1]
    simp only [laws_FnSgNames.j1, if_neg (show ¬ (false = true) by decide), Option.bind_some, if_pos (show a.size + (strOfNums [c]).size ≤ 9223372036854775807 by omega), if_pos (show (a ++ strOfNums [c]).size + b.size ≤ 9223372036854775807 by omega)]
    rw [parse_lone 118 (by decide), Given.SgParse.f, hp]
    exact Ev.now _

theorem FnSgNames : laws_FnSgNames.Pure := by
  intro a c b ha hc hb
  have rc := u8_range hc
  refine Ev.rounds ?_
  have yes : Ev (fun k => laws_FnSgNames.j0 k a c b true) true := by
    refine Ev_up ?_
    simp only [laws_FnSgNames.j0, if_true]; exact Ev.now _
  unfold laws_FnSgNames.f
  split
  · exact yes
  rename_i hA
  by_cases hB : (b.size : Int) > 2147483647
  · rw [decide_eq_true hB]; exact yes
  rw [decide_eq_false hB]
  refine Ev_up ?_
  simp only [laws_FnSgNames.j0, if_neg (show ¬ (false = true) by decide), w64 (x := (a.size : Int) + (b.size : Int)) (by omega) (by omega), basic_f, Option.bind_some]
  by_cases hs : (a.size : Int) + (b.size : Int) > 4096
  · simp only [if_pos hs]; exact names_true a c b
  simp only [if_neg hs]
  cases hbc : basic c with
  | true => simp only [if_true]; exact names_true a c b
  | false =>
    simp only [if_neg (show ¬ (false = true) by decide)]
    by_cases h118 : c = 118
    · simp only [if_pos h118]; exact names_true a c b
    by_cases h97 : c = 97
    · simp only [if_neg h118, if_pos h97]; exact names_true a c b
    by_cases h40 : c = 40
    · simp only [if_neg h118, if_neg h97, if_pos h40]; exact names_true a c b
    by_cases h41 : c = 41
    · simp only [if_neg h118, if_neg h97, if_neg h40, if_pos h41]; exact names_true a c b
    by_cases h123 : c = 123
    · simp only [if_neg h118, if_neg h97, if_neg h40, if_neg h41, if_pos h123]; exact names_true a c b
    by_cases h125 : c = 125
    · simp only [if_neg h118, if_neg h97, if_neg h40, if_neg h41, if_neg h123, if_pos h125]; exact names_true a c b
    have z1 : (strOfNums [c]).size = 1 := bytes_len [c]
    have z2 : (a ++ strOfNums [c]).size = a.size + 1 := by rw [ByteArray.size_append, z1]
    have hl : letter c = false := by
      have e : Given.lone c = false := by
        cases hl : Given.lone c with
        | false => rfl
        | true => rw [basic, hl, bne_iff_ne.mpr h118] at hbc; cases hbc
      rw [letter, e, beq_eq_false_iff_ne.mpr h97, beq_eq_false_iff_ne.mpr h40, beq_eq_false_iff_ne.mpr h41, beq_eq_false_iff_ne.mpr h123, beq_eq_false_iff_ne.mpr h125]; rfl
    simp only [if_neg h118, if_neg h97, if_neg h40, if_neg h41, if_neg h123, if_neg h125, if_pos (show a.size + (strOfNums [c]).size ≤ 9223372036854775807 by omega), if_pos (show (a ++ strOfNums [c]).size + b.size ≤ 9223372036854775807 by omega)]
    obtain ⟨x, hx, _⟩ := left_says ((a ++ strOfNums [c]) ++ b) (by rw [ByteArray.size_append]; omega)
    refine Ev.bind hx ?_
    exact names_end a c b ha hb rc.1 rc.2 hl x
end Go.Proofs.Ythkblpbabcibcaa.Pure
