/- The specification's reader of types, over lists, reads the words of trees. Plain Lean. -/
import Derived.Test.YthkblpbabcibcaaDoorSgT
namespace Go.Proofs.YthkblpbabcibcaaDoor.SgT
open Go.Proofs.YthkblpbabcibcaaDoor.Given

/-- Types up to a ')': how many letters they have; none if it isn't so. -/
def slL (g : List Int → Nat) : Nat → List Int → Option Nat
  | 0, _ => none
  | n + 1, l => match l with
    | [] => none
    | c :: r => if c = 41 then some 0 else if g (c :: r) = 0 then none else (slL g n ((c :: r).drop (g (c :: r)))).map (· + g (c :: r))

def cmpL : Nat → List Int → Int → Int → Int → Nat
  | 0, _, _, _, _ => 0
  | k + 1, l, A, T, D => match l with
    | [] => 0
    | c :: r =>
      if (decide (A < 0) || decide (T < 0) || decide (D < 0)) = true then 0
      else if Given.lone c = true then 1
      else if c = 97 then
        (if r.head? = some 123 then
          (match r.tail with
          | [] => 0
          | key :: v => if basic key = true then (if cmpL k v (A - 1) T (D - 1) ≠ 0 ∧ v[cmpL k v (A - 1) T (D - 1)]? = some 125 then cmpL k v (A - 1) T (D - 1) + 4 else 0) else 0)
         else if cmpL k r (A - 1) T D = 0 then 0 else cmpL k r (A - 1) T D + 1)
      else if c = 40 then
        (match slL (fun x => cmpL k x A (T - 1) D) (r.length + 1) r with
        | none => 0
        | some m => if m = 0 then 0 else m + 2)
      else 0

theorem not_ok (A T D : Int) : (decide (A < 0) || decide (T < 0) || decide (D < 0)) = !(ok (32 - A) (32 - T) (32 - D)) := by
  unfold ok
  have e1 : decide (32 - A ≤ 32) = !decide (A < 0) := by rw [← decide_not]; exact decide_eq_decide.mpr (by omega)
  have e2 : decide (32 - T ≤ 32) = !decide (T < 0) := by rw [← decide_not]; exact decide_eq_decide.mpr (by omega)
  have e3 : decide (32 - D ≤ 32) = !decide (D < 0) := by rw [← decide_not]; exact decide_eq_decide.mpr (by omega)
  rw [e1, e2, e3]
  cases decide (A < 0) <;> cases decide (T < 0) <;> cases decide (D < 0) <;> rfl

theorem cmpL_word : ∀ (x : Tr), (wf x true → ∀ (k : Nat) (rest : List Int) (A T D : Int), (word x).length < k → cmpL k (word x ++ rest) A T D = if fits x (32 - A) (32 - T) (32 - D) = true then (word x).length else 0)
    ∧ (wf x false → ∀ (k n : Nat) (rest : List Int) (A T D : Int), (word x).length < k → (word x).length < n → slL (fun y => cmpL k y A T D) n (word x ++ 41 :: rest) = if fits x (32 - A) (32 - T) (32 - D) = true then some (word x).length else none) := by
  intro x
  induction x with
  | nil =>
    refine ⟨fun h => absurd h (by simp [wf]), fun h k n rest A T D _ hn => ?_⟩
    obtain ⟨n, rfl⟩ : ∃ m, n = m + 1 := ⟨n - 1, by omega⟩
    simp [word, slL, fits]
  | cons x xs ih1 ih2 =>
    refine ⟨fun h => absurd h.1 (by decide), fun h k n rest A T D hk hn => ?_⟩
    have hl := word_len h.2.1
    rw [word, List.length_append] at hk hn
    obtain ⟨n, rfl⟩ : ∃ m, n = m + 1 := ⟨n - 1, by omega⟩
    have hx := ih1.1 h.2.1 k (word xs ++ 41 :: rest) A T D (by omega)
    have hxs := ih2.2 h.2.2 k n rest A T D (by omega) (by omega)
    obtain ⟨c, r, e, h1, h2, h3⟩ := head_wf h.2.1
    have e2 : word x ++ (word xs ++ 41 :: rest) = c :: (r ++ (word xs ++ 41 :: rest)) := by rw [e]; rfl
    rw [word, List.append_assoc, fits]
    rw [e2, slL, if_neg h2, ← e2, hx]
    cases fits x (32 - A) (32 - T) (32 - D) with
    | false => simp
    | true =>
      simp only [if_true, Bool.true_and]
      rw [if_neg (by omega), List.drop_left, hxs]
      cases fits xs (32 - A) (32 - T) (32 - D) with
      | false => rfl
      | true => simp [Nat.add_comm]
  | lone c =>
    refine ⟨fun h k rest A T D hk => ?_, fun h => by cases h.1⟩
    obtain ⟨k, rfl⟩ : ∃ m, k = m + 1 := ⟨k - 1, by omega⟩
    rw [word, List.singleton_append, cmpL, not_ok, fits]
    cases ok (32 - A) (32 - T) (32 - D) with
    | false => rfl
    | true => simp only [Bool.not_true, if_neg (show ¬ (false = true) by decide), if_pos h.2, if_true]; rfl
  | arr x ih =>
    refine ⟨fun h k rest A T D hk => ?_, fun h => by cases h.1⟩
    rw [word, List.length_cons] at hk
    obtain ⟨k, rfl⟩ : ∃ m, k = m + 1 := ⟨k - 1, by omega⟩
    rw [word, List.cons_append, cmpL, not_ok, fits]
    have hx := ih.1 h.2 k rest (A - 1) T D (by omega)
    rw [show 32 - (A - 1) = 32 - A + 1 by omega] at hx
    have hl := word_len h.2
    cases ok (32 - A) (32 - T) (32 - D) with
    | false => rfl
    | true =>
      simp only [Bool.not_true, lone97, if_neg (show ¬ (false = true) by decide), if_true, if_neg (word_cons_ne h.2 rest), Bool.true_and, hx, List.length_cons]
      cases fits x (32 - A + 1) (32 - T) (32 - D) with
      | false => rfl
      | true => simp only [if_true]; rw [if_neg (by omega)]
  | dict key x ih =>
    refine ⟨fun h k rest A T D hk => ?_, fun h => by cases h.1⟩
    have e : word (.dict key x) ++ rest = 97 :: 123 :: key :: (word x ++ 125 :: rest) := by simp [word]
    have el : (word (.dict key x)).length = (word x).length + 4 := by simp [word]
    rw [el] at hk
    obtain ⟨k, rfl⟩ : ∃ m, k = m + 1 := ⟨k - 1, by omega⟩
    have hx := ih.1 h.2.2 k (125 :: rest) (A - 1) T (D - 1) (by omega)
    rw [show 32 - (A - 1) = 32 - A + 1 by omega, show 32 - (D - 1) = 32 - D + 1 by omega] at hx
    have hl := word_len h.2.2
    have hg : (word x ++ 125 :: rest)[(word x).length]? = some 125 := by simp
    rw [e, el, cmpL, not_ok, fits]
    cases ok (32 - A) (32 - T) (32 - D) with
    | false => rfl
    | true =>
      simp only [Bool.not_true, lone97, if_neg (show ¬ (false = true) by decide), if_true, List.head?_cons, List.tail_cons, if_pos h.2.1, Bool.true_and, hx]
      cases fits x (32 - A + 1) (32 - T) (32 - D + 1) with
      | false => simp
      | true => simp only [if_true]; rw [if_pos ⟨by omega, hg⟩]
  | str xs ih =>
    refine ⟨fun h k rest A T D hk => ?_, fun h => by cases h.1⟩
    have e : word (.str xs) ++ rest = 40 :: (word xs ++ 41 :: rest) := by simp [word]
    have el : (word (.str xs)).length = (word xs).length + 2 := by simp [word]
    rw [el] at hk
    obtain ⟨k, rfl⟩ : ∃ m, k = m + 1 := ⟨k - 1, by omega⟩
    have hx := ih.2 h.2.2 k ((word xs ++ 41 :: rest).length + 1) rest A (T - 1) D (by omega) (by simp; omega)
    rw [show 32 - (T - 1) = 32 - T + 1 by omega] at hx
    have hl : (word xs).length ≠ 0 := fun e => h.2.1 (List.length_eq_zero_iff.mp e)
    rw [e, el, cmpL, not_ok, fits]
    cases ok (32 - A) (32 - T) (32 - D) with
    | false => rfl
    | true =>
      simp only [Bool.not_true, lone40, if_neg (show ¬ (false = true) by decide), if_neg (show ¬ ((40 : Int) = 97) by decide), if_true, Bool.true_and, hx]
      cases fits xs (32 - A) (32 - T + 1) (32 - D) with
      | false => rfl
      | true => simp only [if_true]; rw [if_neg hl]

theorem slL_tree {g : List Int → Nat} (hg : ∀ l, g l ≠ 0 → ∃ x, wf x true ∧ ∃ rest, l = word x ++ rest ∧ g l = (word x).length) :
    ∀ (n : Nat) (l : List Int) (m : Nat), slL g n l = some m → ∃ xs, wf xs false ∧ ∃ rest, l = word xs ++ 41 :: rest ∧ m = (word xs).length := by
  intro n
  induction n with
  | zero => intro l m h; cases h
  | succ n ih =>
    intro l m h
    cases l with
    | nil => cases h
    | cons c r =>
      rw [slL] at h
      split at h
      · rename_i hc
        cases h
        exact ⟨.nil, rfl, r, by rw [hc]; rfl, rfl⟩
      · split at h
        · cases h
        · rename_i h0
          obtain ⟨j, hj, rfl⟩ := Option.map_eq_some_iff.mp h
          obtain ⟨x, hx, rest, e, el⟩ := hg _ h0
          rw [el, e, List.drop_left] at hj
          obtain ⟨xs, hxs, rest2, e2, em⟩ := ih _ _ hj
          refine ⟨.cons x xs, ⟨rfl, hx, hxs⟩, rest2, ?_, ?_⟩
          · rw [e, e2, word, List.append_assoc]
          · rw [word, List.length_append, em, el]; omega

theorem cmpL_tree : ∀ (k : Nat) (l : List Int) (A T D : Int), cmpL k l A T D ≠ 0 → ∃ x, wf x true ∧ ∃ rest, l = word x ++ rest ∧ cmpL k l A T D = (word x).length := by
  intro k
  induction k with
  | zero => intro l A T D h; exact absurd rfl h
  | succ k ih =>
    intro l A T D h
    cases l with
    | nil => exact absurd rfl h
    | cons c r =>
      rw [cmpL] at h ⊢
      split at h
      · exact absurd rfl h
      · rename_i hA
        rw [if_neg hA]
        split at h
        · rename_i hl
          exact ⟨.lone c, ⟨rfl, hl⟩, r, rfl, by rw [if_pos hl]; rfl⟩
        · rename_i hl
          rw [if_neg hl]
          split at h
          · rename_i hc
            rw [if_pos hc]
            subst hc
            split at h
            · rename_i hh
              rw [if_pos hh]
              obtain ⟨l', rfl⟩ : ∃ l', r = 123 :: l' := by
                cases r with
                | nil => cases hh
                | cons z l' => rw [List.head?_cons] at hh; cases hh; exact ⟨l', rfl⟩
              simp only [List.tail_cons] at h ⊢
              cases l' with
              | nil => exact absurd rfl h
              | cons key v =>
                dsimp only at h ⊢
                split at h
                · rename_i hk
                  rw [if_pos hk]
                  split at h
                  · rename_i hv
                    rw [if_pos hv]
                    obtain ⟨x, hx, rest, e, el⟩ := ih v _ _ _ hv.1
                    have h125 := hv.2
                    rw [el, e, List.getElem?_append_right (Nat.le_refl _), Nat.sub_self] at h125
                    cases rest with
                    | nil => cases h125
                    | cons z rest =>
                      cases h125
                      refine ⟨.dict key x, ⟨rfl, hk, hx⟩, rest, ?_, ?_⟩
                      · rw [e]; simp [word]
                      · rw [el]; simp [word]
                  · exact absurd rfl h
                · exact absurd rfl h
            · rename_i hh
              rw [if_neg hh]
              split at h
              · exact absurd rfl h
              · rename_i h0
                rw [if_neg h0]
                obtain ⟨x, hx, rest, e, el⟩ := ih r _ _ _ h0
                exact ⟨.arr x, ⟨rfl, hx⟩, rest, by rw [e]; rfl, by rw [el]; rfl⟩
          · rename_i hc
            rw [if_neg hc]
            split at h
            · rename_i h40
              rw [if_pos h40]
              subst h40
              split at h
              · exact absurd rfl h
              · rename_i m hm
                split at h
                · exact absurd rfl h
                · rename_i h0
                  rw [if_neg h0]
                  obtain ⟨xs, hxs, rest, e, em⟩ := slL_tree (fun l h => ih l _ _ _ h) _ _ _ hm
                  refine ⟨.str xs, ⟨rfl, ?_, hxs⟩, rest, ?_, ?_⟩
                  · intro e0; rw [e0] at em; exact h0 em
                  · rw [e]; simp [word]
                  · rw [em]; simp [word]
            · exact absurd rfl h
end Go.Proofs.YthkblpbabcibcaaDoor.SgT
