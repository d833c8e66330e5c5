/- The grammar of types as trees: their words, how deep they stand, what reads them. Plain Lean. -/
import Derived.Test.YthkblpbabcibcaaDoorGvVs
namespace Go.Proofs.YthkblpbabcibcaaDoor.SgT
open Go.Proofs.YthkblpbabcibcaaDoor.Given

/-- Types (lone, arr, dict, str) and lists of types (nil, cons). -/
inductive Tr
  | nil
  | cons (x xs : Tr)
  | lone (c : Int)
  | arr (x : Tr)
  | dict (key : Int) (x : Tr)
  | str (xs : Tr)

def word : Tr → List Int
  | .nil => []
  | .cons x xs => word x ++ word xs
  | .lone c => [c]
  | .arr x => 97 :: word x
  | .dict key x => 97 :: 123 :: key :: (word x ++ [125])
  | .str xs => 40 :: (word xs ++ [41])

def basic (c : Int) : Bool := Given.lone c && c != 118

def wf : Tr → Bool → Prop
  | .nil, b => b = false
  | .cons x xs, b => b = false ∧ wf x true ∧ wf xs false
  | .lone c, b => b = true ∧ Given.lone c = true
  | .arr x, b => b = true ∧ wf x true
  | .dict key x, b => b = true ∧ basic key = true ∧ wf x true
  | .str xs, b => b = true ∧ word xs ≠ [] ∧ wf xs false

def ok (a t d : Int) : Bool := decide (a ≤ 32) && decide (t ≤ 32) && decide (d ≤ 32)

def fits : Tr → Int → Int → Int → Bool
  | .nil, _, _, _ => true
  | .cons x xs, a, t, d => fits x a t d && fits xs a t d
  | .lone _, a, t, d => ok a t d
  | .arr x, a, t, d => ok a t d && fits x (a + 1) t d
  | .dict _ x, a, t, d => ok a t d && fits x (a + 1) t (d + 1)
  | .str xs, a, t, d => ok a t d && fits xs a (t + 1) d

theorem lone_ne {c : Int} (h : Given.lone c = true) : c ≠ 97 ∧ c ≠ 40 ∧ c ≠ 41 ∧ c ≠ 123 ∧ c ≠ 125 := by
  rcases is_lone h with ((((((((((((h | h) | h) | h) | h) | h) | h) | h) | h) | h) | h) | h) | h) | h <;> (subst h; decide)
theorem basic_lone {c : Int} (h : basic c = true) : Given.lone c = true := by
  unfold basic at h; rw [Bool.and_eq_true] at h; exact h.1
theorem lone97 : Given.lone 97 = false := by decide
theorem lone40 : Given.lone 40 = false := by decide

/-- A type's first letter closes nothing and is no brace. -/
theorem head_wf {x : Tr} (h : wf x true) : ∃ c r, word x = c :: r ∧ c ≠ 123 ∧ c ≠ 41 ∧ c ≠ 125 := by
  cases x with
  | nil => cases h
  | cons x xs => cases h.1
  | lone c => exact ⟨c, [], rfl, (lone_ne h.2).2.2.2.1, (lone_ne h.2).2.2.1, (lone_ne h.2).2.2.2.2⟩
  | arr x => exact ⟨97, _, rfl, by decide, by decide, by decide⟩
  | dict key x => exact ⟨97, _, rfl, by decide, by decide, by decide⟩
  | str xs => exact ⟨40, _, rfl, by decide, by decide, by decide⟩

theorem fits_ok {x : Tr} (h : wf x true) {a t d : Int} (hf : fits x a t d = true) : ok a t d = true := by
  cases x with
  | nil => cases h
  | cons x xs => cases h.1
  | lone c => exact hf
  | arr x => rw [fits, Bool.and_eq_true] at hf; exact hf.1
  | dict key x => rw [fits, Bool.and_eq_true] at hf; exact hf.1
  | str xs => rw [fits, Bool.and_eq_true] at hf; exact hf.1

/-! ### the search for the closing mark -/
def bmL (L R : Int) : List Int → Int → Option Nat
  | [], _ => none
  | c :: r, n => if c = L then (bmL L R r (n + 1)).map (· + 1) else if c = R then (if n - 1 = 0 then some 0 else (bmL L R r (n - 1)).map (· + 1)) else (bmL L R r n).map (· + 1)

/-- (40, 41) or (123, 125). -/
def Marks (L R : Int) : Prop := (L = 40 ∧ R = 41) ∨ (L = 123 ∧ R = 125)

theorem bmL_other {L R c : Int} (h1 : c ≠ L) (h2 : c ≠ R) (r : List Int) (n : Int) : bmL L R (c :: r) n = (bmL L R r n).map (· + 1) := by
  rw [bmL, if_neg h1, if_neg h2]
theorem map_add (o : Option Nat) (i j : Nat) : (o.map (· + i)).map (· + j) = o.map (· + (i + j)) := by
  cases o with
  | none => rfl
  | some x => simp [Nat.add_assoc]

theorem bmL_word {L R : Int} (hm : Marks L R) : ∀ (x : Tr) (b : Bool), wf x b → ∀ (rest : List Int) (n : Int), 1 ≤ n → bmL L R (word x ++ rest) n = (bmL L R rest n).map (· + (word x).length) := by
  intro x
  induction x with
  | nil => intro b h rest n hn; simp [word]
  | cons x xs ih1 ih2 =>
    intro b h rest n hn
    rw [word, List.append_assoc, ih1 true h.2.1 _ n hn, ih2 false h.2.2 _ n hn, map_add, List.length_append, Nat.add_comm]
  | lone c =>
    intro b h rest n hn
    have hc := lone_ne h.2
    have h1 : c ≠ L := by rcases hm with ⟨rfl, rfl⟩ | ⟨rfl, rfl⟩ <;> omega
    have h2 : c ≠ R := by rcases hm with ⟨rfl, rfl⟩ | ⟨rfl, rfl⟩ <;> omega
    rw [word, List.singleton_append, bmL_other h1 h2]; rfl
  | arr x ih =>
    intro b h rest n hn
    have h1 : (97 : Int) ≠ L := by rcases hm with ⟨rfl, rfl⟩ | ⟨rfl, rfl⟩ <;> omega
    have h2 : (97 : Int) ≠ R := by rcases hm with ⟨rfl, rfl⟩ | ⟨rfl, rfl⟩ <;> omega
    rw [word, List.cons_append, bmL_other h1 h2, ih true h.2 _ n hn, map_add, List.length_cons]
  | dict key x ih =>
    intro b h rest n hn
    have hc := lone_ne (basic_lone h.2.1)
    have e : word (.dict key x) ++ rest = 97 :: 123 :: key :: (word x ++ 125 :: rest) := by simp [word]
    have el : (word (.dict key x)).length = (word x).length + 4 := by simp [word]
    rw [e, el]
    rcases hm with ⟨rfl, rfl⟩ | ⟨rfl, rfl⟩
    · rw [bmL_other (by decide) (by decide), bmL_other (by decide) (by decide), bmL_other hc.2.1 hc.2.2.1, ih true h.2.2 _ n hn, bmL_other (by decide) (by decide)]
      simp only [map_add]; congr 1; funext z; omega
    · rw [bmL_other (by decide) (by decide), bmL, if_pos rfl, bmL_other hc.2.2.2.1 hc.2.2.2.2, ih true h.2.2 _ (n + 1) (by omega), bmL, if_neg (by decide), if_pos rfl, if_neg (by omega), show n + 1 - 1 = n by omega]
      simp only [map_add]; congr 1; funext z; omega
  | str xs ih =>
    intro b h rest n hn
    have e : word (.str xs) ++ rest = 40 :: (word xs ++ 41 :: rest) := by simp [word]
    have el : (word (.str xs)).length = (word xs).length + 2 := by simp [word]
    rw [e, el]
    rcases hm with ⟨rfl, rfl⟩ | ⟨rfl, rfl⟩
    · rw [bmL, if_pos rfl, ih false h.2.2 _ (n + 1) (by omega), bmL, if_neg (by decide), if_pos rfl, if_neg (by omega), show n + 1 - 1 = n by omega]
      simp only [map_add]; congr 1; funext z; omega
    · rw [bmL_other (by decide) (by decide), ih false h.2.2 _ n hn, bmL_other (by decide) (by decide)]
      simp only [map_add]; congr 1; funext z; omega

theorem bmL_close {L R : Int} (h : L ≠ R) (r : List Int) : bmL L R (R :: r) 1 = some 0 := by rw [bmL, if_neg (fun e => h e.symm), if_pos rfl, if_pos (by decide)]
theorem bmL_at {L R : Int} : ∀ (l : List Int) (n : Int) (i : Nat), bmL L R l n = some i → l = l.take i ++ R :: l.drop (i + 1) := by
  intro l
  induction l with
  | nil => intro n i h; cases h
  | cons c r ih =>
    intro n i h
    have step : ∀ m j, bmL L R r m = some j → i = j + 1 → c :: r = (c :: r).take i ++ R :: (c :: r).drop (i + 1) := by
      intro m j hj hi
      subst hi
      rw [List.take_succ_cons, List.drop_succ_cons, List.cons_append, ← ih m j hj]
    rw [bmL] at h
    split at h
    · obtain ⟨j, hj, rfl⟩ := Option.map_eq_some_iff.mp h
      exact step _ j hj rfl
    · split at h
      · rename_i hc
        split at h
        · cases h; rw [hc]; rfl
        · obtain ⟨j, hj, rfl⟩ := Option.map_eq_some_iff.mp h
          exact step _ j hj rfl
      · obtain ⟨j, hj, rfl⟩ := Option.map_eq_some_iff.mp h
        exact step _ j hj rfl

/-! ### the program's reader, over lists -/
def vsAllL (g : List Int → Option (List Int)) : Nat → List Int → Bool
  | 0, l => decide (l = [])
  | n + 1, l => if l = [] then true else match g l with
    | none => false
    | some r => vsAllL g n r

def vsL : Nat → List Int → Int → Int → Int → Option (List Int)
  | 0, _, _, _, _ => none
  | k + 1, l, a, t, d => match l with
    | [] => none
    | c :: r =>
      if ok a t d = false then none
      else if Given.lone c = true then some r
      else if c = 97 then
        (if r.head? = some 123 then
          (match bmL 123 125 r.tail 1 with
          | none => none
          | some i => match r.tail.take i with
            | [] => none
            | key :: v => match vsL k [key] (a + 1) t (d + 1) with
              | none => none
              | some _ => match vsL k v (a + 1) t (d + 1) with
                | none => none
                | some x => if x = [] then some (r.tail.drop (i + 1)) else none)
         else vsL k r (a + 1) t d)
      else if c = 40 then
        (match bmL 40 41 r 1 with
        | none => none
        | some i => if vsAllL (fun x => vsL k x a (t + 1) d) (r.length + 1) (r.take i) = true then some (r.drop (i + 1)) else none)
      else none

theorem word_cons_ne {x : Tr} (h : wf x true) (rest : List Int) : (word x ++ rest).head? ≠ some 123 := by
  obtain ⟨c, r, e, h1, _⟩ := head_wf h
  rw [e]; simp; exact h1
theorem word_len {x : Tr} (h : wf x true) : 1 ≤ (word x).length := by
  obtain ⟨c, r, e, _⟩ := head_wf h
  rw [e]; simp

theorem vsL_word : ∀ (x : Tr), (wf x true → ∀ (k : Nat) (rest : List Int) (a t d : Int), (word x).length < k → vsL k (word x ++ rest) a t d = if fits x a t d = true then some rest else none)
    ∧ (wf x false → ∀ (k n : Nat) (a t d : Int), (word x).length < k → (word x).length ≤ n → vsAllL (fun y => vsL k y a t d) n (word x) = fits x a t d) := by
  intro x
  induction x with
  | nil =>
    refine ⟨fun h => absurd h (by simp [wf]), fun h k n a t d _ _ => ?_⟩
    cases n with
    | zero => simp [word, vsAllL, fits]
    | succ n => simp [word, vsAllL, fits]
  | cons x xs ih1 ih2 =>
    refine ⟨fun h => absurd h.1 (by decide), fun h k n a t d hk hn => ?_⟩
    have hl := word_len h.2.1
    rw [word, List.length_append] at hk hn
    obtain ⟨n, rfl⟩ : ∃ m, n = m + 1 := ⟨n - 1, by omega⟩
    have hne : word x ++ word xs ≠ [] := by
      intro e; have := congrArg List.length e; rw [List.length_append, List.length_nil] at this; omega
    rw [word, vsAllL, if_neg hne, ih1.1 h.2.1 k (word xs) a t d (by omega), fits]
    cases fits x a t d with
    | false => rfl
    | true =>
      simp only [if_true, Bool.true_and]
      exact ih2.2 h.2.2 k n a t d (by omega) (by omega)
  | lone c =>
    refine ⟨fun h k rest a t d hk => ?_, fun h => by cases h.1⟩
    obtain ⟨k, rfl⟩ : ∃ m, k = m + 1 := ⟨k - 1, by omega⟩
    rw [word, List.singleton_append, vsL, fits]
    cases ok a t d with
    | false => rfl
    | true => simp only [if_neg (show ¬ (true = false) by decide), if_pos h.2, if_true]
  | arr x ih =>
    refine ⟨fun h k rest a t d hk => ?_, fun h => by cases h.1⟩
    rw [word, List.length_cons] at hk
    obtain ⟨k, rfl⟩ : ∃ m, k = m + 1 := ⟨k - 1, by omega⟩
    rw [word, List.cons_append, vsL, fits]
    cases ok a t d with
    | false => rfl
    | true =>
      simp only [if_neg (show ¬ (true = false) by decide), lone97, if_neg (show ¬ (false = true) by decide), if_true, if_neg (word_cons_ne h.2 rest), Bool.true_and]
      exact ih.1 h.2 k rest (a + 1) t d (by omega)
  | dict key x ih =>
    refine ⟨fun h k rest a t d hk => ?_, fun h => by cases h.1⟩
    have e : word (.dict key x) ++ rest = 97 :: 123 :: key :: (word x ++ 125 :: rest) := by simp [word]
    have el : (word (.dict key x)).length = (word x).length + 4 := by simp [word]
    rw [el] at hk
    obtain ⟨k, rfl⟩ : ∃ m, k = m + 1 := ⟨k - 1, by omega⟩
    obtain ⟨k, rfl⟩ : ∃ m, k = m + 1 := ⟨k - 1, by omega⟩
    have hc := lone_ne (basic_lone h.2.1)
    have hb : bmL 123 125 (key :: (word x ++ 125 :: rest)) 1 = some ((word x).length + 1) := by
      rw [bmL_other hc.2.2.2.1 hc.2.2.2.2, bmL_word (.inr ⟨rfl, rfl⟩) x true h.2.2 _ 1 (by omega), bmL_close (by decide)]
      simp
    have ht : (key :: (word x ++ 125 :: rest)).take ((word x).length + 1) = key :: word x := by simp
    have hd : (key :: (word x ++ 125 :: rest)).drop ((word x).length + 1 + 1) = rest := by
      rw [List.drop_succ_cons, List.drop_append]; simp
    rw [e, vsL, fits]
    cases ok a t d with
    | false => rfl
    | true =>
      simp only [if_neg (show ¬ (true = false) by decide), lone97, if_neg (show ¬ (false = true) by decide), if_true, List.head?_cons, List.tail_cons, hb, ht, hd, Bool.true_and]
      have hx := ih.1 h.2.2 (k + 1) [] (a + 1) t (d + 1) (by omega)
      rw [List.append_nil] at hx
      rw [hx]
      have hkey : vsL (k + 1) [key] (a + 1) t (d + 1) = if ok (a + 1) t (d + 1) = true then some [] else none := by
        rw [vsL]
        cases ok (a + 1) t (d + 1) with
        | false => rfl
        | true => simp only [if_neg (show ¬ (true = false) by decide), if_pos (basic_lone h.2.1), if_true]
      rw [hkey]
      cases hf : fits x (a + 1) t (d + 1) with
      | true => rw [fits_ok h.2.2 hf]; rfl
      | false => cases ok (a + 1) t (d + 1) <;> rfl
  | str xs ih =>
    refine ⟨fun h k rest a t d hk => ?_, fun h => by cases h.1⟩
    have e : word (.str xs) ++ rest = 40 :: (word xs ++ 41 :: rest) := by simp [word]
    have el : (word (.str xs)).length = (word xs).length + 2 := by simp [word]
    rw [el] at hk
    obtain ⟨k, rfl⟩ : ∃ m, k = m + 1 := ⟨k - 1, by omega⟩
    have hb : bmL 40 41 (word xs ++ 41 :: rest) 1 = some (word xs).length := by
      rw [bmL_word (.inl ⟨rfl, rfl⟩) xs false h.2.2 _ 1 (by omega), bmL_close (by decide)]; simp
    have ht : (word xs ++ 41 :: rest).take (word xs).length = word xs := by simp
    have hd : (word xs ++ 41 :: rest).drop ((word xs).length + 1) = rest := by
      rw [List.drop_append]; simp
    rw [e, vsL, fits]
    cases ok a t d with
    | false => rfl
    | true =>
      simp only [if_neg (show ¬ (true = false) by decide), lone40, if_neg (show ¬ (false = true) by decide), if_neg (show ¬ ((40 : Int) = 97) by decide), if_true, hb, ht, hd, Bool.true_and]
      rw [ih.2 h.2.2 k _ a (t + 1) d (by omega) (by simp; omega)]

/-! ### texts without "()" and without "{v" -/
def NoBad (l : List Int) : Prop := ∀ p q, l ≠ p ++ 40 :: 41 :: q ∧ l ≠ p ++ 123 :: 118 :: q
theorem NoBad.mid {u v w : List Int} (h : NoBad (u ++ (v ++ w))) : NoBad v := by
  intro p q
  refine ⟨fun e => (h (u ++ p) (q ++ w)).1 ?_, fun e => (h (u ++ p) (q ++ w)).2 ?_⟩
  · rw [e]; simp
  · rw [e]; simp
theorem NoBad.tail {c : Int} {l : List Int} (h : NoBad (c :: l)) : NoBad l := by
  have := NoBad.mid (u := [c]) (v := l) (w := []) (by simpa using h)
  exact this

theorem vsAllL_tree {g : List Int → Option (List Int)} (hg : ∀ l r, NoBad l → g l = some r → ∃ x, wf x true ∧ l = word x ++ r) :
    ∀ (n : Nat) (l : List Int), NoBad l → vsAllL g n l = true → ∃ xs, wf xs false ∧ l = word xs := by
  intro n
  induction n with
  | zero =>
    intro l hb h
    rw [vsAllL] at h
    exact ⟨.nil, rfl, by simpa [word] using h⟩
  | succ n ih =>
    intro l hb h
    rw [vsAllL] at h
    split at h
    · rename_i e; exact ⟨.nil, rfl, e⟩
    · split at h
      · cases h
      · rename_i r hr
        obtain ⟨x, hx, e⟩ := hg l r hb hr
        have hbr : NoBad r := NoBad.mid (u := word x) (v := r) (w := []) (by rw [List.append_nil, ← e]; exact hb)
        obtain ⟨xs, hxs, e2⟩ := ih r hbr h
        exact ⟨.cons x xs, ⟨rfl, hx, hxs⟩, by rw [e, e2]; rfl⟩

theorem vsL_tree : ∀ (k : Nat) (l r : List Int) (a t d : Int), NoBad l → vsL k l a t d = some r → ∃ x, wf x true ∧ l = word x ++ r := by
  intro k
  induction k with
  | zero => intro l r a t d hb h; cases h
  | succ k ih =>
    intro l r a t d hb h
    cases l with
    | nil => rw [vsL] at h; cases h
    | cons c l =>
      rw [vsL] at h
      split at h
      · cases h
      · split at h
        · rename_i hl
          cases h
          exact ⟨.lone c, ⟨rfl, hl⟩, rfl⟩
        · split at h
          · rename_i hc
            subst hc
            split at h
            · rename_i hh
              obtain ⟨l', rfl⟩ : ∃ l', l = 123 :: l' := by
                cases l with
                | nil => cases hh
                | cons z l' => rw [List.head?_cons] at hh; cases hh; exact ⟨l', rfl⟩
              simp only [List.tail_cons] at h
              split at h
              · cases h
              · rename_i i hi
                have hat := bmL_at l' 1 i hi
                split at h
                · cases h
                · rename_i key v hm
                  rw [hm] at hat
                  obtain ⟨z, hz⟩ : ∃ z, l'.drop (i + 1) = z := ⟨_, rfl⟩
                  rw [hz] at hat h
                  clear hm hz hi
                  subst hat
                  clear hh
                  have hbk : NoBad [key] := NoBad.mid (u := [97, 123]) (v := [key]) (w := v ++ 125 :: z) (by simpa using hb)
                  have hbv : NoBad v := NoBad.mid (u := [97, 123, key]) (v := v) (w := 125 :: z) (by simpa using hb)
                  split at h
                  · cases h
                  · rename_i r1 hk1
                    split at h
                    · cases h
                    · rename_i r2 hv1
                      split at h
                      · rename_i hr2
                        subst hr2
                        cases h
                        obtain ⟨x, hx, ex⟩ := ih v [] _ _ _ hbv hv1
                        rw [List.append_nil] at ex
                        have hlk : Given.lone key = true := by
                          cases k with
                          | zero => cases hk1
                          | succ k =>
                            rw [vsL] at hk1
                            split at hk1
                            · cases hk1
                            · split at hk1
                              · assumption
                              · split at hk1
                                · rw [if_neg (by simp)] at hk1
                                  cases k <;> cases hk1
                                · split at hk1
                                  · cases hk1
                                  · cases hk1
                        have hk118 : key ≠ 118 := by
                          intro e
                          subst e
                          exact (hb [97] (v ++ 125 :: r)).2 (by simp)
                        refine ⟨.dict key x, ⟨rfl, by rw [basic, hlk, bne_iff_ne.mpr hk118]; rfl, hx⟩, ?_⟩
                        rw [word, ← ex]
                        simp
                      · cases h
            · obtain ⟨x, hx, e⟩ := ih l r _ _ _ hb.tail h
              exact ⟨.arr x, ⟨rfl, hx⟩, by rw [word, e]; rfl⟩
          · split at h
            · rename_i hc
              subst hc
              split at h
              · cases h
              · rename_i i hi
                have hat := bmL_at l 1 i hi
                split at h
                · rename_i hv
                  cases h
                  obtain ⟨z, hz⟩ : ∃ z, l.drop (i + 1) = z := ⟨_, rfl⟩
                  obtain ⟨m, hm⟩ : ∃ m, l.take i = m := ⟨_, rfl⟩
                  rw [hz]
                  rw [hz, hm] at hat
                  rw [hm] at hv
                  clear hm hz hi
                  subst hat
                  have hbm : NoBad m := NoBad.mid (u := [40]) (v := m) (w := 41 :: z) (by simpa using hb)
                  obtain ⟨xs, hxs, e⟩ := vsAllL_tree (fun l r hb h => ih l r _ _ _ hb h) _ _ hbm hv
                  refine ⟨.str xs, ⟨rfl, ?_, hxs⟩, ?_⟩
                  · intro e0
                    rw [e0] at e
                    subst e
                    exact (hb [] z).1 (by simp)
                  · rw [word, ← e]
                    simp
                · cases h
            · cases h
end Go.Proofs.YthkblpbabcibcaaDoor.SgT
