/- Part of the proof of LawFnSgOfParts. -/
import Derived.Test.YtnojjfklnihmnaaDoorSgA
import Derived.Test.YtnojjfklnihmnaaDoorPFnSgOfPartsx1
import Derived.Laws.BytesArg
import Derived.Test.YtnojjfklnihmnaaDoorPFnSgOfPartsx4
import Derived.Test.YtnojjfklnihmnaaDoorPFnSgOfPartsx3
set_option linter.unusedVariables false
set_option linter.unusedSimpArgs false
section
namespace Go.Proofs.YtnojjfklnihmnaaDoor.SgT
open Go.Proofs.YtnojjfklnihmnaaDoor.Given
def slL (g : List Int → Nat) : Nat → List Int → Option Nat
  | 0, _ => none
  | n + 1, l => match l with
    | [] => none
    | c :: r => if c = 41 then some 0 else if g (c :: r) = 0 then none else (slL g n ((c :: r).drop (g (c :: r)))).map (· + g (c :: r))
def cmpL : Nat → List Int → Int → Int → Int → Nat
  | 0, _, _, _, _ => 0
  | k + 1, l, A, T, D => match l with
    | [] => 0
    | c :: r =>
      if (decide (A < 0) || decide (T < 0) || decide (D < 0)) = true then 0
      else if Given.lone c = true then 1
      else if c = 97 then
        (if r.head? = some 123 then
          (match r.tail with
          | [] => 0
          | key :: v => if basic key = true then (if cmpL k v (A - 1) T (D - 1) ≠ 0 ∧ v[cmpL k v (A - 1) T (D - 1)]? = some 125 then cmpL k v (A - 1) T (D - 1) + 4 else 0) else 0)
         else if cmpL k r (A - 1) T D = 0 then 0 else cmpL k r (A - 1) T D + 1)
      else if c = 40 then
        (match slL (fun x => cmpL k x A (T - 1) D) (r.length + 1) r with
        | none => 0
        | some m => if m = 0 then 0 else m + 2)
      else 0
theorem not_ok (A T D : Int) : (decide (A < 0) || decide (T < 0) || decide (D < 0)) = !(ok (32 - A) (32 - T) (32 - D)) := by
  unfold ok
  have e1 : decide (32 - A ≤ 32) = !decide (A < 0) := by rw [← decide_not]; exact decide_eq_decide.mpr (by omega)
  have e2 : decide (32 - T ≤ 32) = !decide (T < 0) := by rw [← decide_not]; exact decide_eq_decide.mpr (by omega)
  have e3 : decide (32 - D ≤ 32) = !decide (D < 0) := by rw [← decide_not]; exact decide_eq_decide.mpr (by omega)
  rw [e1, e2, e3]
  cases decide (A < 0) <;> cases decide (T < 0) <;> cases decide (D < 0) <;> rfl
theorem cmpL_word : ∀ (x : Tr), (wf x true → ∀ (k : Nat) (rest : List Int) (A T D : Int), (word x).length < k → cmpL k (word x ++ rest) A T D = if fits x (32 - A) (32 - T) (32 - D) = true then (word x).length else 0)
    ∧ (wf x false → ∀ (k n : Nat) (rest : List Int) (A T D : Int), (word x).length < k → (word x).length < n → slL (fun y => cmpL k y A T D) n (word x ++ 41 :: rest) = if fits x (32 - A) (32 - T) (32 - D) = true then some (word x).length else none) := by
  intro x
  induction x with
  | nil =>
    refine ⟨fun h => absurd h (by simp [wf]), fun h k n rest A T D _ hn => ?_⟩
    obtain ⟨n, rfl⟩ : ∃ m, n = m + 1 := ⟨n - 1, by omega⟩
    simp [word, slL, fits]
  | cons x xs ih1 ih2 =>
    refine ⟨fun h => absurd h.1 (by decide), fun h k n rest A T D hk hn => ?_⟩
    have hl := word_len h.2.1
    rw [word, List.length_append] at hk hn
    obtain ⟨n, rfl⟩ : ∃ m, n = m + 1 := ⟨n - 1, by omega⟩
    have hx := ih1.1 h.2.1 k (word xs ++ 41 :: rest) A T D (by omega)
    have hxs := ih2.2 h.2.2 k n rest A T D (by omega) (by omega)
    obtain ⟨c, r, e, h1, h2, h3⟩ := head_wf h.2.1
    have e2 : word x ++ (word xs ++ 41 :: rest) = c :: (r ++ (word xs ++ 41 :: rest)) := by rw [e]; rfl
    rw [word, List.append_assoc, fits]
    rw [e2, slL, if_neg h2, ← e2, hx]
    cases fits x (32 - A) (32 - T) (32 - D) with
    | false => simp
    | true =>
      simp only [if_true, Bool.true_and]
      rw [if_neg (by omega), List.drop_left, hxs]
      cases fits xs (32 - A) (32 - T) (32 - D) with
      | false => rfl
      | true => simp [Nat.add_comm]
  | lone c =>
    refine ⟨fun h k rest A T D hk => ?_, fun h => by cases h.1⟩
    obtain ⟨k, rfl⟩ : ∃ m, k = m + 1 := ⟨k - 1, by omega⟩
    rw [word, List.singleton_append, cmpL, not_ok, fits]
    cases ok (32 - A) (32 - T) (32 - D) with
    | false => rfl
    | true => simp only [Bool.not_true, if_neg (show ¬ (false = true) by decide), if_pos h.2, if_true]; rfl
  | arr x ih =>
    refine ⟨fun h k rest A T D hk => ?_, fun h => by cases h.1⟩
    rw [word, List.length_cons] at hk
    obtain ⟨k, rfl⟩ : ∃ m, k = m + 1 := ⟨k - 1, by omega⟩
    rw [word, List.cons_append, cmpL, not_ok, fits]
    have hx := ih.1 h.2 k rest (A - 1) T D (by omega)
    rw [show 32 - (A - 1) = 32 - A + 1 by omega] at hx
    have hl := word_len h.2
    cases ok (32 - A) (32 - T) (32 - D) with
    | false => rfl
    | true =>
      simp only [Bool.not_true, lone97, if_neg (show ¬ (false = true) by decide), if_true, if_neg (word_cons_ne h.2 rest), Bool.true_and, hx, List.length_cons]
      cases fits x (32 - A + 1) (32 - T) (32 - D) with
      | false => rfl
      | true => simp only [if_true]; rw [if_neg (by omega)]
  | dict key x ih =>
    refine ⟨fun h k rest A T D hk => ?_, fun h => by cases h.1⟩
    have e : word (.dict key x) ++ rest = 97 :: 123 :: key :: (word x ++ 125 :: rest) := by simp [word]
    have el : (word (.dict key x)).length = (word x).length + 4 := by simp [word]
    rw [el] at hk
    obtain ⟨k, rfl⟩ : ∃ m, k = m + 1 := ⟨k - 1, by omega⟩
    have hx := ih.1 h.2.2 k (125 :: rest) (A - 1) T (D - 1) (by omega)
    rw [show 32 - (A - 1) = 32 - A + 1 by omega, show 32 - (D - 1) = 32 - D + 1 by omega] at hx
    have hl := word_len h.2.2
    have hg : (word x ++ 125 :: rest)[(word x).length]? = some 125 := by simp
    rw [e, el, cmpL, not_ok, fits]
    cases ok (32 - A) (32 - T) (32 - D) with
    | false => rfl
    | true =>
      simp only [Bool.not_true, lone97, if_neg (show ¬ (false = true) by decide), if_true, List.head?_cons, List.tail_cons, if_pos h.2.1, Bool.true_and, hx]
      cases fits x (32 - A + 1) (32 - T) (32 - D + 1) with
      | false => simp
      | true => simp only [if_true]; rw [if_pos ⟨by omega, hg⟩]
  | str xs ih =>
    refine ⟨fun h k rest A T D hk => ?_, fun h => by cases h.1⟩
    have e : word (.str xs) ++ rest = 40 :: (word xs ++ 41 :: rest) := by simp [word]
    have el : (word (.str xs)).length = (word xs).length + 2 := by simp [word]
    rw [el] at hk
    obtain ⟨k, rfl⟩ : ∃ m, k = m + 1 := ⟨k - 1, by omega⟩
    have hx := ih.2 h.2.2 k ((word xs ++ 41 :: rest).length + 1) rest A (T - 1) D (by omega) (by simp; omega)
    rw [show 32 - (T - 1) = 32 - T + 1 by omega] at hx
    have hl : (word xs).length ≠ 0 := fun e => h.2.1 (List.length_eq_zero_iff.mp e)
    rw [e, el, cmpL, not_ok, fits]
    cases ok (32 - A) (32 - T) (32 - D) with
    | false => rfl
    | true =>
      simp only [Bool.not_true, lone40, if_neg (show ¬ (false = true) by decide), if_neg (show ¬ ((40 : Int) = 97) by decide), if_true, Bool.true_and, hx]
      cases fits xs (32 - A) (32 - T + 1) (32 - D) with
      | false => rfl
      | true => simp only [if_true]; rw [if_neg hl]
theorem slL_tree {g : List Int → Nat} (hg : ∀ l, g l ≠ 0 → ∃ x, wf x true ∧ ∃ rest, l = word x ++ rest ∧ g l = (word x).length) :
    ∀ (n : Nat) (l : List Int) (m : Nat), slL g n l = some m → ∃ xs, wf xs false ∧ ∃ rest, l = word xs ++ 41 :: rest ∧ m = (word xs).length := by
  intro n
  induction n with
  | zero => intro l m h; cases h
  | succ n ih =>
    intro l m h
    cases l with
    | nil => cases h
    | cons c r =>
      rw [slL] at h
      split at h
      · rename_i hc
        cases h
        exact ⟨.nil, rfl, r, by rw [hc]; rfl, rfl⟩
      · split at h
        · cases h
        · rename_i h0
          obtain ⟨j, hj, rfl⟩ := Option.map_eq_some_iff.mp h
          obtain ⟨x, hx, rest, e, el⟩ := hg _ h0
          rw [el, e, List.drop_left] at hj
          obtain ⟨xs, hxs, rest2, e2, em⟩ := ih _ _ hj
          refine ⟨.cons x xs, ⟨rfl, hx, hxs⟩, rest2, ?_, ?_⟩
          · rw [e, e2, word, List.append_assoc]
          · rw [word, List.length_append, em, el]; omega
theorem cmpL_tree : ∀ (k : Nat) (l : List Int) (A T D : Int), cmpL k l A T D ≠ 0 → ∃ x, wf x true ∧ ∃ rest, l = word x ++ rest ∧ cmpL k l A T D = (word x).length := by
  intro k
  induction k with
  | zero => intro l A T D h; exact absurd rfl h
  | succ k ih =>
    intro l A T D h
    cases l with
    | nil => exact absurd rfl h
    | cons c r =>
      rw [cmpL] at h ⊢
      split at h
      · exact absurd rfl h
      · rename_i hA
        rw [if_neg hA]
        split at h
        · rename_i hl
          exact ⟨.lone c, ⟨rfl, hl⟩, r, rfl, by rw [if_pos hl]; rfl⟩
        · rename_i hl
          rw [if_neg hl]
          split at h
          · rename_i hc
            rw [if_pos hc]
            subst hc
            split at h
            · rename_i hh
              rw [if_pos hh]
              obtain ⟨l', rfl⟩ : ∃ l', r = 123 :: l' := by
                cases r with
                | nil => cases hh
                | cons z l' => rw [List.head?_cons] at hh; cases hh; exact ⟨l', rfl⟩
              simp only [List.tail_cons] at h ⊢
              cases l' with
              | nil => exact absurd rfl h
              | cons key v =>
                dsimp only at h ⊢
                split at h
                · rename_i hk
                  rw [if_pos hk]
                  split at h
                  · rename_i hv
                    rw [if_pos hv]
                    obtain ⟨x, hx, rest, e, el⟩ := ih v _ _ _ hv.1
                    have h125 := hv.2
                    rw [el, e, List.getElem?_append_right (Nat.le_refl _), Nat.sub_self] at h125
                    cases rest with
                    | nil => cases h125
                    | cons z rest =>
                      cases h125
                      refine ⟨.dict key x, ⟨rfl, hk, hx⟩, rest, ?_, ?_⟩
                      · rw [e]; simp [word]
                      · rw [el]; simp [word]
                  · exact absurd rfl h
                · exact absurd rfl h
            · rename_i hh
              rw [if_neg hh]
              split at h
              · exact absurd rfl h
              · rename_i h0
                rw [if_neg h0]
                obtain ⟨x, hx, rest, e, el⟩ := ih r _ _ _ h0
                exact ⟨.arr x, ⟨rfl, hx⟩, rest, by rw [e]; rfl, by rw [el]; rfl⟩
          · rename_i hc
            rw [if_neg hc]
            split at h
            · rename_i h40
              rw [if_pos h40]
              subst h40
              split at h
              · exact absurd rfl h
              · rename_i m hm
                split at h
                · exact absurd rfl h
                · rename_i h0
                  rw [if_neg h0]
                  obtain ⟨xs, hxs, rest, e, em⟩ := slL_tree (fun l h => ih l _ _ _ h) _ _ _ hm
                  refine ⟨.str xs, ⟨rfl, ?_, hxs⟩, rest, ?_, ?_⟩
                  · intro e0; rw [e0] at em; exact h0 em
                  · rw [e]; simp [word]
                  · rw [em]; simp [word]
            · exact absurd rfl h
end Go.Proofs.YtnojjfklnihmnaaDoor.SgT
end
section
namespace Go.Proofs.YtnojjfklnihmnaaDoor.By
open Go.RowKit Go.Proofs.YtnojjfklnihmnaaDoorW.PrintWords Go.Proofs.YtnojjfklnihmnaaDoor.Pl Go.Proofs.YtnojjfklnihmnaaDoor.Utf
theorem str_bytes (s : ByteArray) : strOfNums (bytesOf s) = s := by
  unfold strOfNums bytesOf
  rw [List.map_map]
  have : (fun b : UInt8 => UInt8.ofNat (b.toNat : Int).toNat) = id := by funext b; simp
  rw [show ((fun n : Int => UInt8.ofNat n.toNat) ∘ fun b : UInt8 => (b.toNat : Int)) = id from this]
  simp
theorem bytesOf_inj {a b : ByteArray} (h : bytesOf a = bytesOf b) : a = b := by rw [← str_bytes a, h, str_bytes]
theorem bytesOf_extract (s : ByteArray) (i j : Nat) : bytesOf (s.extract i j) = ((bytesOf s).take j).drop i := by
  have e : (s.extract i j).data.toList = (s.data.toList.take j).drop i := by
    rw [ByteArray.data_extract, Array.toList_extract, List.extract_eq_take_drop, List.drop_take]
  unfold bytesOf
  rw [e, List.map_drop, List.map_take]
theorem bytesOf_from (s : ByteArray) (i : Nat) : bytesOf (s.extract i s.size) = (bytesOf s).drop i := by
  rw [bytesOf_extract, List.take_of_length_le (by rw [bytesOf_length]; exact Nat.le_refl _)]
theorem bytesOf_get (s : ByteArray) (i : Nat) (h : i < s.size) : (bytesOf s)[i]? = some (bt s (i : Int)) := by
  have hl : i < (bytesOf s).length := by rw [bytesOf_length]; exact h
  have := rd_bytesOf s (i : Int)
  simp only [rd, Int.toNat_natCast, List.getD_eq_getElem?_getD, List.getElem?_eq_getElem hl, Option.getD_some] at this
  rw [List.getElem?_eq_getElem hl, this]
theorem bytesOf_drop (s : ByteArray) (i : Nat) (h : i < s.size) : (bytesOf s).drop i = bt s (i : Int) :: (bytesOf s).drop (i + 1) := by
  have hl : i < (bytesOf s).length := by rw [bytesOf_length]; exact h
  rw [List.drop_eq_getElem_cons hl]
  have := bytesOf_get s i h
  rw [List.getElem?_eq_getElem hl] at this
  rw [Option.some.inj this]
theorem bytesOf_cons (s : ByteArray) (h : 0 < s.size) : bytesOf s = bt s 0 :: (bytesOf s).drop 1 := by
  have := bytesOf_drop s 0 h
  rw [List.drop_zero] at this; exact this
theorem bytesOf_nil {s : ByteArray} : bytesOf s = [] ↔ s.size = 0 := by rw [← bytesOf_length, List.length_eq_zero_iff]
theorem bytesOf_append (a b : ByteArray) : bytesOf (a ++ b) = bytesOf a ++ bytesOf b := by
  unfold bytesOf; rw [ByteArray.data_append, Array.toList_append, List.map_append]
end Go.Proofs.YtnojjfklnihmnaaDoor.By
end
section
namespace Go.Proofs.YtnojjfklnihmnaaDoor.SgT
open Go.RowKit Go.Proofs.YtnojjfklnihmnaaDoor.PFnSgOfParts Go.Proofs.YtnojjfklnihmnaaDoorW.PrintWords Go.Proofs.YtnojjfklnihmnaaDoorW.PrintLast Go.Proofs.YtnojjfklnihmnaaDoor.Pl Go.Proofs.YtnojjfklnihmnaaDoor.Utf Go.Proofs.YtnojjfklnihmnaaDoor.By
theorem lone_basic (c : Int) : Given.lone c = (basic c || c == 118) := by
  unfold basic
  by_cases h : c = 118
  · subst h; decide
  · rw [beq_eq_false_iff_ne.mpr h, bne_iff_ne.mpr h]; simp
theorem lo (x : Int) (h1 : -1000 ≤ x) (h2 : x ≤ 100000) : wrap64 (x - 1) = x - 1 := w64 (by omega) (by omega)
def Cm (k0 : Nat) : Prop := ∀ (s : ByteArray) (A T D : Int), s.size < k0 → s.size ≤ 1099511627776 → -1000 ≤ A → A ≤ 1000 → -1000 ≤ T → T ≤ 1000 → -1000 ≤ D → D ≤ 1000 → Ev (fun k => spec_Complete.f k s A T D) (cmpL k0 (bytesOf s) A T D : Int)
theorem cmpL_le (k : Nat) (l : List Int) (A T D : Int) : cmpL k l A T D ≤ l.length := by
  by_cases h : cmpL k l A T D = 0
  · omega
  · obtain ⟨x, _, rest, e, el⟩ := cmpL_tree k l A T D h
    rw [el, e, List.length_append]; omega
theorem cm_loop (k0 : Nat) (ih : Cm k0) (s : ByteArray) (A T D : Int) (hs : s.size ≤ 1099511627776) (hk : s.size < k0 + 1) (hA : -1000 ≤ A) (hA2 : A ≤ 1000) (hT : 0 ≤ T) (hT2 : T ≤ 1000) (hD : -1000 ≤ D) (hD2 : D ≤ 1000) :
    ∀ (n at_ : Nat), 1 ≤ at_ → at_ ≤ s.size → s.size - at_ < n → Ev (fun k => spec_Complete.l0 k s A T D (at_ : Int)) (match slL (fun x => cmpL k0 x A (T - 1) D) n ((bytesOf s).drop at_) with
      | none => 0
      | some m => if at_ + m = 1 then 0 else ((at_ + m + 1 : Nat) : Int)) := by
  intro n
  induction n with
  | zero => intro at_ h1 h2 h3; omega
  | succ n ihn =>
    intro at_ h1 h2 h3
    refine Ev_up ?_
    simp only [spec_Complete.l0]
    by_cases hlt : at_ < s.size
    · rw [bytesOf_drop s at_ hlt]
      simp only [if_pos (show (at_ : Int) < (s.size : Int) by omega), if_pos (show (0 : Int) ≤ (at_ : Int) by omega)]
      refine Ev_up ?_
      simp only [spec_Complete.j5]
      by_cases h41 : bt s (at_ : Int) = 41
      · have e : (bt s (at_ : Int) != 41) = false := by rw [h41]; rfl
        rw [slL, if_pos h41]
        simp only [e, if_neg (show ¬ (false = true) by decide)]
        by_cases ha1 : at_ = 1
        · rw [if_neg (by omega), if_pos (by omega)]
          exact Ev.now _
        · rw [if_pos (show (at_ : Int) > 1 by omega), if_pos (show (at_ : Int) < (s.size : Int) by omega), if_neg (by omega), w64 (by omega) (by omega)]
          exact Ev_some (by omega)
      · have e : (bt s (at_ : Int) != 41) = true := by rw [bne_iff_ne]; exact h41
        simp only [e, if_true, if_pos (show (0 : Int) ≤ (at_ : Int) by omega), if_pos (show (at_ : Int) ≤ (s.size : Int) by omega), Int.toNat_natCast]
        rw [slL, if_neg h41, lo T (by omega) (by omega)]
        have hi := ih (s.extract at_ s.size) A (T - 1) D (by rw [ByteArray.size_extract]; omega) (by rw [ByteArray.size_extract]; omega) hA hA2 (by omega) (by omega) hD hD2
        rw [bytesOf_from, bytesOf_drop s at_ hlt] at hi
        have hle := cmpL_le k0 ((bytesOf s).drop at_) A (T - 1) D
        rw [List.length_drop, bytesOf_length, bytesOf_drop s at_ hlt] at hle
        refine Ev.bind hi ?_
        generalize hc : cmpL k0 (bt s (at_ : Int) :: (bytesOf s).drop (at_ + 1)) A (T - 1) D = c at hle
        by_cases hc0 : c = 0
        · simp only [if_pos (show (c : Int) = 0 by omega), if_pos hc0]
          exact Ev.now _
        · simp only [if_neg (show ¬ (c : Int) = 0 by omega), if_neg hc0, w64 (x := (at_ : Int) + (c : Int)) (by omega) (by omega)]
          have hn := ihn (at_ + c) (by omega) (by omega) (by omega)
          rw [show (at_ : Int) + (c : Int) = ((at_ + c : Nat) : Int) by omega]
          rw [← bytesOf_drop s at_ hlt, List.drop_drop]
          cases hsl : slL (fun x => cmpL k0 x A (T - 1) D) n ((bytesOf s).drop (at_ + c)) with
          | none => rw [hsl] at hn; exact hn
          | some m =>
            rw [hsl] at hn
            dsimp only [Option.map_some] at hn ⊢
            rw [show at_ + (m + c) = at_ + c + m by omega]
            exact hn
    · rw [List.drop_eq_nil_of_le (by rw [bytesOf_length]; omega)]
      simp only [if_neg (show ¬ ((at_ : Int) < (s.size : Int)) by omega)]
      refine Ev_up ?_
      simp only [spec_Complete.j5, if_neg (show ¬ (false = true) by decide), if_neg (show ¬ ((at_ : Int) < (s.size : Int)) by omega)]
      rw [slL]
      dsimp only
      split <;> exact Ev.now _
theorem complete_all : ∀ k0, Cm k0 := by
  intro k0
  induction k0 with
  | zero => intro s A T D h; omega
  | succ k0 ih =>
    intro s A T D hk hs hA hA2 hT hT2 hD hD2
    by_cases h0 : s.size = 0
    · rw [bytesOf_nil.mpr h0]
      refine Ev_up (Ev_up ?_)
      simp only [spec_Complete.f, Pl.toList_nil.mpr h0, if_true, spec_Complete.j0]
      exact Ev.now _
    have hpos : 0 < s.size := by omega
    have hl1 : (bytesOf s).length = s.size := bytesOf_length s
    have hnl : ¬ s.toList = ([] : List UInt8) := fun e => h0 (Pl.toList_nil.mp e)
    rw [bytesOf_cons s hpos, cmpL]
    by_cases hg : (decide (A < 0) || decide (T < 0) || decide (D < 0)) = true
    · rw [if_pos hg]
      refine Ev_up (Ev_up ?_)
      simp only [spec_Complete.f, if_neg hnl]
      by_cases gA : A < 0
      · simp only [if_pos gA, spec_Complete.j0, if_true]; exact Ev.now _
      · simp only [if_neg gA]
        by_cases gT : T < 0
        · simp only [if_pos gT, spec_Complete.j0, if_true]; exact Ev.now _
        · have gD : D < 0 := by simpa [gA, gT] using hg
          simp only [if_neg gT, decide_eq_true gD, spec_Complete.j0, if_true]; exact Ev.now _
    rw [if_neg hg]
    have gA : ¬ A < 0 := fun e => hg (by simp [e])
    have gT : ¬ T < 0 := fun e => hg (by simp [e])
    have gD : ¬ D < 0 := fun e => hg (by simp [e])
    have p0 : (0 : Int) < (s.size : Int) := by omega
    refine Ev_up ?_
    simp only [spec_Complete.f, if_neg hnl, if_neg gA, if_neg gT, decide_eq_false gD]
    refine Ev_up ?_
    simp only [spec_Complete.j0, if_neg (show ¬ (false = true) by decide), if_pos p0, basic_f, Option.bind_some]
    cases hl : Given.lone (bt s 0) with
    | true =>
      rw [if_pos rfl]
      refine Ev_up ?_
      have e := lone_basic (bt s 0)
      rw [hl] at e
      by_cases hb : basic (bt s 0) = true
      · simp only [if_pos hb, spec_Complete.j1, if_true]; exact Ev.now _
      · have hb' : basic (bt s 0) = false := by simpa using hb
        rw [hb', Bool.false_or] at e
        simp only [hb', if_neg (show ¬ (false = true) by decide), ← e, spec_Complete.j1, if_true]; exact Ev.now _
    | false =>
      rw [if_neg (by decide)]
      have e := lone_basic (bt s 0)
      rw [hl] at e
      have hb' : basic (bt s 0) = false := by
        cases h : basic (bt s 0) with
        | false => rfl
        | true => rw [h] at e; cases e
      rw [hb', Bool.false_or] at e
      refine Ev_up ?_
      simp only [hb', if_neg (show ¬ (false = true) by decide), ← e, spec_Complete.j1, if_pos p0]
      by_cases h97 : bt s 0 = 97
      · simp only [if_pos h97]
        by_cases h1 : 1 < s.size
        · have q1 : (1 : Int) < (s.size : Int) := by omega
          simp only [if_pos (show (s.size : Int) > 1 by omega)]
          have hd1 : (bytesOf s).drop 1 = bt s 1 :: (bytesOf s).drop 2 := bytesOf_drop s 1 h1
          by_cases h123 : bt s 1 = 123
          · rw [hd1, h123, if_pos (show (123 :: (bytesOf s).drop 2).head? = some (123 : Int) from rfl), List.tail_cons]
            refine Ev_up ?_
            simp only [show ((123 : Int) == 123) = true from rfl, spec_Complete.j2, if_true]
            by_cases h4 : s.size < 4
            · simp only [if_pos (show (s.size : Int) < 4 by omega)]
              refine Ev_up ?_
              simp only [spec_Complete.j3, if_true]
              by_cases h2 : 2 < s.size
              · have hd2 : (bytesOf s).drop 2 = bt s 2 :: (bytesOf s).drop 3 := bytesOf_drop s 2 h2
                have hz : cmpL k0 [] (A - 1) T (D - 1) = 0 := by cases k0 <;> rfl
                rw [hd2, List.drop_eq_nil_of_le (show (bytesOf s).length ≤ 3 by omega)]
                simp only [hz, ne_eq, not_true_eq_false, false_and, if_false, ite_self]
                exact Ev.now _
              · rw [List.drop_eq_nil_of_le (show (bytesOf s).length ≤ 2 by omega)]
                exact Ev.now _
            · have h2 : 2 < s.size := by omega
              have hd2 : (bytesOf s).drop 2 = bt s 2 :: (bytesOf s).drop 3 := bytesOf_drop s 2 h2
              rw [hd2]
              simp only [if_neg (show ¬ (s.size : Int) < 4 by omega), if_pos (show (2 : Int) < (s.size : Int) by omega), basic_f, Option.bind_some]
              refine Ev_up ?_
              cases hk2 : basic (bt s 2) with
              | false =>
                simp only [Bool.not_false, spec_Complete.j3, if_true, if_neg (show ¬ (false = true) by decide)]
                exact Ev.now _
              | true =>
                simp only [Bool.not_true, spec_Complete.j3, if_true, if_neg (show ¬ (false = true) by decide), if_pos (show (3 : Int) ≤ (s.size : Int) by omega), lo A (by omega) (by omega), lo D (by omega) (by omega)]
                have hi := ih (s.extract 3 s.size) (A - 1) T (D - 1) (by rw [ByteArray.size_extract]; omega) (by rw [ByteArray.size_extract]; omega) (by omega) (by omega) hT hT2 (by omega) (by omega)
                rw [bytesOf_from] at hi
                have hle := cmpL_le k0 ((bytesOf s).drop 3) (A - 1) T (D - 1)
                rw [List.length_drop, hl1] at hle
                refine Ev.bind hi ?_
                generalize cmpL k0 ((bytesOf s).drop 3) (A - 1) T (D - 1) = c at hle
                by_cases hc0 : c = 0
                · simp only [hc0]
                  exact Ev.now _
                · simp only [if_neg (show ¬ (c : Int) = 0 by omega), w64 (x := (c : Int) + 4) (by omega) (by omega), w64 (x := (c : Int) + 3) (by omega) (by omega)]
                  by_cases hlt : s.size < c + 4
                  · simp only [if_pos (show (s.size : Int) < (c : Int) + 4 by omega)]
                    rw [List.getElem?_drop, List.getElem?_eq_none (by omega), if_neg (by simp)]
                    exact Ev.now _
                  · simp only [if_neg (show ¬ (s.size : Int) < (c : Int) + 4 by omega), if_pos (show (0 : Int) ≤ (c : Int) + 3 by omega), if_pos (show (c : Int) + 3 < (s.size : Int) by omega)]
                    have hgq : ((bytesOf s).drop 3)[c]? = some (bt s ((c : Int) + 3)) := by
                      rw [List.getElem?_drop, bytesOf_get s (3 + c) (by omega)]
                      rw [show ((3 + c : Nat) : Int) = (c : Int) + 3 by omega]
                    rw [hgq]
                    by_cases h125 : bt s ((c : Int) + 3) = 125
                    · rw [if_pos h125, if_pos ⟨hc0, by rw [h125]⟩]
                      exact Ev_some (by omega)
                    · rw [if_neg h125, if_neg (fun e => h125 (Option.some.inj e.2))]
                      exact Ev.now _
          · have e123 : (bt s 1 == 123) = false := by rw [beq_eq_false_iff_ne]; exact h123
            rw [if_neg (show ¬ ((bytesOf s).drop 1).head? = some 123 by rw [hd1]; intro e; exact h123 (Option.some.inj e))]
            refine Ev_up ?_
            simp only [e123, spec_Complete.j2, if_neg (show ¬ (false = true) by decide), if_pos p0, if_pos h97, if_pos (show (1 : Int) ≤ (s.size : Int) by omega), lo A (by omega) (by omega)]
            have hi := ih (s.extract 1 s.size) (A - 1) T D (by rw [ByteArray.size_extract]; omega) (by rw [ByteArray.size_extract]; omega) (by omega) (by omega) hT hT2 hD hD2
            rw [bytesOf_from] at hi
            have hle := cmpL_le k0 ((bytesOf s).drop 1) (A - 1) T D
            rw [List.length_drop, hl1] at hle
            refine Ev.bind hi ?_
            generalize cmpL k0 ((bytesOf s).drop 1) (A - 1) T D = c at hle
            by_cases hc0 : c = 0
            · simp only [if_neg (show ¬ (c : Int) > 0 by omega), if_pos hc0]; exact Ev.now _
            · simp only [if_pos (show (c : Int) > 0 by omega), if_neg hc0, w64 (x := (c : Int) + 1) (by omega) (by omega)]; exact Ev_some (by omega)
        · simp only [if_neg (show ¬ (s.size : Int) > 1 by omega)]
          rw [if_neg (show ¬ ((bytesOf s).drop 1).head? = some 123 by rw [List.drop_eq_nil_of_le (show (bytesOf s).length ≤ 1 by omega)]; simp)]
          refine Ev_up ?_
          simp only [spec_Complete.j2, if_neg (show ¬ (false = true) by decide), if_pos p0, if_pos h97, if_pos (show (1 : Int) ≤ (s.size : Int) by omega), lo A (by omega) (by omega)]
          have hi := ih (s.extract 1 s.size) (A - 1) T D (by rw [ByteArray.size_extract]; omega) (by rw [ByteArray.size_extract]; omega) (by omega) (by omega) hT hT2 hD hD2
          rw [bytesOf_from] at hi
          have hle := cmpL_le k0 ((bytesOf s).drop 1) (A - 1) T D
          rw [List.length_drop, hl1] at hle
          refine Ev.bind hi ?_
          generalize cmpL k0 ((bytesOf s).drop 1) (A - 1) T D = c at hle
          by_cases hc0 : c = 0
          · simp only [if_neg (show ¬ (c : Int) > 0 by omega), if_pos hc0]; exact Ev.now _
          · simp only [if_pos (show (c : Int) > 0 by omega), if_neg hc0, w64 (x := (c : Int) + 1) (by omega) (by omega)]; exact Ev_some (by omega)
      · simp only [if_neg h97]
        refine Ev_up ?_
        simp only [spec_Complete.j2, if_neg (show ¬ (false = true) by decide), if_pos p0, if_neg h97]
        by_cases h40 : bt s 0 = 40
        · simp only [if_pos h40]
          have hlp := cm_loop k0 ih s A T D hs hk hA hA2 (by omega) hT2 hD hD2 (((bytesOf s).drop 1).length + 1) 1 (by omega) (by omega) (by rw [List.length_drop, hl1]; omega)
          cases hsl : slL (fun x => cmpL k0 x A (T - 1) D) (((bytesOf s).drop 1).length + 1) ((bytesOf s).drop 1) with
          | none => rw [hsl] at hlp; exact hlp
          | some m =>
            rw [hsl] at hlp
            dsimp only at hlp ⊢
            by_cases hm : m = 0
            · rw [if_pos (by omega)] at hlp; rw [if_pos hm]; exact hlp
            · rw [if_neg (by omega)] at hlp; rw [if_neg hm, show m + 2 = 1 + m + 1 by omega]; exact hlp
        · simp only [if_neg h40]; exact Ev.now _
end Go.Proofs.YtnojjfklnihmnaaDoor.SgT
end
section
namespace Go.Proofs.YtnojjfklnihmnaaDoor.SgT
open Go.RowKit Go.Proofs.YtnojjfklnihmnaaDoor.PFnSgOfParts Go.Proofs.YtnojjfklnihmnaaDoorW.PrintWords Go.Proofs.YtnojjfklnihmnaaDoorW.PrintLast Go.Proofs.YtnojjfklnihmnaaDoor.Pl Go.Proofs.YtnojjfklnihmnaaDoor.By
theorem str_of {s : ByteArray} {l : List Int} (h : bytesOf s = l) : s = strOfNums l := by rw [← h, str_bytes]
def Good (x : Tr) : Prop := wf x true ∧ fits x 0 0 0 = true
def words (xs : List Tr) : List Int := (xs.map word).flatten
def texts (xs : List Tr) : List ByteArray := xs.map fun x => strOfNums (word x)
theorem types_loop : ∀ (n : Nat) (s : ByteArray) (acc : List ByteArray), s.size < n → s.size ≤ 255 → acc.length + s.size ≤ 1000 → ∃ R, Ev (fun k => spec_Types.l0 k s acc) R ∧ (R.2 = true → ∃ xs : List Tr, (∀ x ∈ xs, Good x) ∧ bytesOf s = words xs ∧ R.1 = acc ++ texts xs) := by
  intro n
  induction n with
  | zero => intro s acc h; omega
  | succ n ih =>
    intro s acc h hs hacc
    by_cases h0 : s.size = 0
    · refine ⟨(acc, true), Ev_up ?_, fun _ => ⟨[], by simp, bytesOf_nil.mpr h0, by simp [texts]⟩⟩
      simp only [spec_Types.l0, if_pos (Pl.toList_nil.mpr h0)]
      exact Ev.now _
    · have hnl : ¬ s.toList = ([] : List UInt8) := fun e => h0 (Pl.toList_nil.mp e)
      have hc := complete_all (s.size + 1) s 32 32 32 (by omega) (by omega) (by omega) (by omega) (by omega) (by omega) (by omega) (by omega)
      by_cases hn : cmpL (s.size + 1) (bytesOf s) 32 32 32 = 0
      · refine ⟨([], false), Ev_up ?_, fun e => by cases e⟩
        simp only [spec_Types.l0, if_neg hnl, spec_complete.f]
        rw [hn] at hc
        refine Ev.bind (a := (0 : Int)) (Ev.bind hc (Ev.now _)) ?_
        exact Ev.now _
      · obtain ⟨x, hx, rest, e, el⟩ := cmpL_tree _ _ _ _ _ hn
        have hl := congrArg List.length e
        rw [bytesOf_length, List.length_append] at hl
        have h2 := (cmpL_word x).1 hx (s.size + 1) rest 32 32 32 (by omega)
        rw [← e] at h2
        have hf : fits x 0 0 0 = true := by
          cases hf : fits x 0 0 0 with
          | true => rfl
          | false => rw [show (32 : Int) - 32 = 0 from rfl, hf] at h2; exact absurd h2 hn
        have hw := word_len hx
        have eb : bytesOf (s.extract (word x).length s.size) = rest := by rw [bytesOf_from, e, List.drop_left]
        have ea : s.extract 0 (word x).length = strOfNums (word x) := str_of (by rw [bytesOf_extract, e, List.take_left, List.drop_zero])
        have hsz : (s.extract (word x).length s.size).size = s.size - (word x).length := by rw [ByteArray.size_extract]; omega
        obtain ⟨R, hR, hRx⟩ := ih (s.extract (word x).length s.size) (acc ++ [strOfNums (word x)]) (by omega) (by omega) (by rw [List.length_append]; simp; omega)
        refine ⟨R, Ev_up ?_, fun h => ?_⟩
        · simp only [spec_Types.l0, if_neg hnl, spec_complete.f]
          rw [el] at hc
          refine Ev.bind (a := ((word x).length : Int)) (Ev.bind hc (Ev.now _)) ?_
          simp only [if_neg (show ¬ ((word x).length : Int) = 0 by omega), if_pos (show (0 : Int) ≤ ((word x).length : Int) by omega), if_pos (show ((word x).length : Int) ≤ (s.size : Int) by omega), if_pos (show acc.length < 8796093022208 by omega), Int.toNat_natCast, ea]
          exact hR
        · obtain ⟨xs, hxs, e1, e2⟩ := hRx h
          refine ⟨x :: xs, ?_, ?_, ?_⟩
          · intro z hz
            rcases List.mem_cons.mp hz with rfl | hz
            · exact ⟨hx, hf⟩
            · exact hxs z hz
          · rw [e, ← eb, e1]; rfl
          · rw [e2, List.append_assoc]; rfl
theorem types_all (s : ByteArray) : ∃ R, Ev (fun k => spec_Types.f k s) R ∧ (R.2 = true → s.size ≤ 255 ∧ ∃ xs : List Tr, (∀ x ∈ xs, Good x) ∧ bytesOf s = words xs ∧ R.1 = texts xs) := by
  unfold spec_Types.f
  split
  · exact ⟨_, Ev.now _, fun e => by cases e⟩
  · obtain ⟨R, hR, hx⟩ := types_loop (s.size + 1) s [] (by omega) (by omega) (by simp; omega)
    exact ⟨R, hR, fun h => ⟨by omega, by simpa using hx h⟩⟩
def listTr : List Tr → Tr
  | [] => .nil
  | x :: xs => .cons x (listTr xs)
theorem listTr_word : ∀ xs, word (listTr xs) = words xs := by
  intro xs
  induction xs with
  | nil => rfl
  | cons x xs ih => rw [listTr, word, ih]; rfl
end Go.Proofs.YtnojjfklnihmnaaDoor.SgT
end
section
namespace Go.Proofs.YtnojjfklnihmnaaDoor.Cv
open Go.RowKit Go.Proofs.YtnojjfklnihmnaaDoorW.PrintWords Go.Proofs.YtnojjfklnihmnaaDoor.Pl Go.Proofs.YtnojjfklnihmnaaDoor.PFnSgOfParts Go.Proofs.YtnojjfklnihmnaaDoor.SgT Go.Proofs.YtnojjfklnihmnaaDoor.By
theorem complete_says (s : ByteArray) (hs : s.size ≤ 1000000) : ∃ n : Nat, Ev (fun k => spec_complete.f k s) (n : Int) ∧ n ≤ s.size ∧ (n ≠ 0 → ∃ x rest, wf x true ∧ bytesOf s = word x ++ rest ∧ n = (word x).length) := by
  have hc := complete_all (s.size + 1) s 32 32 32 (by omega) (by omega) (by omega) (by omega) (by omega) (by omega) (by omega) (by omega)
  unfold spec_complete.f
  by_cases hn : cmpL (s.size + 1) (bytesOf s) 32 32 32 = 0
  · refine ⟨0, ?_, by omega, fun h => absurd rfl h⟩
    rw [hn] at hc
    exact Ev.bind hc (Ev.now _)
  · obtain ⟨x, hx, rest, e, el⟩ := cmpL_tree _ _ _ _ _ hn
    have hl := congrArg List.length e
    rw [bytesOf_length, List.length_append] at hl
    refine ⟨(word x).length, ?_, by omega, fun _ => ⟨x, rest, hx, e, rfl⟩⟩
    rw [el] at hc
    exact Ev.bind hc (Ev.now _)
def Elt (s : ByteArray) : Prop := (∃ x, wf x true ∧ bytesOf s = word x) ∨ (∃ k y, basic k = true ∧ wf y true ∧ bytesOf s = 123 :: k :: (word y ++ [125]))
theorem first_says (s : ByteArray) (hs : s.size ≤ 100000) : ∃ R, Ev (fun k => spec_First.f k s) R ∧ (R.2.2 = true → R.2.1.toList = ([] : List UInt8) → Elt s) := by
  have plain : ∃ R, Ev (fun k => spec_First.j0 k s false) R ∧ (R.2.2 = true → R.2.1.toList = ([] : List UInt8) → Elt s) := by
    obtain ⟨n, hn, hle, hx⟩ := complete_says s (by omega)
    by_cases h0 : n = 0
    · refine ⟨(⟨#[]⟩, ⟨#[]⟩, false), Ev_up ?_, fun h => by cases h⟩
      simp only [spec_First.j0, Bool.false_eq_true, if_false]
      refine Ev.bind hn ?_
      have q : (n : Int) ≤ 0 := by omega
      simp only [if_pos q]
      exact Ev_some rfl
    · refine ⟨(s.extract 0 n, s.extract n s.size, true), Ev_up ?_, fun _ hr => ?_⟩
      · simp only [spec_First.j0, Bool.false_eq_true, if_false]
        refine Ev.bind hn ?_
        have q : ¬ (n : Int) ≤ 0 := by omega
        have q1 : (0 : Int) ≤ (n : Int) := by omega
        have q2 : (n : Int) ≤ (s.size : Int) := by omega
        simp only [if_neg q, if_pos q1, if_pos q2, Int.toNat_natCast]
        exact Ev_some rfl
      · obtain ⟨x, rest, hw, e, el⟩ := hx h0
        rw [toList_nil, ByteArray.size_extract] at hr
        have hl := congrArg List.length e
        rw [bytesOf_length, List.length_append] at hl
        have hre : rest = [] := List.eq_nil_of_length_eq_zero (by omega)
        rw [hre, List.append_nil] at e
        exact .inl ⟨x, hw, e⟩
  unfold spec_First.f
  by_cases h1 : (s.size : Int) > 1
  · have q : (0 : Int) < (s.size : Int) := by omega
    by_cases hb : (bt s 0 == 123) = true
    · have hb2 : bt s 0 = 123 := beq_iff_eq.mp hb
      have hz : ((⟨#[97]⟩ : ByteArray) ++ s).size = 1 + s.size := by rw [ByteArray.size_append]; rfl
      obtain ⟨n, hn, hle, hx⟩ := complete_says ((⟨#[97]⟩ : ByteArray) ++ s) (by omega)
      have ew : wrap64 ((n : Int) - 1) = (n : Int) - 1 := by rw [w64 (by omega) (by omega)]
      have q3 : 1 + s.size ≤ 9223372036854775807 := by omega
      by_cases h0 : n ≤ 1
      · refine ⟨(⟨#[]⟩, ⟨#[]⟩, false), ?_, fun h => by cases h⟩
        simp only [if_pos h1, if_pos q, hb]
        refine Ev_up ?_
        simp only [spec_First.j0, if_true, if_pos q3]
        refine Ev.bind hn ?_
        have q4 : (n : Int) - 1 ≤ 0 := by omega
        simp only [ew, if_pos q4]
        exact Ev_some rfl
      · refine ⟨(s.extract 0 (n - 1), s.extract (n - 1) s.size, true), ?_, fun _ hr => ?_⟩
        · simp only [if_pos h1, if_pos q, hb]
          refine Ev_up ?_
          simp only [spec_First.j0, if_true, if_pos q3]
          refine Ev.bind hn ?_
          have q4 : ¬ (n : Int) - 1 ≤ 0 := by omega
          have q5 : (0 : Int) ≤ (n : Int) - 1 := by omega
          have q6 : (n : Int) - 1 ≤ (s.size : Int) := by omega
          have q7 : ((n : Int) - 1).toNat = n - 1 := by omega
          simp only [ew, if_neg q4, if_pos q5, if_pos q6, q7]
          exact Ev_some rfl
        · obtain ⟨x, rest, hw, e, el⟩ := hx (by omega)
          rw [toList_nil, ByteArray.size_extract] at hr
          have hl := congrArg List.length e
          rw [bytesOf_length, List.length_append] at hl
          have hre : rest = [] := List.eq_nil_of_length_eq_zero (by omega)
          rw [hre, List.append_nil, bytesOf_append] at e
          have e97 : bytesOf (⟨#[97]⟩ : ByteArray) = [97] := rfl
          have es := bytesOf_cons s (by omega)
          rw [hb2] at es
          rw [e97, es] at e
          cases x with
          | nil => cases hw
          | cons x xs => cases hw.1
          | lone c => have := (List.cons.inj e).2; cases this
          | arr x =>
            obtain ⟨c, r, ec, hc, _⟩ := head_wf hw.2
            have h2 := (List.cons.inj e).2
            rw [ec] at h2
            exact absurd (List.cons.inj h2).1.symm hc
          | dict k y =>
            have h2 := (List.cons.inj e).2
            refine .inr ⟨k, y, hw.2.1, hw.2.2, ?_⟩
            rw [es]; exact h2
          | str xs => have := (List.cons.inj e).1; cases this
    · have hb2 : (bt s 0 == 123) = false := by simpa using hb
      obtain ⟨R, hR, hx⟩ := plain
      refine ⟨R, ?_, hx⟩
      simp only [if_pos h1, if_pos q, hb2]
      exact hR
  · obtain ⟨R, hR, hx⟩ := plain
    refine ⟨R, ?_, hx⟩
    simp only [if_neg h1]
    exact hR
end Go.Proofs.YtnojjfklnihmnaaDoor.Cv
end
