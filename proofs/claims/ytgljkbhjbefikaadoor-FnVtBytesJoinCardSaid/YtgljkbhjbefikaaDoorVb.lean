/- The bytes of a byte string's inside, as lists of numbers. -/
import Derived.Test.YtgljkbhjbefikaaDoorGvPu
import Derived.Test.YtgljkbhjbefikaaDoorBy
namespace Go.Proofs.YtgljkbhjbefikaaDoor.Vb
open Go.RowKit Go.Proofs.YtgljkbhjbefikaaDoorW.PrintWords Go.Proofs.YtgljkbhjbefikaaDoor.Pl Go.Proofs.YtgljkbhjbefikaaDoor.By
open Go.Proofs.YtgljkbhjbefikaaDoor.Given (dg PE puGo)

/-- What a byte stands for behind a backslash. -/
def esc (c : Int) : Int := if c = 97 then 7 else if c = 98 then 8 else if c = 102 then 12 else if c = 110 then 10 else if c = 114 then 13 else if c = 116 then 9 else c
def hex2 (a b : Int) : Option Int := if dg a < 16 ∧ dg b < 16 then some (dg a * 16 + dg b) else none
def oct3 (a b c : Int) : Option Int := if dg a < 8 ∧ dg b < 8 ∧ dg c < 8 ∧ (dg a * 8 + dg b) * 8 + dg c ≤ 255 then some ((dg a * 8 + dg b) * 8 + dg c) else none
/-- Behind 'x'. -/
def px (go : List Int → Option (List Int)) : List Int → Option (List Int)
  | a :: b :: t => (match hex2 a b with
    | some v => (go t).map (v :: ·)
    | none => none)
  | _ => none
/-- Behind '0'. -/
def po (go : List Int → Option (List Int)) : List Int → Option (List Int)
  | a :: b :: c :: t => (match oct3 a b c with
    | some v => (go t).map (v :: ·)
    | none => none)
  | _ => none
/-- Behind a backslash. -/
def pe (go : List Int → Option (List Int)) : List Int → Option (List Int)
  | e :: t => if e = 120 then px go t else if e = 48 then po go t else (go t).map (esc e :: ·)
  | [] => none
/-- The bytes of an inside. -/
def pl : Nat → List Int → Option (List Int)
  | 0, _ => some []
  | _ + 1, [] => some []
  | d + 1, c :: t => if c = 92 then pe (pl d) t else (pl d t).map (c :: ·)
theorem pl_nil (d : Nat) : pl d [] = some [] := by cases d <;> rfl
theorem pl_cons (d : Nat) (c : Int) (t : List Int) : pl (d + 1) (c :: t) = if c = 92 then pe (pl d) t else (pl d t).map (c :: ·) := rfl

/-- No backslash stands alone at the end. -/
def okp : Nat → List Int → Bool
  | 0, _ => true
  | _ + 1, [] => true
  | d + 1, c :: t => if c = 92 then (match t with
    | [] => false
    | _ :: u => okp d u) else okp d t

theorem dg_lo (c : Int) : 0 ≤ dg c := by
  unfold dg; split
  · omega
  · split
    · omega
    · decide
theorem dg92 : dg 92 = 255 := by decide
theorem dg_ne {c : Int} (h : dg c < 16) : c ≠ 92 := by rintro rfl; rw [dg92] at h; omega

theorem pl_more : ∀ (d e : Nat) (l : List Int), l.length ≤ d → l.length ≤ e → pl d l = pl e l := by
  intro d
  induction d using Nat.strongRecOn with
  | _ d ih =>
    intro e l hd he
    cases l with
    | nil => rw [pl_nil, pl_nil]
    | cons c t =>
      simp only [List.length_cons] at hd he
      obtain ⟨d, rfl⟩ : ∃ m, d = m + 1 := ⟨d - 1, by omega⟩
      obtain ⟨e, rfl⟩ : ∃ m, e = m + 1 := ⟨e - 1, by omega⟩
      rw [pl_cons, pl_cons]
      have key : ∀ u : List Int, u.length ≤ t.length → pl d u = pl e u := fun u hu => ih d (by omega) e u (by omega) (by omega)
      by_cases hc : c = 92
      · rw [if_pos hc, if_pos hc]
        cases t with
        | nil => rfl
        | cons x u =>
          simp only [pe, List.length_cons] at key ⊢
          by_cases hx : x = 120
          · rw [if_pos hx, if_pos hx]
            match u with
            | [] => rfl
            | [_] => rfl
            | a :: b :: u =>
              simp only [px, List.length_cons] at key ⊢
              rw [key u (by omega)]
          · rw [if_neg hx, if_neg hx]
            by_cases h0 : x = 48
            · rw [if_pos h0, if_pos h0]
              match u with
              | [] => rfl
              | [_] => rfl
              | [_, _] => rfl
              | a :: b :: c :: u =>
                simp only [po, List.length_cons] at key ⊢
                rw [key u (by omega)]
            · rw [if_neg h0, if_neg h0, key u (by omega)]
      · rw [if_neg hc, if_neg hc, key t (by omega)]

/-- An inside that reads, and another behind it. -/
theorem pl_join : ∀ (d : Nat) (x y r : List Int), x.length ≤ d → pl d x = some r → pl (d + y.length) (x ++ y) = (pl (d + y.length) y).map (r ++ ·) := by
  intro d
  induction d using Nat.strongRecOn with
  | _ d ih =>
    intro x y r hd h
    cases x with
    | nil =>
      rw [pl_nil] at h
      obtain rfl := Option.some.inj h
      simp
    | cons c t =>
      simp only [List.length_cons] at hd
      obtain ⟨d, rfl⟩ : ∃ m, d = m + 1 := ⟨d - 1, by omega⟩
      rw [pl_cons] at h
      have hd' : d + 1 + y.length = (d + y.length) + 1 := by omega
      rw [hd', List.cons_append, pl_cons]
      have hy : pl (d + y.length + 1) y = pl (d + y.length) y := pl_more _ _ _ (by omega) (by omega)
      rw [hy]
      have key : ∀ (u r : List Int), u.length ≤ t.length → pl d u = some r → pl (d + y.length) (u ++ y) = (pl (d + y.length) y).map (r ++ ·) := fun u r hu h => ih d (by omega) u y r (by omega) h
      have fin : ∀ (v : Int) (u r : List Int), u.length ≤ t.length → (pl d u).map (v :: ·) = some r → (pl (d + y.length) (u ++ y)).map (v :: ·) = (pl (d + y.length) y).map (r ++ ·) := by
        intro v u r hu h
        obtain ⟨q, hq, rfl⟩ := Option.map_eq_some_iff.1 h
        rw [key u q hu hq, Option.map_map]
        rfl
      by_cases hc : c = 92
      · rw [if_pos hc] at h ⊢
        cases t with
        | nil => simp [pe] at h
        | cons e u =>
          simp only [pe, List.cons_append] at h ⊢
          simp only [List.length_cons] at fin
          by_cases hx : e = 120
          · rw [if_pos hx] at h ⊢
            match u with
            | [] => simp [px] at h
            | [_] => simp [px] at h
            | a :: b :: u =>
              simp only [px, List.cons_append] at h ⊢
              cases hv : hex2 a b with
              | none => rw [hv] at h; cases h
              | some v =>
                rw [hv] at h
                exact fin v u r (by simp only [List.length_cons]; omega) h
          · rw [if_neg hx] at h ⊢
            by_cases h0 : e = 48
            · rw [if_pos h0] at h ⊢
              match u with
              | [] => simp [po] at h
              | [_] => simp [po] at h
              | [_, _] => simp [po] at h
              | a :: b :: c :: u =>
                simp only [po, List.cons_append] at h ⊢
                cases hv : oct3 a b c with
                | none => rw [hv] at h; cases h
                | some v =>
                  rw [hv] at h
                  exact fin v u r (by simp only [List.length_cons]; omega) h
            · rw [if_neg h0] at h ⊢
              exact fin _ u r (by omega) h
      · rw [if_neg hc] at h ⊢
        exact fin c t r (Nat.le_refl _) h

theorem pl_len : ∀ (d : Nat) (l r : List Int), pl d l = some r → r.length ≤ l.length := by
  intro d
  induction d with
  | zero => intro l r h; obtain rfl := Option.some.inj h; simp
  | succ d ih =>
    intro l r h
    cases l with
    | nil => obtain rfl := Option.some.inj h; simp
    | cons c t =>
      rw [pl_cons] at h
      have fin : ∀ (v : Int) (u r : List Int), (pl d u).map (v :: ·) = some r → r.length ≤ u.length + 1 := by
        intro v u r h
        obtain ⟨q, hq, rfl⟩ := Option.map_eq_some_iff.1 h
        have := ih u q hq
        simp only [List.length_cons]; omega
      by_cases hc : c = 92
      · rw [if_pos hc] at h
        cases t with
        | nil => simp [pe] at h
        | cons e u =>
          simp only [pe] at h
          by_cases hx : e = 120
          · rw [if_pos hx] at h
            match u with
            | [] => simp [px] at h
            | [_] => simp [px] at h
            | a :: b :: u =>
              simp only [px] at h
              cases hv : hex2 a b with
              | none => rw [hv] at h; cases h
              | some v =>
                rw [hv] at h
                have := fin v u r h
                simp only [List.length_cons]; omega
          · rw [if_neg hx] at h
            by_cases h0 : e = 48
            · rw [if_pos h0] at h
              match u with
              | [] => simp [po] at h
              | [_] => simp [po] at h
              | [_, _] => simp [po] at h
              | a :: b :: c :: u =>
                simp only [po] at h
                cases hv : oct3 a b c with
                | none => rw [hv] at h; cases h
                | some v =>
                  rw [hv] at h
                  have := fin v u r h
                  simp only [List.length_cons]; omega
            · rw [if_neg h0] at h
              have := fin _ u r h
              simp only [List.length_cons]; omega
      · rw [if_neg hc] at h
        have := fin c t r h
        simp only [List.length_cons]; omega

theorem okp_nil (d : Nat) : okp d [] = true := by cases d <;> rfl
theorem okp_plain {d : Nat} {c : Int} {t : List Int} (h : okp (d + 1) (c :: t) = true) (hc : c ≠ 92) : okp d t = true := by
  simp only [okp, if_neg hc] at h; exact h
theorem okp_esc {d : Nat} {t : List Int} (h : okp (d + 1) (92 :: t) = true) : ∃ e u, t = e :: u ∧ okp d u = true := by
  cases t with
  | nil => simp [okp] at h
  | cons e u => exact ⟨e, u, rfl, by simpa [okp] using h⟩
theorem okp_more : ∀ (d e : Nat) (l : List Int), l.length ≤ d → l.length ≤ e → okp d l = okp e l := by
  intro d
  induction d using Nat.strongRecOn with
  | _ d ih =>
    intro e l hd he
    cases l with
    | nil => rw [okp_nil, okp_nil]
    | cons c t =>
      simp only [List.length_cons] at hd he
      obtain ⟨d, rfl⟩ : ∃ m, d = m + 1 := ⟨d - 1, by omega⟩
      obtain ⟨e, rfl⟩ : ∃ m, e = m + 1 := ⟨e - 1, by omega⟩
      simp only [okp]
      by_cases hc : c = 92
      · rw [if_pos hc, if_pos hc]
        cases t with
        | nil => rfl
        | cons x u => simp only [List.length_cons] at hd he ⊢; exact ih d (by omega) e u (by omega) (by omega)
      · rw [if_neg hc, if_neg hc]; exact ih d (by omega) e t (by omega) (by omega)
theorem okp_join : ∀ (d : Nat) (x y : List Int), x.length ≤ d → okp d x = true → okp y.length y = true → okp (d + y.length) (x ++ y) = true := by
  intro d
  induction d using Nat.strongRecOn with
  | _ d ih =>
    intro x y hd hx hy
    cases x with
    | nil => rw [List.nil_append, okp_more _ y.length _ (by omega) (Nat.le_refl _)]; exact hy
    | cons c t =>
      simp only [List.length_cons] at hd
      obtain ⟨d, rfl⟩ : ∃ m, d = m + 1 := ⟨d - 1, by omega⟩
      have hd' : d + 1 + y.length = (d + y.length) + 1 := by omega
      rw [hd', List.cons_append]
      by_cases hc : c = 92
      · subst hc
        obtain ⟨e, u, rfl, hu⟩ := okp_esc hx
        simp only [List.length_cons] at hd
        simp only [okp, List.cons_append, if_true]
        exact ih d (by omega) u y (by omega) hu hy
      · have := okp_plain hx hc
        simp only [okp, if_neg hc]
        exact ih d (by omega) t y (by omega) this hy

theorem pu16 (a b : UInt8) : PE.out 255 (puGo 16 255 0 [a, b]) = (match hex2 a.toNat b.toNat with | some v => (v, none) | none => ((PE.out 255 (puGo 16 255 0 [a, b])).1, some 0)) := by
  have ha := dg_lo a.toNat
  have hb := dg_lo b.toNat
  unfold hex2
  simp only [puGo]
  by_cases h1 : dg a.toNat ≥ 16
  · rw [if_pos h1, if_neg (by omega)]; rfl
  · rw [if_neg h1, if_neg (show ¬ (0 * 16 + dg a.toNat > 255) by omega)]
    by_cases h2 : dg b.toNat ≥ 16
    · rw [if_pos h2, if_neg (by omega)]; rfl
    · rw [if_neg h2, if_neg (show ¬ ((0 * 16 + dg a.toNat) * 16 + dg b.toNat > 255) by omega), if_pos (by omega)]
      simp only [PE.out]
      congr 1; omega
theorem pu8 (a b c : UInt8) : PE.out 255 (puGo 8 255 0 [a, b, c]) = (match oct3 a.toNat b.toNat c.toNat with | some v => (v, none) | none => ((PE.out 255 (puGo 8 255 0 [a, b, c])).1, some 0)) := by
  have ha := dg_lo a.toNat
  have hb := dg_lo b.toNat
  have hc := dg_lo c.toNat
  unfold oct3
  simp only [puGo]
  by_cases h1 : dg a.toNat ≥ 8
  · rw [if_pos h1, if_neg (by omega)]; rfl
  · rw [if_neg h1, if_neg (by omega)]
    by_cases h2 : dg b.toNat ≥ 8
    · rw [if_pos h2, if_neg (by omega)]; rfl
    · rw [if_neg h2, if_neg (by omega)]
      by_cases h3 : dg c.toNat ≥ 8
      · rw [if_pos h3, if_neg (by omega)]; rfl
      · rw [if_neg h3]
        by_cases h4 : (0 * 8 + dg a.toNat) * 8 + dg b.toNat > 255
        · omega
        · by_cases h5 : ((0 * 8 + dg a.toNat) * 8 + dg b.toNat) * 8 + dg c.toNat > 255
          · rw [if_pos h5, if_neg (by omega)]; rfl
          · rw [if_neg h5, if_pos (by omega)]
            simp only [PE.out]
            congr 1; omega
end Go.Proofs.YtgljkbhjbefikaaDoor.Vb
