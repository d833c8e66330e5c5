/- The program's reader of types over bytes is that over lists. -/
import Derived.Test.YthkblpbabcibcaaDoorSgT
import Derived.Test.YthkblpbabcibcaaDoorBy
import Derived.Test.YthkblpbabcibcaaDoorGvVt
namespace Go.Proofs.YthkblpbabcibcaaDoor.SgT
open Go.RowKit Go.Proofs.YthkblpbabcibcaaDoorW.PrintWords Go.Proofs.YthkblpbabcibcaaDoor.Given Go.Proofs.YthkblpbabcibcaaDoor.Pl Go.Proofs.YthkblpbabcibcaaDoor.Utf Go.Proofs.YthkblpbabcibcaaDoor.Bm Go.Proofs.YthkblpbabcibcaaDoor.By

theorem bm_list (s : ByteArray) (L R : Int) : ∀ (d pos : Nat) (n : Int), pos + d = s.size → bm s L R d pos n = match bmL L R ((bytesOf s).drop pos) n with
    | none => -1
    | some i => ((pos + i : Nat) : Int) := by
  intro d
  induction d with
  | zero =>
    intro pos n h
    rw [List.drop_eq_nil_of_le (by rw [bytesOf_length]; omega)]; rfl
  | succ d ih =>
    intro pos n h
    rw [bytesOf_drop s pos (by omega), bm, bmL]
    have e1 := ih (pos + 1) (n + 1) (by omega)
    have e2 := ih (pos + 1) (n - 1) (by omega)
    have e3 := ih (pos + 1) n (by omega)
    split
    · rw [e1]; cases bmL L R ((bytesOf s).drop (pos + 1)) (n + 1) with
      | none => rfl
      | some i => exact congrArg Nat.cast (show pos + 1 + i = pos + (i + 1) by omega)
    · split
      · split
        · simp
        · rw [e2]; cases bmL L R ((bytesOf s).drop (pos + 1)) (n - 1) with
          | none => rfl
          | some i => exact congrArg Nat.cast (show pos + 1 + i = pos + (i + 1) by omega)
      · rw [e3]; cases bmL L R ((bytesOf s).drop (pos + 1)) n with
        | none => rfl
        | some i => exact congrArg Nat.cast (show pos + 1 + i = pos + (i + 1) by omega)

theorem bmL_lt {L R : Int} {l : List Int} {n : Int} {i : Nat} (h : bmL L R l n = some i) : i < l.length := by
  have := congrArg List.length (bmL_at l n i h)
  rw [List.length_append, List.length_cons, List.length_take, List.length_drop] at this
  omega

theorem vsAll_list {g : ByteArray → Option ByteArray} {gL : List Int → Option (List Int)} (hg : ∀ s, (g s).map bytesOf = gL (bytesOf s)) : ∀ (n : Nat) (s : ByteArray), vsAll g n s = vsAllL gL n (bytesOf s) := by
  intro n
  induction n with
  | zero =>
    intro s
    rw [vsAll, vsAllL]
    by_cases h : s.size = 0
    · rw [bytesOf_nil.mpr h, h]; rfl
    · rw [decide_eq_false (fun e => h (bytesOf_nil.mp e)), beq_eq_false_iff_ne.mpr h]
  | succ n ih =>
    intro s
    rw [vsAll, vsAllL]
    by_cases h : s.size = 0
    · rw [if_pos h, if_pos (bytesOf_nil.mpr h)]
    · rw [if_neg h, if_neg (fun e => h (bytesOf_nil.mp e)), ← hg s]
      cases g s with
      | none => rfl
      | some r => exact ih r

theorem vs_list : ∀ (k : Nat) (s : ByteArray) (a t d : Int), (vs k s a t d).map bytesOf = vsL k (bytesOf s) a t d := by
  intro k
  induction k with
  | zero => intro s a t d; rfl
  | succ k ih =>
    intro s a t d
    by_cases h0 : s.size = 0
    · rw [vs, if_pos h0, bytesOf_nil.mpr h0]; rfl
    have hpos : 0 < s.size := by omega
    have hl1 : (bytesOf s).length = s.size := bytesOf_length s
    rw [vs, if_neg h0, bytesOf_cons s hpos, vsL]
    have eo : (decide (a ≤ 32) && decide (t ≤ 32) && decide (d ≤ 32)) = ok a t d := rfl
    rw [eo]
    cases ok a t d with
    | false => rfl
    | true =>
      simp only [if_neg (show ¬ (true = false) by decide)]
      cases Given.lone (bt s 0) with
      | true => simp only [if_true, Option.map_some, bytesOf_from]
      | false =>
        simp only [if_neg (show ¬ (false = true) by decide)]
        by_cases h97 : bt s 0 = 97
        · rw [if_pos h97, if_pos h97]
          have hhead : (1 < s.size ∧ bt s 1 = 123) ↔ ((bytesOf s).drop 1).head? = some 123 := by
            rw [List.head?_drop]
            by_cases h1 : 1 < s.size
            · have e1 := bytesOf_get s 1 h1
              rw [e1]
              exact ⟨fun h => by rw [← h.2]; rfl, fun h => ⟨h1, Option.some.inj h⟩⟩
            · rw [List.getElem?_eq_none (by omega)]
              exact ⟨fun h => absurd h.1 h1, fun h => by cases h⟩
          by_cases hb : 1 < s.size ∧ bt s 1 = 123
          · rw [if_pos hb, if_pos (hhead.mp hb)]
            have hsz : (s.extract 1 s.size).size = s.size - 1 := sz (Nat.le_refl _)
            have ebm := bm_list (s.extract 1 s.size) 123 125 (s.size - 2) 1 1 (by omega)
            rw [bytesOf_from, List.drop_drop] at ebm
            rw [List.tail_drop]
            rw [ebm]
            cases hi : bmL 123 125 ((bytesOf s).drop (1 + 1)) 1 with
            | none => rfl
            | some i =>
              have hlt := bmL_lt hi
              rw [List.length_drop, hl1] at hlt
              dsimp only
              rw [if_neg (show ¬ (((1 + i : Nat) : Int) = -1) by omega), show (((1 + i : Nat) : Int) + 1).toNat = 2 + i by omega, show (((1 + i : Nat) : Int) + 2).toNat = 3 + i by omega]
              have em : bytesOf (s.extract 2 (2 + i)) = ((bytesOf s).drop (1 + 1)).take i := by
                rw [bytesOf_extract, List.drop_take]; congr 1; omega
              rw [← em]
              generalize s.extract 2 (2 + i) = m
              by_cases hm0 : m.size = 0
              · rw [if_pos hm0, bytesOf_nil.mpr hm0]; rfl
              · have hm1 : 0 < m.size := by omega
                have e1 : bytesOf (m.extract 0 1) = [bt m 0] := by
                  rw [bytesOf_extract, List.drop_zero, bytesOf_cons m hm1]; rfl
                have i1 := ih (m.extract 0 1) (a + 1) t (d + 1)
                have i2 := ih (m.extract 1 m.size) (a + 1) t (d + 1)
                rw [e1] at i1
                rw [bytesOf_from] at i2
                rw [if_neg hm0, bytesOf_cons m hm1]
                dsimp only
                rw [← i1, ← i2]
                cases vs k (m.extract 0 1) (a + 1) t (d + 1) with
                | none => rfl
                | some r1 =>
                  cases vs k (m.extract 1 m.size) (a + 1) t (d + 1) with
                  | none => rfl
                  | some r =>
                    dsimp only [Option.map_some]
                    by_cases hr : r.size = 0
                    · rw [if_pos hr, if_pos (bytesOf_nil.mpr hr), Option.map_some, bytesOf_from, List.drop_drop]
                      congr 2; omega
                    · rw [if_neg hr, if_neg (fun e => hr (bytesOf_nil.mp e))]; rfl
          · rw [if_neg hb, if_neg (fun e => hb (hhead.mpr e)), ih, bytesOf_from]
        · rw [if_neg h97, if_neg h97]
          by_cases h40 : bt s 0 = 40
          · rw [if_pos h40, if_pos h40]
            have ebm := bm_list s 40 41 (s.size - 1) 1 1 (by omega)
            rw [ebm]
            cases hi : bmL 40 41 ((bytesOf s).drop 1) 1 with
            | none => rfl
            | some i =>
              have hlt := bmL_lt hi
              rw [List.length_drop, hl1] at hlt
              dsimp only
              rw [if_neg (show ¬ (((1 + i : Nat) : Int) = -1) by omega), show ((1 + i : Nat) : Int).toNat = 1 + i by omega, show (((1 + i : Nat) : Int) + 1).toNat = 2 + i by omega]
              have em : bytesOf (s.extract 1 (1 + i)) = ((bytesOf s).drop 1).take i := by
                rw [bytesOf_extract, List.drop_take]; congr 1; omega
              rw [vsAll_list (gL := fun y => vsL k y a (t + 1) d) (fun s => ih s a (t + 1) d), em, show ((bytesOf s).drop 1).length + 1 = s.size by rw [List.length_drop, hl1]; omega]
              by_cases hv : vsAllL (fun x => vsL k x a (t + 1) d) s.size (((bytesOf s).drop 1).take i) = true
              · rw [if_pos hv, if_pos hv, Option.map_some, bytesOf_from, List.drop_drop]; congr 2; omega
              · rw [if_neg hv, if_neg hv]; rfl
          · rw [if_neg h40, if_neg h40]; rfl
end Go.Proofs.YthkblpbabcibcaaDoor.SgT
