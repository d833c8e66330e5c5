/- The printed functions of a byte string, as the plain lists say. -/
import Derived.Test.YtgljkbhjbefikaaDoorPVbx4
import Derived.Test.YtgljkbhjbefikaaDoorVb
namespace Go.Proofs.YtgljkbhjbefikaaDoor.Vb
open Go.RowKit Go.Proofs.YtgljkbhjbefikaaDoor.PVb Go.Proofs.YtgljkbhjbefikaaDoorW.PrintWords Go.Proofs.YtgljkbhjbefikaaDoorW.PrintLast Go.Proofs.YtgljkbhjbefikaaDoor.Pl Go.Proofs.YtgljkbhjbefikaaDoor.By
open Go.Proofs.YtgljkbhjbefikaaDoor.Given (dg PE puGo parseUint.f errNew.f)

set_option linter.unusedSimpArgs false
set_option linter.unusedVariables false
def ans (acc : List Int) : Option (List Int) → List Int × Option Int
  | some r => (acc ++ r ++ [0], none)
  | none => ([], some 0)
theorem ans_cons (acc : List Int) (v : Int) (o : Option (List Int)) : ans (acc ++ [v]) o = ans acc (o.map (v :: ·)) := by
  cases o <;> simp [ans]
theorem two {s : ByteArray} {a b : Int} {u : List Int} (h : bytesOf s = a :: b :: u) : ∃ a' b' : UInt8, (s.extract 0 2).data.toList = [a', b'] ∧ a = a'.toNat ∧ b = b'.toNat ∧ 2 ≤ s.size := by
  have hl : 2 ≤ s.size := by rw [← bytesOf_length, h]; simp
  have h' : bytesOf (s.extract 0 2) = [a, b] := by rw [bytesOf_extract, h]; rfl
  obtain ⟨a', l1, e1, ea, h1⟩ := List.map_eq_cons_iff.1 (show (s.extract 0 2).data.toList.map (fun b : UInt8 => (b.toNat : Int)) = a :: [b] from h')
  obtain ⟨b', l2, e2, eb, h2⟩ := List.map_eq_cons_iff.1 h1
  have := List.map_eq_nil_iff.1 h2
  subst this; subst e2
  exact ⟨a', b', e1, ea.symm, eb.symm, hl⟩
theorem three {s : ByteArray} {a b c : Int} {u : List Int} (h : bytesOf s = a :: b :: c :: u) : ∃ a' b' c' : UInt8, (s.extract 0 3).data.toList = [a', b', c'] ∧ a = a'.toNat ∧ b = b'.toNat ∧ c = c'.toNat ∧ 3 ≤ s.size := by
  have hl : 3 ≤ s.size := by rw [← bytesOf_length, h]; simp
  have h' : bytesOf (s.extract 0 3) = [a, b, c] := by rw [bytesOf_extract, h]; rfl
  obtain ⟨a', l1, e1, ea, h1⟩ := List.map_eq_cons_iff.1 (show (s.extract 0 3).data.toList.map (fun b : UInt8 => (b.toNat : Int)) = a :: [b, c] from h')
  obtain ⟨b', l2, e2, eb, h2⟩ := List.map_eq_cons_iff.1 h1
  obtain ⟨c', l3, e3, ec, h3⟩ := List.map_eq_cons_iff.1 h2
  have := List.map_eq_nil_iff.1 h3
  subst this; subst e3; subst e2
  exact ⟨a', b', c', e1, ea.symm, eb.symm, ec.symm, hl⟩
theorem size_ext {s : ByteArray} {i j : Nat} (h : j ≤ s.size) : (s.extract i j).size = j - i := by rw [ByteArray.size_extract, Nat.min_eq_left h]
theorem pu2 {s : ByteArray} {a b : Int} {u : List Int} (h : bytesOf s = a :: b :: u) : parseUint.f (s.extract 0 2) 16 8 = some (match hex2 a b with | some v => (v, none) | none => ((PE.out 255 (puGo 16 255 0 (s.extract 0 2).data.toList)).1, some 0)) := by
  obtain ⟨a', b', e, rfl, rfl, hl⟩ := two h
  have hz : (s.extract 0 2).size = 2 := by rw [size_ext hl]
  unfold parseUint.f
  rw [hz, if_neg (by decide), if_neg (by decide), if_pos ⟨rfl, rfl⟩, e]
  exact congrArg some (pu16 a' b')
theorem pu3 {s : ByteArray} {a b c : Int} {u : List Int} (h : bytesOf s = a :: b :: c :: u) : parseUint.f (s.extract 0 3) 8 8 = some (match oct3 a b c with | some v => (v, none) | none => ((PE.out 255 (puGo 8 255 0 (s.extract 0 3).data.toList)).1, some 0)) := by
  obtain ⟨a', b', c', e, rfl, rfl, rfl, hl⟩ := three h
  have hz : (s.extract 0 3).size = 3 := by rw [size_ext hl]
  unfold parseUint.f
  rw [hz, if_neg (by decide), if_neg (by decide), if_neg (by decide), if_pos ⟨rfl, rfl⟩, e]
  exact congrArg some (pu8 a' b' c')
theorem hex2_range {a b v : Int} (h : hex2 a b = some v) : 0 ≤ v ∧ v < 256 ∧ a ≠ 92 ∧ b ≠ 92 := by
  unfold hex2 at h
  split at h
  · rename_i hh
    have := Option.some.inj h
    have h1 := dg_lo a; have h2 := dg_lo b
    exact ⟨by omega, by omega, dg_ne hh.1, dg_ne hh.2⟩
  · cases h
theorem oct3_range {a b c v : Int} (h : oct3 a b c = some v) : 0 ≤ v ∧ v < 256 ∧ a ≠ 92 ∧ b ≠ 92 ∧ c ≠ 92 := by
  unfold oct3 at h
  split at h
  · rename_i hh
    have := Option.some.inj h
    have h1 := dg_lo a; have h2 := dg_lo b; have h3 := dg_lo c
    exact ⟨by omega, by omega, dg_ne (by omega), dg_ne (by omega), dg_ne (by omega)⟩
  · cases h
theorem bytes_cons {s : ByteArray} (h : s.size ≠ 0) : bytesOf s = bt s 0 :: bytesOf (s.extract 1 s.size) ∧ (s.extract 1 s.size).size = s.size - 1 := by
  refine ⟨?_, by rw [size_ext (Nat.le_refl _)]⟩
  rw [bytesOf_from]; exact bytesOf_cons s (by omega)

/-- The program's reader. -/
theorem par : ∀ (d : Nat) (s : ByteArray) (acc : List Int), s.size ≤ d → acc.length + s.size ≤ 1099511627776 → okp d (bytesOf s) = true →
    Ev (fun k => dbus_varParseByteString.l0 k s acc) (ans acc (pl d (bytesOf s))) := by
  intro d
  induction d using Nat.strongRecOn with
  | _ d ih =>
    intro s acc hd hacc hok
    have hA : acc.length < 140737488355328 := by omega
    by_cases h0 : s.size = 0
    · rw [bytesOf_nil.2 h0, pl_nil]
      refine Ev_up ?_
      simp only [dbus_varParseByteString.l0, if_pos (show (s.size : Int) = 0 by omega), if_pos hA]
      exact Ev_some (by simp [ans])
    obtain ⟨d, rfl⟩ : ∃ m, d = m + 1 := ⟨d - 1, by omega⟩
    obtain ⟨hb, hz⟩ := bytes_cons h0
    obtain ⟨S1, hS1⟩ : ∃ S1, s.extract 1 s.size = S1 := ⟨_, rfl⟩
    rw [hS1] at hb hz
    rw [hb] at hok ⊢
    rw [pl_cons]
    refine Ev_up ?_
    simp only [dbus_varParseByteString.l0, if_neg (show ¬ (s.size : Int) = 0 by omega), if_pos (show (0 : Int) < (s.size : Int) by omega), if_pos (show (1 : Int) ≤ (s.size : Int) by omega), hS1, if_pos hA]
    have key : ∀ (S : ByteArray) (v : Int), S.size < s.size → okp d (bytesOf S) = true → Ev (fun k => dbus_varParseByteString.l0 k S (acc ++ [v])) (ans acc ((pl d (bytesOf S)).map (v :: ·))) := by
      intro S v hS ho
      rw [← ans_cons]
      exact ih d (by omega) S _ (by omega) (by simp; omega) ho
    by_cases hc : bt s 0 = 92
    · simp only [if_pos hc]
      rw [hc] at hok
      obtain ⟨e, u, hu, huok⟩ := okp_esc hok
      have h1 : S1.size ≠ 0 := by intro h; rw [bytesOf_nil.2 h] at hu; cases hu
      obtain ⟨hb1, hz1⟩ := bytes_cons h1
      obtain ⟨S2, hS2⟩ : ∃ S2, S1.extract 1 S1.size = S2 := ⟨_, rfl⟩
      rw [hS2] at hb1 hz1
      rw [hb1] at hu ⊢
      obtain ⟨rfl, rfl⟩ := List.cons.inj hu
      simp only [if_pos (show (0 : Int) < (S1.size : Int) by omega), if_pos (show (1 : Int) ≤ (S1.size : Int) by omega), hS2, pe]
      have hl2 : (bytesOf S2).length = S2.size := bytesOf_length S2
      by_cases hx : bt S1 0 = 120
      · rw [if_pos hx]
        simp only [hx, if_true, if_neg (show ¬ (120 : Int) = 97 by decide), if_neg (show ¬ (120 : Int) = 98 by decide), if_neg (show ¬ (120 : Int) = 102 by decide), if_neg (show ¬ (120 : Int) = 110 by decide), if_neg (show ¬ (120 : Int) = 114 by decide), if_neg (show ¬ (120 : Int) = 116 by decide)]
        cases hB : bytesOf S2 with
        | nil =>
          rw [hB] at hl2
          simp only [List.length_nil] at hl2
          simp only [if_pos (show (S2.size : Int) < 2 by omega), errNew.f, Option.bind_some]
          exact Ev_some rfl
        | cons a t =>
          cases t with
          | nil =>
            rw [hB] at hl2
            simp only [List.length_cons, List.length_nil] at hl2
            simp only [if_pos (show (S2.size : Int) < 2 by omega), errNew.f, Option.bind_some]
            exact Ev_some rfl
          | cons b t =>
            rw [hB] at hl2
            simp only [List.length_cons] at hl2
            simp only [if_neg (show ¬ (S2.size : Int) < 2 by omega), if_pos (show (0 : Int) ≤ 2 by decide), if_pos (show (2 : Int) ≤ (S2.size : Int) by omega), pu2 hB, Option.bind_some, px]
            cases hv : hex2 a b with
            | none =>
              simp only [Option.isNone_some, Option.getD_some, if_neg (show ¬ (false = true) by decide)]
              exact Ev_some rfl
            | some v =>
              obtain ⟨v0, v1, na, nb⟩ := hex2_range hv
              simp only [Option.isNone_none, if_true]
              rw [Int.emod_eq_of_lt v0 v1]
              have ht : bytesOf (S2.extract 2 S2.size) = t := by rw [bytesOf_from, hB]; rfl
              have := key (S2.extract 2 S2.size) v (by rw [size_ext (Nat.le_refl _)]; omega) (by
                rw [ht]; rw [hB] at huok
                obtain ⟨m, rfl⟩ : ∃ m, d = m + 2 := ⟨d - 2, by omega⟩
                have := okp_plain (okp_plain huok na) nb
                rw [okp_more (m + 2) m t (by omega) (by omega)]; exact this)
              rw [ht] at this
              exact this
      · rw [if_neg hx]
        by_cases h48 : bt S1 0 = 48
        · rw [if_pos h48]
          simp only [h48, if_true, if_neg (show ¬ (48 : Int) = 97 by decide), if_neg (show ¬ (48 : Int) = 98 by decide), if_neg (show ¬ (48 : Int) = 102 by decide), if_neg (show ¬ (48 : Int) = 110 by decide), if_neg (show ¬ (48 : Int) = 114 by decide), if_neg (show ¬ (48 : Int) = 116 by decide), if_neg (show ¬ (48 : Int) = 120 by decide)]
          match hB : bytesOf S2 with
          | [] =>
            rw [hB] at hl2
            simp only [List.length_nil] at hl2
            simp only [if_pos (show (S2.size : Int) < 3 by omega), errNew.f, Option.bind_some]
            exact Ev_some rfl
          | [a] =>
            rw [hB] at hl2
            simp only [List.length_cons, List.length_nil] at hl2
            simp only [if_pos (show (S2.size : Int) < 3 by omega), errNew.f, Option.bind_some]
            exact Ev_some rfl
          | [a, b] =>
            rw [hB] at hl2
            simp only [List.length_cons, List.length_nil] at hl2
            simp only [if_pos (show (S2.size : Int) < 3 by omega), errNew.f, Option.bind_some]
            exact Ev_some rfl
          | a :: b :: c :: t =>
            rw [hB] at hl2
            simp only [List.length_cons] at hl2
            simp only [if_neg (show ¬ (S2.size : Int) < 3 by omega), if_pos (show (0 : Int) ≤ 3 by decide), if_pos (show (3 : Int) ≤ (S2.size : Int) by omega), pu3 hB, Option.bind_some, po]
            cases hv : oct3 a b c with
            | none =>
              simp only [Option.isNone_some, Option.getD_some, if_neg (show ¬ (false = true) by decide)]
              exact Ev_some rfl
            | some v =>
              obtain ⟨v0, v1, na, nb, nc⟩ := oct3_range hv
              simp only [Option.isNone_none, if_true]
              rw [Int.emod_eq_of_lt v0 v1]
              have ht : bytesOf (S2.extract 3 S2.size) = t := by rw [bytesOf_from, hB]; rfl
              have := key (S2.extract 3 S2.size) v (by rw [size_ext (Nat.le_refl _)]; omega) (by
                rw [ht]; rw [hB] at huok
                obtain ⟨m, rfl⟩ : ∃ m, d = m + 3 := ⟨d - 3, by omega⟩
                have := okp_plain (okp_plain (okp_plain huok na) nb) nc
                rw [okp_more (m + 3) m t (by omega) (by omega)]; exact this)
              rw [ht] at this
              exact this
        · rw [if_neg h48]
          have hgo := key S2 (esc (bt S1 0)) (by omega) huok
          unfold esc at hgo ⊢
          by_cases e1 : bt S1 0 = 97
          · simp only [if_pos e1] at hgo ⊢; exact hgo
          simp only [if_neg e1] at hgo ⊢
          by_cases e2 : bt S1 0 = 98
          · simp only [if_pos e2] at hgo ⊢; exact hgo
          simp only [if_neg e2] at hgo ⊢
          by_cases e3 : bt S1 0 = 102
          · simp only [if_pos e3] at hgo ⊢; exact hgo
          simp only [if_neg e3] at hgo ⊢
          by_cases e4 : bt S1 0 = 110
          · simp only [if_pos e4] at hgo ⊢; exact hgo
          simp only [if_neg e4] at hgo ⊢
          by_cases e5 : bt S1 0 = 114
          · simp only [if_pos e5] at hgo ⊢; exact hgo
          simp only [if_neg e5] at hgo ⊢
          by_cases e6 : bt S1 0 = 116
          · simp only [if_pos e6] at hgo ⊢; exact hgo
          simp only [if_neg e6, if_neg hx, if_neg h48] at hgo ⊢
          exact hgo
    · simp only [if_neg hc]
      exact key S1 (bt s 0) (by omega) (okp_plain hok hc)

/-! ### the specification's reader -/
def ansS (acc : List Int) : Option (List Int) → ByteArray × Bool
  | some r => (strOfNums (acc ++ r ++ [0]), true)
  | none => (⟨#[]⟩, false)
theorem ansS_cons (acc : List Int) (v : Int) (o : Option (List Int)) : ansS (acc ++ [v]) o = ansS acc (o.map (v :: ·)) := by
  cases o <;> simp [ansS]
theorem hexD (c : Int) : Ev (fun k => spec_hexDigit.f k c) (if dg c < 16 then (dg c, true) else (0, false)) := by
  unfold spec_hexDigit.f
  have hb0 : 0 ≤ Go.bits .or .u8 c 32 := bits_lo_u8 .or c 32
  unfold dg
  by_cases h1 : 48 ≤ c
  · simp only [if_pos (show c ≥ 48 by omega)]
    by_cases h2 : c ≤ 57
    · rw [if_pos (show 48 ≤ c ∧ c ≤ 57 from ⟨h1, h2⟩), if_pos (by omega)]
      refine Ev_up ?_
      simp only [spec_hexDigit.j0, decide_eq_true h2, if_true]
      exact Ev_some (by rw [Int.emod_eq_of_lt (by omega) (by omega)])
    · rw [if_neg (show ¬ (48 ≤ c ∧ c ≤ 57) by omega)]
      refine Ev_up ?_
      simp only [spec_hexDigit.j0, decide_eq_false h2, if_neg (show ¬ (false = true) by decide)]
      by_cases h3 : 97 ≤ Go.bits .or .u8 c 32
      · simp only [if_pos (show Go.bits .or .u8 c 32 ≥ 97 from h3)]
        by_cases h4 : Go.bits .or .u8 c 32 ≤ 102
        · simp only [if_pos h4]
          rw [if_pos (show 97 ≤ Go.bits .or .u8 c 32 ∧ Go.bits .or .u8 c 32 ≤ 122 from ⟨h3, by omega⟩), if_pos (by omega)]
          exact Ev_some (by congr 1; omega)
        · simp only [if_neg h4]
          by_cases h5 : Go.bits .or .u8 c 32 ≤ 122
          · rw [if_pos (show 97 ≤ Go.bits .or .u8 c 32 ∧ Go.bits .or .u8 c 32 ≤ 122 from ⟨h3, h5⟩), if_neg (by omega)]
            exact Ev_some rfl
          · rw [if_neg (show ¬ (97 ≤ Go.bits .or .u8 c 32 ∧ Go.bits .or .u8 c 32 ≤ 122) by omega), if_neg (by decide)]
            exact Ev_some rfl
      · simp only [if_neg (show ¬ Go.bits .or .u8 c 32 ≥ 97 by omega)]
        rw [if_neg (show ¬ (97 ≤ Go.bits .or .u8 c 32 ∧ Go.bits .or .u8 c 32 ≤ 122) by omega), if_neg (by decide)]
        exact Ev_some rfl
  · simp only [if_neg (show ¬ c ≥ 48 by omega)]
    rw [if_neg (show ¬ (48 ≤ c ∧ c ≤ 57) by omega)]
    refine Ev_up ?_
    simp only [spec_hexDigit.j0, if_neg (show ¬ (false = true) by decide)]
    by_cases h3 : 97 ≤ Go.bits .or .u8 c 32
    · simp only [if_pos (show Go.bits .or .u8 c 32 ≥ 97 from h3)]
      by_cases h4 : Go.bits .or .u8 c 32 ≤ 102
      · simp only [if_pos h4]
        rw [if_pos (show 97 ≤ Go.bits .or .u8 c 32 ∧ Go.bits .or .u8 c 32 ≤ 122 from ⟨h3, by omega⟩), if_pos (by omega)]
        exact Ev_some (by congr 1; omega)
      · simp only [if_neg h4]
        by_cases h5 : Go.bits .or .u8 c 32 ≤ 122
        · rw [if_pos (show 97 ≤ Go.bits .or .u8 c 32 ∧ Go.bits .or .u8 c 32 ≤ 122 from ⟨h3, h5⟩), if_neg (by omega)]
          exact Ev_some rfl
        · rw [if_neg (show ¬ (97 ≤ Go.bits .or .u8 c 32 ∧ Go.bits .or .u8 c 32 ≤ 122) by omega), if_neg (by decide)]
          exact Ev_some rfl
    · simp only [if_neg (show ¬ Go.bits .or .u8 c 32 ≥ 97 by omega)]
      rw [if_neg (show ¬ (97 ≤ Go.bits .or .u8 c 32 ∧ Go.bits .or .u8 c 32 ≤ 122) by omega), if_neg (by decide)]
      exact Ev_some rfl
theorem escA (c : Int) : Ev (fun k => spec_escapedAs.f k c) (esc c) := by
  unfold spec_escapedAs.f
  have e : ∀ i : Int, 0 ≤ i → i ≤ 100 → wrap64 (i + 1) = i + 1 := fun i h1 h2 => w64 (by omega) (by omega)
  have b0 : bt (⟨#[97, 98, 102, 110, 114, 116]⟩ : ByteArray) 0 = 97 := by decide
  have b1 : bt (⟨#[97, 98, 102, 110, 114, 116]⟩ : ByteArray) 1 = 98 := by decide
  have b2 : bt (⟨#[97, 98, 102, 110, 114, 116]⟩ : ByteArray) 2 = 102 := by decide
  have b3 : bt (⟨#[97, 98, 102, 110, 114, 116]⟩ : ByteArray) 3 = 110 := by decide
  have b4 : bt (⟨#[97, 98, 102, 110, 114, 116]⟩ : ByteArray) 4 = 114 := by decide
  have b5 : bt (⟨#[97, 98, 102, 110, 114, 116]⟩ : ByteArray) 5 = 116 := by decide
  have a0 : bt (⟨#[7, 8, 12, 10, 13, 9]⟩ : ByteArray) 0 = 7 := by decide
  have a1 : bt (⟨#[7, 8, 12, 10, 13, 9]⟩ : ByteArray) 1 = 8 := by decide
  have a2 : bt (⟨#[7, 8, 12, 10, 13, 9]⟩ : ByteArray) 2 = 12 := by decide
  have a3 : bt (⟨#[7, 8, 12, 10, 13, 9]⟩ : ByteArray) 3 = 10 := by decide
  have a4 : bt (⟨#[7, 8, 12, 10, 13, 9]⟩ : ByteArray) 4 = 13 := by decide
  have a5 : bt (⟨#[7, 8, 12, 10, 13, 9]⟩ : ByteArray) 5 = 9 := by decide
  unfold esc
  refine Ev_up ?_
  simp only [spec_escapedAs.l0, if_pos (show (0 : Int) < 6 by decide), if_pos (show (0 : Int) ≤ 0 by decide), b0, a0, e 0 (by decide) (by decide)]
  by_cases h : c = 97
  · simp only [if_pos h]; exact Ev_some rfl
  simp only [if_neg h]
  refine Ev_up ?_
  simp only [spec_escapedAs.l0, show (0 : Int) + 1 = 1 from rfl, if_pos (show (1 : Int) < 6 by decide), if_pos (show (0 : Int) ≤ 1 by decide), b1, a1, e 1 (by decide) (by decide)]
  by_cases h : c = 98
  · simp only [if_pos h]; exact Ev_some rfl
  simp only [if_neg h]
  refine Ev_up ?_
  simp only [spec_escapedAs.l0, show (1 : Int) + 1 = 2 from rfl, if_pos (show (2 : Int) < 6 by decide), if_pos (show (0 : Int) ≤ 2 by decide), b2, a2, e 2 (by decide) (by decide)]
  by_cases h : c = 102
  · simp only [if_pos h]; exact Ev_some rfl
  simp only [if_neg h]
  refine Ev_up ?_
  simp only [spec_escapedAs.l0, show (2 : Int) + 1 = 3 from rfl, if_pos (show (3 : Int) < 6 by decide), if_pos (show (0 : Int) ≤ 3 by decide), b3, a3, e 3 (by decide) (by decide)]
  by_cases h : c = 110
  · simp only [if_pos h]; exact Ev_some rfl
  simp only [if_neg h]
  refine Ev_up ?_
  simp only [spec_escapedAs.l0, show (3 : Int) + 1 = 4 from rfl, if_pos (show (4 : Int) < 6 by decide), if_pos (show (0 : Int) ≤ 4 by decide), b4, a4, e 4 (by decide) (by decide)]
  by_cases h : c = 114
  · simp only [if_pos h]; exact Ev_some rfl
  simp only [if_neg h]
  refine Ev_up ?_
  simp only [spec_escapedAs.l0, show (4 : Int) + 1 = 5 from rfl, if_pos (show (5 : Int) < 6 by decide), if_pos (show (0 : Int) ≤ 5 by decide), b5, a5, e 5 (by decide) (by decide)]
  by_cases h : c = 116
  · simp only [if_pos h]; exact Ev_some rfl
  simp only [if_neg h]
  refine Ev_up ?_
  simp only [spec_escapedAs.l0, show (5 : Int) + 1 = 6 from rfl, if_neg (show ¬ (6 : Int) < 6 by decide)]
  exact Ev_some rfl

theorem dig_great (s : ByteArray) (E : Nat) (acc : List Int) (p : Nat) (n many base : Int) (hn2 : n > 255) :
    Ev (fun k => spec_BytesOf.l1 k s acc (E : Int) (p : Int) n many base many) (⟨#[]⟩, false) := by
  refine Ev_up ?_
  simp only [spec_BytesOf.l1, if_neg (Int.lt_irrefl many), if_pos hn2]
  exact Ev_some rfl
section
variable (s : ByteArray) (E : Nat) (hE : E < s.size) (hs : s.size ≤ 1099511627776) (acc : List Int)
include hE hs
/-- One more digit. -/
theorem dig_ok (p : Nat) (n many base j : Int) (hp : p + 1 < E) (hb : base = 8 ∨ base = 16) (hj : j < many) (hj0 : 0 ≤ j) (hm : many ≤ 3) (hn : 0 ≤ n) (hn2 : n ≤ 65535) (hd : dg (bt s ((p + 1 : Nat) : Int)) < base) {r : ByteArray × Bool}
    (h : Ev (fun k => spec_BytesOf.l1 k s acc (E : Int) ((p + 1 : Nat) : Int) (n * base + dg (bt s ((p + 1 : Nat) : Int))) many base (j + 1)) r) :
    Ev (fun k => spec_BytesOf.l1 k s acc (E : Int) (p : Int) n many base j) r := by
  have hl := dg_lo (bt s ((p + 1 : Nat) : Int))
  refine Ev_up ?_
  have e1 : wrap64 ((p : Int) + 1) = ((p + 1 : Nat) : Int) := by rw [w64 (by omega) (by omega)]; omega
  simp only [spec_BytesOf.l1, if_pos hj, e1, if_pos (show ((p + 1 : Nat) : Int) < (E : Int) by omega), if_pos (show (0 : Int) ≤ ((p + 1 : Nat) : Int) by omega), if_pos (show ((p + 1 : Nat) : Int) < (s.size : Int) by omega)]
  refine Ev.bind (hexD (bt s ((p + 1 : Nat) : Int))) ?_
  rw [if_pos (by rcases hb with rfl | rfl <;> omega)]
  have e2 : wrap64 (dg (bt s ((p + 1 : Nat) : Int))) = dg (bt s ((p + 1 : Nat) : Int)) := w64 (by omega) (by rcases hb with rfl | rfl <;> omega)
  have e3 : wrap64 (wrap64 (n * base) + dg (bt s ((p + 1 : Nat) : Int))) = n * base + dg (bt s ((p + 1 : Nat) : Int)) := by
    rcases hb with rfl | rfl
    · rw [w64 (x := n * 8) (by omega) (by omega), w64 (by omega) (by omega)]
    · rw [w64 (x := n * 16) (by omega) (by omega), w64 (by omega) (by omega)]
  have e4 : wrap64 (j + 1) = j + 1 := w64 (by omega) (by omega)
  simp only [if_true, e2, if_neg (show ¬ dg (bt s ((p + 1 : Nat) : Int)) ≥ base by omega), e3, e4]
  exact h
theorem dig_bad (p : Nat) (n many base j : Int) (hpE : p < E) (hb : base = 8 ∨ base = 16) (hj : j < many) (hd : p + 1 < E → base ≤ dg (bt s ((p + 1 : Nat) : Int))) :
    Ev (fun k => spec_BytesOf.l1 k s acc (E : Int) (p : Int) n many base j) (⟨#[]⟩, false) := by
  refine Ev_up ?_
  have e1 : wrap64 ((p : Int) + 1) = ((p + 1 : Nat) : Int) := by rw [w64 (by omega) (by omega)]; omega
  by_cases hp : p + 1 < E
  · have hd' := hd hp
    simp only [spec_BytesOf.l1, if_pos hj, e1, if_pos (show ((p + 1 : Nat) : Int) < (E : Int) by omega), if_pos (show (0 : Int) ≤ ((p + 1 : Nat) : Int) by omega), if_pos (show ((p + 1 : Nat) : Int) < (s.size : Int) by omega)]
    refine Ev.bind (hexD (bt s ((p + 1 : Nat) : Int))) ?_
    by_cases h16 : dg (bt s ((p + 1 : Nat) : Int)) < 16
    · rw [if_pos h16]
      have e2 : wrap64 (dg (bt s ((p + 1 : Nat) : Int))) = dg (bt s ((p + 1 : Nat) : Int)) := w64 (by have := dg_lo (bt s ((p + 1 : Nat) : Int)); omega) (by omega)
      simp only [if_true, e2, if_pos (show dg (bt s ((p + 1 : Nat) : Int)) ≥ base from hd')]
      exact Ev_some rfl
    · rw [if_neg h16]
      simp only [if_neg (show ¬ (false = true) by decide)]
      exact Ev_some rfl
  · simp only [spec_BytesOf.l1, if_pos hj, e1, if_neg (show ¬ ((p + 1 : Nat) : Int) < (E : Int) by omega)]
    exact Ev_some rfl
theorem dig_end (p : Nat) (n many base : Int) (hpE : p < E) (hn : 0 ≤ n) (hn2 : n ≤ 255) (hacc : acc.length < 140737488355328) {r : ByteArray × Bool}
    (h : Ev (fun k => spec_BytesOf.l0 k s (acc ++ [n]) (E : Int) ((p + 1 : Nat) : Int)) r) :
    Ev (fun k => spec_BytesOf.l1 k s acc (E : Int) (p : Int) n many base many) r := by
  refine Ev_up ?_
  have e1 : wrap64 ((p : Int) + 1) = ((p + 1 : Nat) : Int) := by rw [w64 (by omega) (by omega)]; omega
  simp only [spec_BytesOf.l1, if_neg (Int.lt_irrefl many), if_neg (show ¬ n > 255 by omega), if_pos hacc, e1, Int.emod_eq_of_lt hn (show n < 256 by omega)]
  exact h
end

set_option maxHeartbeats 4000000 in
/-- The specification's reader. -/
theorem sp (s : ByteArray) (E : Nat) (hE : E < s.size) (hs : s.size ≤ 1099511627776) : ∀ (d i : Nat) (acc : List Int), i ≤ E → E - i ≤ d → acc.length ≤ i → okp d (((bytesOf s).take E).drop i) = true →
    Ev (fun k => spec_BytesOf.l0 k s acc (E : Int) (i : Int)) (ansS acc (pl d (((bytesOf s).take E).drop i))) := by
  have hlen : ((bytesOf s).take E).length = E := by rw [List.length_take, bytesOf_length, Nat.min_eq_left (by omega)]
  have hdrop : ∀ i, i < E → ((bytesOf s).take E).drop i = bt s (i : Int) :: ((bytesOf s).take E).drop (i + 1) := by
    intro i hi
    rw [List.drop_eq_getElem_cons (by omega), List.getElem_take]
    congr 1
    have := bytesOf_get s i (by omega)
    rw [List.getElem?_eq_getElem (by rw [bytesOf_length]; omega)] at this
    exact Option.some.inj this
  intro d
  induction d using Nat.strongRecOn with
  | _ d ih =>
    intro i acc hi hd hacc hok
    have hA : acc.length < 140737488355328 := by omega
    by_cases hlt : i < E
    · obtain ⟨d, rfl⟩ : ∃ m, d = m + 1 := ⟨d - 1, by omega⟩
      rw [hdrop i hlt] at hok ⊢
      rw [pl_cons]
      have e1 : wrap64 ((i : Int) + 1) = ((i + 1 : Nat) : Int) := by rw [w64 (by omega) (by omega)]; omega
      have key : ∀ (p : Nat) (v : Int), i < p → p ≤ E → okp d (((bytesOf s).take E).drop p) = true → Ev (fun k => spec_BytesOf.l0 k s (acc ++ [v]) (E : Int) (p : Int)) (ansS acc ((pl d (((bytesOf s).take E).drop p)).map (v :: ·))) := by
        intro p v h1 h2 h3
        rw [← ansS_cons]
        exact ih d (by omega) p _ h2 (by omega) (by simp; omega) h3
      refine Ev_up ?_
      simp only [spec_BytesOf.l0, if_pos (show (i : Int) < (E : Int) by omega), if_pos (show (0 : Int) ≤ (i : Int) by omega), if_pos (show (i : Int) < (s.size : Int) by omega), if_pos hA, e1]
      by_cases hc : bt s (i : Int) = 92
      · rw [hc] at hok
        simp only [if_pos hc]
        obtain ⟨e, u, hu, huok⟩ := okp_esc hok
        have hi1 : i + 1 < E := by
          apply Nat.lt_of_not_le
          intro h
          rw [List.drop_eq_nil_of_le (by omega)] at hu
          cases hu
        rw [hdrop (i + 1) hi1] at hu ⊢
        obtain ⟨rfl, rfl⟩ := List.cons.inj hu
        clear hc
        have e2 : wrap64 (((i + 1 : Nat) : Int) + 1) = ((i + 2 : Nat) : Int) := by rw [w64 (by omega) (by omega)]; omega
        have f1 : (0 : Int) ≤ ((i + 1 : Nat) : Int) := by omega
        have f2 : ((i + 1 : Nat) : Int) < (s.size : Int) := by omega
        generalize bt s ((i + 1 : Nat) : Int) = e at hu ⊢
        simp only [if_pos f1, if_pos f2, pe]
        by_cases hx : e = 120
        · subst hx
          simp only [if_true]
          refine Ev_up ?_
          simp only [spec_BytesOf.j1, show ((120 : Int) == 120) = true from rfl, if_true, if_neg (show ¬ (120 : Int) = 48 by decide)]
          refine Ev_up ?_
          simp only [spec_BytesOf.j2]
          by_cases h2 : i + 1 + 1 < E
          · rw [hdrop (i + 1 + 1) h2] at huok ⊢
            by_cases h3 : i + 1 + 1 + 1 < E
            · rw [hdrop (i + 1 + 1 + 1) h3] at huok ⊢
              simp only [px, hex2]
              have l1 := dg_lo (bt s ((i + 1 + 1 : Nat) : Int))
              have l2 := dg_lo (bt s ((i + 1 + 1 + 1 : Nat) : Int))
              by_cases d1 : dg (bt s ((i + 1 + 1 : Nat) : Int)) < 16
              · refine dig_ok s E hE hs acc (i + 1) 0 2 16 0 h2 (.inr rfl) (by decide) (by decide) (by decide) (by decide) (by decide) d1 ?_
                by_cases d2 : dg (bt s ((i + 1 + 1 + 1 : Nat) : Int)) < 16
                · refine dig_ok s E hE hs acc (i + 1 + 1) _ 2 16 (0 + 1) h3 (.inr rfl) (by decide) (by decide) (by decide) (by omega) (by omega) d2 ?_
                  rw [if_pos ⟨d1, d2⟩]
                  refine dig_end s E hE hs acc (i + 1 + 1 + 1) _ 2 16 h3 (by omega) (by omega) hA ?_
                  have hv : (0 * 16 + dg (bt s ((i + 1 + 1 : Nat) : Int))) * 16 + dg (bt s ((i + 1 + 1 + 1 : Nat) : Int)) = dg (bt s ((i + 1 + 1 : Nat) : Int)) * 16 + dg (bt s ((i + 1 + 1 + 1 : Nat) : Int)) := by omega
                  rw [hv]
                  refine key (i + 1 + 1 + 1 + 1) _ (by omega) (by omega) ?_
                  obtain ⟨m, rfl⟩ : ∃ m, d = m + 2 := ⟨d - 2, by omega⟩
                  have := okp_plain (okp_plain huok (dg_ne d1)) (dg_ne d2)
                  rw [okp_more (m + 2) m _ (by rw [List.length_drop, hlen]; omega) (by rw [List.length_drop, hlen]; omega)]; exact this
                · rw [if_neg (by omega)]
                  exact dig_bad s E hE hs acc (i + 1 + 1) _ 2 16 (0 + 1) (by omega) (.inr rfl) (by decide) (fun _ => Int.not_lt.1 d2)
              · rw [if_neg (by omega)]
                exact dig_bad s E hE hs acc (i + 1) _ 2 16 0 (by omega) (.inr rfl) (by decide) (fun _ => Int.not_lt.1 d1)
            · rw [List.drop_eq_nil_of_le (by omega)]
              simp only [px]
              by_cases d1 : dg (bt s ((i + 1 + 1 : Nat) : Int)) < 16
              · refine dig_ok s E hE hs acc (i + 1) 0 2 16 0 h2 (.inr rfl) (by decide) (by decide) (by decide) (by decide) (by decide) d1 ?_
                exact dig_bad s E hE hs acc (i + 1 + 1) _ 2 16 (0 + 1) (by omega) (.inr rfl) (by decide) (fun h => absurd h h3)
              · exact dig_bad s E hE hs acc (i + 1) _ 2 16 0 (by omega) (.inr rfl) (by decide) (fun _ => Int.not_lt.1 d1)
          · rw [List.drop_eq_nil_of_le (by omega)]
            simp only [px]
            exact dig_bad s E hE hs acc (i + 1) _ 2 16 0 (by omega) (.inr rfl) (by decide) (fun h => absurd h h2)
        · simp only [if_neg hx]
          refine Ev_up ?_
          by_cases h48 : e = 48
          · subst h48
            simp only [if_true]
            simp only [spec_BytesOf.j1, show ((48 : Int) == 48) = true from rfl, if_true]
            refine Ev_up ?_
            simp only [spec_BytesOf.j2]
            by_cases h2 : i + 1 + 1 < E
            · rw [hdrop (i + 1 + 1) h2] at huok ⊢
              have l1 := dg_lo (bt s ((i + 1 + 1 : Nat) : Int))
              by_cases d1 : dg (bt s ((i + 1 + 1 : Nat) : Int)) < 8
              · refine dig_ok s E hE hs acc (i + 1) 0 3 8 0 h2 (.inl rfl) (by decide) (by decide) (by decide) (by decide) (by decide) d1 ?_
                by_cases h3 : i + 1 + 1 + 1 < E
                · rw [hdrop (i + 1 + 1 + 1) h3] at huok ⊢
                  have l2 := dg_lo (bt s ((i + 1 + 1 + 1 : Nat) : Int))
                  by_cases d2 : dg (bt s ((i + 1 + 1 + 1 : Nat) : Int)) < 8
                  · refine dig_ok s E hE hs acc (i + 1 + 1) _ 3 8 (0 + 1) h3 (.inl rfl) (by decide) (by decide) (by decide) (by omega) (by omega) d2 ?_
                    by_cases h4 : i + 1 + 1 + 1 + 1 < E
                    · rw [hdrop (i + 1 + 1 + 1 + 1) h4] at huok ⊢
                      simp only [po, oct3]
                      have l3 := dg_lo (bt s ((i + 1 + 1 + 1 + 1 : Nat) : Int))
                      by_cases d3 : dg (bt s ((i + 1 + 1 + 1 + 1 : Nat) : Int)) < 8
                      · refine dig_ok s E hE hs acc (i + 1 + 1 + 1) _ 3 8 (0 + 1 + 1) h4 (.inl rfl) (by decide) (by decide) (by decide) (by omega) (by omega) d3 ?_
                        have hv : ((0 * 8 + dg (bt s ((i + 1 + 1 : Nat) : Int))) * 8 + dg (bt s ((i + 1 + 1 + 1 : Nat) : Int))) * 8 + dg (bt s ((i + 1 + 1 + 1 + 1 : Nat) : Int)) = (dg (bt s ((i + 1 + 1 : Nat) : Int)) * 8 + dg (bt s ((i + 1 + 1 + 1 : Nat) : Int))) * 8 + dg (bt s ((i + 1 + 1 + 1 + 1 : Nat) : Int)) := by omega
                        rw [hv]
                        by_cases hgt : (dg (bt s ((i + 1 + 1 : Nat) : Int)) * 8 + dg (bt s ((i + 1 + 1 + 1 : Nat) : Int))) * 8 + dg (bt s ((i + 1 + 1 + 1 + 1 : Nat) : Int)) ≤ 255
                        · rw [if_pos ⟨d1, d2, d3, hgt⟩]
                          refine dig_end s E hE hs acc (i + 1 + 1 + 1 + 1) _ 3 8 h4 (by omega) (by omega) hA ?_
                          refine key (i + 1 + 1 + 1 + 1 + 1) _ (by omega) (by omega) ?_
                          obtain ⟨m, rfl⟩ : ∃ m, d = m + 3 := ⟨d - 3, by omega⟩
                          have := okp_plain (okp_plain (okp_plain huok (dg_ne (by omega))) (dg_ne (by omega))) (dg_ne (by omega))
                          rw [okp_more (m + 3) m _ (by rw [List.length_drop, hlen]; omega) (by rw [List.length_drop, hlen]; omega)]; exact this
                        · rw [if_neg (by omega)]
                          exact dig_great s E acc (i + 1 + 1 + 1 + 1) _ 3 8 (by omega)
                      · rw [if_neg (by omega)]
                        exact dig_bad s E hE hs acc (i + 1 + 1 + 1) _ 3 8 (0 + 1 + 1) (by omega) (.inl rfl) (by decide) (fun _ => Int.not_lt.1 d3)
                    · rw [List.drop_eq_nil_of_le (by omega)]
                      simp only [po]
                      exact dig_bad s E hE hs acc (i + 1 + 1 + 1) _ 3 8 (0 + 1 + 1) (by omega) (.inl rfl) (by decide) (fun h => absurd h h4)
                  · have hn : po (pl d) (bt s ((i + 1 + 1 : Nat) : Int) :: bt s ((i + 1 + 1 + 1 : Nat) : Int) :: ((bytesOf s).take E).drop (i + 1 + 1 + 1 + 1)) = none := by
                      cases ((bytesOf s).take E).drop (i + 1 + 1 + 1 + 1) with
                      | nil => rfl
                      | cons x y => simp only [po, oct3]; rw [if_neg (by omega)]
                    rw [hn]
                    exact dig_bad s E hE hs acc (i + 1 + 1) _ 3 8 (0 + 1) (by omega) (.inl rfl) (by decide) (fun _ => Int.not_lt.1 d2)
                · rw [List.drop_eq_nil_of_le (by omega)]
                  simp only [po]
                  exact dig_bad s E hE hs acc (i + 1 + 1) _ 3 8 (0 + 1) (by omega) (.inl rfl) (by decide) (fun h => absurd h h3)
              · have hn : po (pl d) (bt s ((i + 1 + 1 : Nat) : Int) :: ((bytesOf s).take E).drop (i + 1 + 1 + 1)) = none := by
                  match ((bytesOf s).take E).drop (i + 1 + 1 + 1) with
                  | [] => rfl
                  | [_] => rfl
                  | x :: y :: z => simp only [po, oct3]; rw [if_neg (by omega)]
                rw [hn]
                exact dig_bad s E hE hs acc (i + 1) _ 3 8 0 (by omega) (.inl rfl) (by decide) (fun _ => Int.not_lt.1 d1)
            · rw [List.drop_eq_nil_of_le (by omega)]
              simp only [po]
              exact dig_bad s E hE hs acc (i + 1) _ 3 8 0 (by omega) (.inl rfl) (by decide) (fun h => absurd h h2)
          · simp only [if_neg h48]
            simp only [spec_BytesOf.j1, show (e == 48) = false from beq_eq_false_iff_ne.2 h48, if_neg (show ¬ (false = true) by decide), e2]
            refine Ev.bind (escA e) ?_
            simp only [if_pos hA]
            exact key (i + 1 + 1) _ (by omega) (by omega) huok
      · simp only [if_neg hc]
        exact key (i + 1) _ (by omega) (by omega) (okp_plain hok hc)
    · have hiE : i = E := by omega
      subst hiE
      rw [List.drop_eq_nil_of_le (by omega), pl_nil]
      refine Ev_up ?_
      simp only [spec_BytesOf.l0, if_neg (Int.lt_irrefl (i : Int)), if_pos hA]
      exact Ev_some (by simp [ansS])

/-! ### the inside between its marks -/
def inB (m : Int) : Nat → List Int → Bool
  | 0, _ => true
  | _ + 1, [] => true
  | d + 1, c :: t => if c = 92 then (match t with
    | [] => false
    | _ :: u => inB m d u) else if c = m then false else inB m d t
theorem okp_of_in (m : Int) : ∀ (d : Nat) (l : List Int), inB m d l = true → okp d l = true := by
  intro d
  induction d using Nat.strongRecOn with
  | _ d ih =>
    intro l h
    cases d with
    | zero => rfl
    | succ d =>
      cases l with
      | nil => rfl
      | cons c t =>
        simp only [inB, okp] at h ⊢
        by_cases hc : c = 92
        · rw [if_pos hc] at h ⊢
          cases t with
          | nil => exact h
          | cons e u => exact ih d (by omega) u h
        · rw [if_neg hc] at h ⊢
          by_cases hm : c = m
          · rw [if_pos hm] at h; cases h
          · rw [if_neg hm] at h; exact ih d (by omega) t h

theorem ins (M S : ByteArray) (m : Int) (hM : M.size = 1) (hm : bt M 0 = m) (hm92 : m ≠ 92) (hS : S.size ≤ 1099511627776) : ∀ (d i : Nat) (A : List Int), (bytesOf S).drop i = A ++ [m] → i + A.length + 1 = S.size → A.length ≤ d →
    Ev (fun k => laws_vtInside.l0 k M S (i : Int)) (S, inB m d A) := by
  intro d
  induction d using Nat.strongRecOn with
  | _ d ih =>
    intro i A hA hl hd
    have hi : i < S.size := by omega
    have e1 : wrap64 ((i : Int) + 1) = ((i + 1 : Nat) : Int) := by rw [w64 (by omega) (by omega)]; omega
    have e2 : wrap64 (((i + 1 : Nat) : Int) + 1) = ((i + 2 : Nat) : Int) := by rw [w64 (by omega) (by omega)]; omega
    have e3 : wrap64 ((S.size : Int) - 1) = (S.size : Int) - 1 := w64 (by omega) (by omega)
    rw [bytesOf_drop S i hi] at hA
    refine Ev_up ?_
    simp only [laws_vtInside.l0, if_pos (show (i : Int) < (S.size : Int) by omega), if_pos (show (0 : Int) ≤ (i : Int) by omega), if_pos (show (0 : Int) < (M.size : Int) by omega), e1, e2, e3, hm]
    cases A with
    | nil =>
      obtain ⟨hb, _⟩ := List.cons.inj hA
      simp only [List.length_nil] at hl
      simp only [hb, if_neg hm92, if_true]
      refine Ev_some ?_
      have : ((i : Int) == (S.size : Int) - 1) = true := beq_iff_eq.2 (by omega)
      rw [this]; cases d <;> rfl
    | cons c t =>
      obtain ⟨hb, ht⟩ := List.cons.inj hA
      simp only [List.length_cons] at hl hd
      obtain ⟨d, rfl⟩ : ∃ q, d = q + 1 := ⟨d - 1, by omega⟩
      simp only [hb, inB]
      by_cases hc : c = 92
      · simp only [if_pos hc]
        cases t with
        | nil =>
          simp only [List.length_nil] at hl
          refine Ev_up ?_
          simp only [laws_vtInside.l0, if_neg (show ¬ ((i + 2 : Nat) : Int) < (S.size : Int) by omega)]
          exact Ev_some rfl
        | cons e u =>
          simp only [List.length_cons] at hl hd
          refine ih d (by omega) (i + 2) u ?_ (by omega) (by omega)
          have : (bytesOf S).drop (i + 1) = e :: (u ++ [m]) := ht
          rw [bytesOf_drop S (i + 1) (by omega)] at this
          exact (List.cons.inj this).2
      · simp only [if_neg hc]
        by_cases hcm : c = m
        · simp only [if_pos hcm]
          refine Ev_some ?_
          have : ((i : Int) == (S.size : Int) - 1) = false := beq_eq_false_iff_ne.2 (by omega)
          rw [this]
        · simp only [if_neg hcm]
          exact ih d (by omega) (i + 1) t ht (by omega) (by omega)

def mk (b : Bool) : ByteArray := if b = true then ⟨#[34]⟩ else ⟨#[39]⟩
theorem mk_size (b : Bool) : (mk b).size = 1 := by cases b <;> rfl
theorem mk_bytes (b : Bool) : bytesOf (mk b) = [bt (mk b) 0] := by cases b <;> decide
theorem mk_ne (b : Bool) : bt (mk b) 0 ≠ 92 := by cases b <;> decide
theorem inside (a : ByteArray) (b : Bool) (ha : a.size ≤ 2147483647) : Ev (fun k => laws_vtInside.f k a b) (mk b ++ a ++ mk b, inB (bt (mk b) 0) a.size (bytesOf a)) := by
  have hz := mk_size b
  have hsz : (mk b ++ a ++ mk b).size = a.size + 2 := by rw [ByteArray.size_append, ByteArray.size_append, hz]; omega
  have h1 : Ev (fun k => laws_vtInside.j0 k a (mk b)) (mk b ++ a ++ mk b, inB (bt (mk b) 0) a.size (bytesOf a)) := by
    refine Ev_up ?_
    simp only [laws_vtInside.j0, if_pos (show (mk b).size + a.size ≤ 9223372036854775807 by omega), if_pos (show (mk b ++ a).size + (mk b).size ≤ 9223372036854775807 by rw [ByteArray.size_append]; omega)]
    refine ins (mk b) (mk b ++ a ++ mk b) (bt (mk b) 0) hz rfl (mk_ne b) (by omega) a.size 1 (bytesOf a) ?_ (by rw [bytesOf_length, hsz]; omega) (by rw [bytesOf_length]; exact Nat.le_refl _)
    rw [bytesOf_append, bytesOf_append, mk_bytes]
    simp
  unfold laws_vtInside.f
  cases b
  · simp only [if_neg (show ¬ (false = true) by decide)]; exact h1
  · simp only [if_true]; exact h1
end Go.Proofs.YtgljkbhjbefikaaDoor.Vb
