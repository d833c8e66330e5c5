/- Every byte of a text of at most 2^10 bytes may be escaped, in small or great hexadecimal digits, or stand for itself if it is no '%': the text is read the same. For every text and every choice of ways; longer ones are let by, as the law has it. -/
import Derived.Test.YthkmgbfobobpdaaPAdx1
import Derived.Test.YthkmgbfobobpdaaAdPl
namespace Go.Proofs.Ythkmgbfobobpdaa.Pure
open Go.RowKit Go.Proofs.Ythkmgbfobobpdaa.PAd Go.Proofs.YthkmgbfobobpdaaW.PrintWords Go.Proofs.YthkmgbfobobpdaaW.PrintLast
open Go.Proofs.Ythkmgbfobobpdaa.Pl Go.Proofs.Ythkmgbfobobpdaa.AdPl Go.Proofs.Ythkmgbfobobpdaa.Given

theorem and15 (x : Int) (h0 : 0 ≤ x) (h1 : x < 256) : Go.bits .and .u8 x 15 = x % 16 := by
  have := bits_mask .u8 8 (by decide) wraps_u8 4 (by decide) x h0 h1
  simpa using this
def HX (c : Int) : Int := bt (⟨#[48, 49, 50, 51, 52, 53, 54, 55, 56, 57, 65, 66, 67, 68, 69, 70]⟩ : ByteArray) c
theorem HX_digits : ∀ v : Nat, v < 16 → hv (HX (v : Int)) = some (v : Int) ∧ 0 ≤ HX (v : Int) ∧ HX (v : Int) ≤ 255 := by decide
theorem hv_HX (v : Int) (h : 0 ≤ v ∧ v < 16) : hv (HX v) = some v ∧ 0 ≤ HX v ∧ HX v ≤ 255 := by
  obtain ⟨n, rfl⟩ : ∃ n : Nat, v = (n : Int) := ⟨v.toNat, by omega⟩
  exact HX_digits n (by omega)

/-- A list that is read as the first i bytes of a text, whatever stands behind it. -/
structure Reads (s : ByteArray) (i : Nat) (acc : List Int) : Prop where
  len : acc.length ≤ 3 * i
  bytes : bytesL acc
  read : ∀ t, un (acc ++ t) = (un t).map fun r => (bytesOf s).take i ++ r
theorem take_next (s : ByteArray) (i : Nat) (h : i < s.size) : (bytesOf s).take (i + 1) = (bytesOf s).take i ++ [bt s (i : Int)] := by
  have hl : i < (bytesOf s).length := by rw [bytesOf_length]; exact h
  rw [List.take_add_one, List.getElem?_eq_getElem hl]
  have := rd_bytesOf s (i : Int)
  simp only [rd, Int.toNat_natCast, List.getD_eq_getElem?_getD, List.getElem?_eq_getElem hl, Option.getD_some] at this
  rw [this]; rfl
theorem Reads.next {s : ByteArray} {i : Nat} {acc : List Int} (h : Reads s i acc) (hi : i < s.size) (y : List Int) (hl : y.length ≤ 3) (hy : bytesL y) (hr : ∀ t, un (y ++ t) = (un t).map fun r => bt s (i : Int) :: r) : Reads s (i + 1) (acc ++ y) where
  len := by rw [List.length_append]; have := h.len; omega
  bytes := by
    intro x hx
    rcases List.mem_append.mp hx with hx | hx
    · exact h.bytes x hx
    · exact hy x hx
  read := by
    intro t
    rw [List.append_assoc, h.read, hr, take_next s i hi]
    cases un t with
    | none => rfl
    | some r => simp

theorem every_go (s : ByteArray) (hs : s.size ≤ 1024) (l : List Int) (hl : 0 < l.length) (hw : ∀ x ∈ l, (Lit.int .u8 x).wf = true) (d : Nat) : ∀ (i : Nat) (acc : List Int), i ≤ s.size → s.size - i = d → Reads s i acc → Ev (fun k => laws_FnAdEvery.l0 k s l acc (i : Int)) true := by
  have hrd : ∀ q : Int, 0 ≤ rd l q ∧ rd l q ≤ 255 := by
    intro q
    unfold rd
    by_cases h : q.toNat < l.length
    · have := u8_range (hw l[q.toNat] (List.getElem_mem h))
      simp only [List.getD_eq_getElem?_getD, List.getElem?_eq_getElem h, Option.getD_some]; exact this
    · rw [List.getD_eq_getElem?_getD, List.getElem?_eq_none (by omega)]; decide
  induction d with
  | zero =>
    intro i acc hi hd hr
    obtain rfl : i = s.size := by omega
    have hb := bytesOf_strOfNums acc hr.bytes
    have hsz : (strOfNums acc).size ≤ 1099511627776 := by rw [strOfNums_size]; have := hr.len; omega
    have hu := unescape (strOfNums acc) hsz
    have e := hr.read []
    rw [List.append_nil, un_nil] at e
    rw [hb, e] at hu
    simp only [Option.map_some, List.append_nil] at hu
    rw [List.take_of_length_le (by rw [bytesOf_length]; exact Nat.le_refl _), str_bytes] at hu
    refine Ev_up ?_
    simp only [laws_FnAdEvery.l0, if_neg (show ¬ (s.size : Int) < (s.size : Int) by omega)]
    refine Ev.bind hu ?_
    simp only [if_true, beq_self_eq_true]
    exact Ev.now _
  | succ d ih =>
    intro i acc hi hd hr
    have hlt : (i : Int) < (s.size : Int) := by omega
    have h0 : (0 : Int) ≤ (i : Int) := by omega
    have hlen : acc.length < 140737488355328 := by have := hr.len; omega
    have e1 : wrap64 ((i : Int) + 1) = ((i + 1 : Nat) : Int) := by rw [w64 (by omega) (by omega)]; omega
    have hb := bt_range s (i : Int)
    have hl' : (0 : Int) < (l.length : Int) := by omega
    have et : Int.tmod (i : Int) (l.length : Int) = (i : Int) % (l.length : Int) := Int.tmod_eq_emod_of_nonneg h0
    have em0 : 0 ≤ (i : Int) % (l.length : Int) := Int.emod_nonneg _ (by omega)
    have em1 : (i : Int) % (l.length : Int) < (l.length : Int) := Int.emod_lt_of_pos _ hl'
    have small : Ev (fun k => laws_FnAdEvery.l0 k s l (acc ++ [37, hx (bt s (i : Int) / 16), hx (bt s (i : Int) % 16)]) ((i + 1 : Nat) : Int)) true := by
      have h1 := hv_hx (bt s (i : Int) / 16) (by omega)
      have h2 := hv_hx (bt s (i : Int) % 16) (by omega)
      refine ih (i + 1) _ (by omega) (by omega) (hr.next (by omega) _ (by simp) ?_ ?_)
      · intro x hx
        simp only [List.mem_cons, List.not_mem_nil, or_false] at hx
        rcases hx with rfl | rfl | rfl
        · omega
        · exact h1.2
        · exact h2.2
      · intro t
        show un (37 :: hx (bt s (i : Int) / 16) :: hx (bt s (i : Int) % 16) :: t) = _
        rw [un_esc _ _ _ _ t h1.1 h2.1, show bt s (i : Int) / 16 * 16 + bt s (i : Int) % 16 = bt s (i : Int) by omega]
    have great : Ev (fun k => laws_FnAdEvery.l0 k s l (acc ++ [37, HX (bt s (i : Int) / 16), HX (bt s (i : Int) % 16)]) ((i + 1 : Nat) : Int)) true := by
      have h1 := hv_HX (bt s (i : Int) / 16) (by omega)
      have h2 := hv_HX (bt s (i : Int) % 16) (by omega)
      refine ih (i + 1) _ (by omega) (by omega) (hr.next (by omega) _ (by simp) ?_ ?_)
      · intro x hx
        simp only [List.mem_cons, List.not_mem_nil, or_false] at hx
        rcases hx with rfl | rfl | rfl
        · omega
        · exact h1.2
        · exact h2.2
      · intro t
        show un (37 :: HX (bt s (i : Int) / 16) :: HX (bt s (i : Int) % 16) :: t) = _
        rw [un_esc _ _ _ _ t h1.1 h2.1, show bt s (i : Int) / 16 * 16 + bt s (i : Int) % 16 = bt s (i : Int) by omega]
    have hand : Go.bits .and .u8 (bt s (i : Int)) 15 = bt s (i : Int) % 16 := and15 _ hb.1 (by omega)
    have hq1 : (0 : Int) ≤ bt s (i : Int) / 16 := by omega
    have hq2 : bt s (i : Int) / 16 < 16 := by omega
    have hq3 : (0 : Int) ≤ bt s (i : Int) % 16 := by omega
    have hq4 : bt s (i : Int) % 16 < 16 := by omega
    have hlen3 : ∀ a b c : Int, acc.length + ([a, b, c] : List Int).length < 140737488355328 := by intro a b c; have := hr.len; simp; omega
    have way : ∀ (x7 : Int) (b : Bool), (b = true → bt s (i : Int) ≠ 37) → Ev (fun k => laws_FnAdEvery.j3 k s l acc (i : Int) x7 b) true := by
      intro x7 b hbv
      refine Ev_up ?_
      cases b
      · simp only [laws_FnAdEvery.j3, if_neg (show ¬ (false = true) by decide), if_pos h0, if_pos hlt, hand, if_pos hq1, if_pos hq2, if_pos hq3, if_pos hq4, Option.bind_some, if_pos (hlen3 _ _ _), e1]
        by_cases h7 : x7 = 1
        · simp only [if_pos h7]; exact great
        · simp only [if_neg h7]; exact small
      · simp only [laws_FnAdEvery.j3, if_true, if_pos h0, if_pos hlt, if_pos hlen, e1]
        have hne := hbv rfl
        refine ih (i + 1) _ (by omega) (by omega) (hr.next (by omega) _ (by simp) ?_ ?_)
        · intro x hx
          simp only [List.mem_cons, List.not_mem_nil, or_false] at hx
          subst hx; exact hb
        · intro t; exact un_plain _ t hne
    refine Ev_up ?_
    simp only [laws_FnAdEvery.l0, if_pos hlt, if_neg (show ¬ (l.length : Int) = 0 by omega), et, if_pos em0, if_pos em1, if_pos h0]
    by_cases h3 : Int.tmod (rd l ((i : Int) % (l.length : Int))) 3 = 0
    · simp only [if_pos h3]
      exact way _ _ (fun h => by simpa using h)
    · simp only [if_neg h3]
      exact way _ _ (fun h => by cases h)

theorem FnAdEvery : laws_FnAdEvery.Pure := by
  intro s l hs hl1 hl2 hw
  refine Ev.rounds ?_
  have out1 : Ev (fun k => laws_FnAdEvery.j1 k s l true) true := by
    refine Ev_up ?_
    simp only [laws_FnAdEvery.j1, if_true]
    exact Ev.now _
  have out0 : Ev (fun k => laws_FnAdEvery.j0 k s l true) true := by
    refine Ev_up ?_
    simp only [laws_FnAdEvery.j0, if_true]
    exact Ev.now _
  have in0 : Ev (fun k => laws_FnAdEvery.j0 k s l false) true := by
    refine Ev_up ?_
    simp only [laws_FnAdEvery.j0, if_neg (show ¬ (false = true) by decide)]
    by_cases h1 : (s.size : Int) > 1024
    · simp only [if_pos h1]; exact out1
    simp only [if_neg h1]
    by_cases h2 : (l.length : Int) = 0
    · simp only [if_pos h2]; exact out1
    simp only [if_neg h2]
    by_cases h3 : (l.length : Int) > 1024
    · rw [decide_eq_true h3]; exact out1
    rw [decide_eq_false h3]
    refine Ev_up ?_
    simp only [laws_FnAdEvery.j1, if_neg (show ¬ (false = true) by decide)]
    exact every_go s (by omega) l (by omega) hw s.size 0 [] (by omega) (by omega) ⟨by simp, (fun x hx => by cases hx), (fun t => by cases h : un t <;> simp [h])⟩
  by_cases h1 : (s.size : Int) > 2147483647
  · simp only [laws_FnAdEvery.f, if_pos h1]; exact out0
  simp only [laws_FnAdEvery.f, if_neg h1]
  by_cases h2 : (l.length : Int) > 2147483647
  · rw [decide_eq_true h2]; exact out0
  · rw [decide_eq_false h2]; exact in0
end Go.Proofs.Ythkmgbfobobpdaa.Pure
