/- An escaped text (of at most 2^12 bytes ahead of that) that is cut off at any place is read as a beginning of the text, or is an error just where an escape is cut. For every text and every cut; longer texts are let by, as the law has it. -/
import Derived.Test.YthkmgbfobobpdaaAdEsc
namespace Go.Proofs.Ythkmgbfobobpdaa.Pure
open Go.RowKit Go.Proofs.Ythkmgbfobobpdaa.PAd Go.Proofs.YthkmgbfobobpdaaW.PrintWords Go.Proofs.YthkmgbfobobpdaaW.PrintLast
open Go.Proofs.Ythkmgbfobobpdaa.Pl Go.Proofs.Ythkmgbfobobpdaa.AdPl Go.Proofs.Ythkmgbfobobpdaa.Given

theorem bytesOf_take (l : List Int) (hl : bytesL l) (n : Nat) : bytesOf ((strOfNums l).extract 0 n) = l.take n := by
  have h := bytesOf_strOfNums l hl
  have e : ((strOfNums l).extract 0 n).data.toList = (strOfNums l).data.toList.take n := by
    simp [ByteArray.data_extract, Array.toList_extract, List.extract_eq_take_drop]
  unfold bytesOf at h ⊢
  rw [e, List.map_take, h]
theorem take_bytes (s : ByteArray) (n : Nat) : bytesOf (s.extract 0 n) = (bytesOf s).take n := by
  have e : (s.extract 0 n).data.toList = s.data.toList.take n := by
    simp [ByteArray.data_extract, Array.toList_extract, List.extract_eq_take_drop]
  unfold bytesOf
  rw [e, List.map_take]
/-- A part of one byte's escape that is not all of it, behind whole ones. -/
theorem un_part (c : Int) (q : Nat) (hq : q < (esc1 c).length) : un ((esc1 c).take q) = if q = 0 then some [] else none := by
  by_cases h0 : q = 0
  · subst h0; rfl
  · rw [if_neg h0]
    unfold esc1 at hq ⊢
    split at hq
    · rename_i hn
      rw [if_pos hn]
      simp only [List.length_cons, List.length_nil] at hq
      obtain rfl | rfl : q = 1 ∨ q = 2 := by omega
      · exact un_short1
      · exact un_short2 _
    · simp only [List.length_cons, List.length_nil] at hq
      omega

/-- What is read of the first n bytes of the escaped text. -/
theorem un_cut (s : ByteArray) (n i : Nat) (hi : i < s.size) (h1 : (escB s i).length ≤ n) (h2 : n < (escB s (i + 1)).length) :
    un ((escB s s.size).take n) = if (escB s i).length = n then some ((bytesOf s).take i) else none := by
  have hpre : ∀ j, i + 1 ≤ j → (escB s j).take n = (escB s (i + 1)).take n := by
    intro j hj
    induction j with
    | zero => omega
    | succ j ih =>
      by_cases e : i = j
      · subst e; rfl
      · have hm := escB_mono s (show i + 1 ≤ j by omega)
        rw [escB, List.take_append_of_le_length (by omega), ih (by omega)]
  rw [hpre s.size (by omega), escB, List.take_append, List.take_of_length_le h1, un_escB s _ i (by omega)]
  rw [escB, List.length_append] at h2
  rw [un_part _ _ (by omega)]
  by_cases e : (escB s i).length = n
  · rw [if_pos e, if_pos (by omega)]; simp
  · rw [if_neg e, if_neg (by omega)]; rfl

theorem cut_end (s out : ByteArray) (n at_ i : Nat) (hi : i ≤ s.size) (hn : n ≤ out.size) (hsz : out.size ≤ 1099511627776)
    (hu : un (bytesOf (out.extract 0 n)) = if at_ = n then some ((bytesOf s).take i) else none) :
    Ev (fun k => (Given.AdUnescape.f k (out.extract 0 ((n : Nat) : Int).toNat)).bind fun bt159 => (if (bt159.2 == ((at_ : Int) == (n : Int))) = true then (if bt159.2 = true then (if (i : Int) ≤ (s.size : Int) then (some (bt159.1.toList == (s.extract 0 (i : Int).toNat).toList)) else (none)) else (some true)) else (some false))) true := by
  have hx : (out.extract 0 n).size ≤ 1099511627776 := by rw [ByteArray.size_extract]; omega
  have h := unescape (out.extract 0 n) hx
  rw [hu] at h
  simp only [Int.toNat_natCast]
  by_cases e : at_ = n
  · rw [if_pos e] at h
    refine Ev.bind h ?_
    have es : strOfNums ((bytesOf s).take i) = s.extract 0 i := by rw [← take_bytes, str_bytes]
    simp only [e, beq_self_eq_true, if_true, if_pos (show (i : Int) ≤ (s.size : Int) by omega), es]
    exact Ev.now _
  · rw [if_neg e] at h
    refine Ev.bind h ?_
    have e' : ((at_ : Int) == (n : Int)) = false := by rw [beq_eq_false_iff_ne]; omega
    simp only [e', beq_self_eq_true, if_true, if_neg (show ¬ (false = true) by decide)]
    exact Ev.now _

theorem cut_go (s : ByteArray) (hs : s.size ≤ 4096) (n : Nat) (hn : n ≤ (escB s s.size).length) (d : Nat) : ∀ i : Nat, i ≤ s.size → s.size - i = d → (escB s i).length ≤ n →
    Ev (fun k => laws_FnAdCut.l0 k s (strOfNums (escB s s.size)) (n : Int) (i : Int) ((escB s i).length : Int)) true := by
  have hel := escB_len s s.size
  have hnl := nEsc_le s s.size
  have hsz : (strOfNums (escB s s.size)).size = (escB s s.size).length := strOfNums_size _
  have hn0 : (0 : Int) ≤ (n : Int) := by omega
  have HN1 : Aside0 ((n : Int) ≤ ((strOfNums (escB s s.size)).size : Int)) := Aside0.mk (by rw [hsz]; omega)
  have HSZ := Aside0.mk hsz
  clear hsz
  induction d with
  | zero =>
    intro i hi hd hat
    obtain rfl : i = s.size := by omega
    refine Ev_up ?_
    simp only [laws_FnAdCut.l0, if_neg (show ¬ (s.size : Int) < (s.size : Int) by omega), if_pos hn0, if_pos HN1.out, if_pos (show (0 : Int) ≤ (s.size : Int) by omega)]
    refine cut_end s _ n _ s.size (Nat.le_refl _) (by rw [HSZ.out]; exact hn) (by rw [HSZ.out]; omega) ?_
    rw [bytesOf_take _ (escB_bytes s _), List.take_of_length_le hat]
    have := un_escB s [] s.size (by omega)
    rw [List.append_nil, un_nil] at this
    rw [this, if_pos (by omega)]; simp
  | succ d ih =>
    intro i hi hd hat
    have hlt : (i : Int) < (s.size : Int) := by omega
    have h0 : (0 : Int) ≤ (i : Int) := by omega
    have e1 : wrap64 ((i : Int) + 1) = ((i + 1 : Nat) : Int) := by rw [w64 (by omega) (by omega)]; omega
    have hstep : (escB s (i + 1)).length = (escB s i).length + (esc1 (bt s (i : Int))).length := by rw [escB, List.length_append]
    have hm := escB_mono s (show i + 1 ≤ s.size by omega)
    have e2 : wrap64 (((escB s i).length : Int) + ((esc1 (bt s (i : Int))).length : Int)) = ((escB s (i + 1)).length : Int) := by rw [w64 (by omega) (by omega)]; omega
    refine Ev_up ?_
    simp only [laws_FnAdCut.l0, if_pos hlt, if_pos h0, e1, if_pos (show (i : Int) ≤ ((i + 1 : Nat) : Int) by omega), if_pos (show ((i + 1 : Nat) : Int) ≤ (s.size : Int) by omega), Int.toNat_natCast]
    refine Ev.bind (escape_one s i (by omega)) ?_
    simp only [strOfNums_size, e2]
    have EE := Aside0.mk hstep
    clear hstep hm e2
    by_cases hgt : ((escB s (i + 1)).length : Int) > (n : Int)
    · have hn1' : (n : Int) ≤ ((escB s s.size).length : Int) := Int.ofNat_le.mpr hn
      simp only [if_pos hgt, if_pos hn0, if_pos hn1']
      have hcut := un_cut s n i (by omega) hat (Int.ofNat_lt.mp hgt)
      have hfit : n ≤ (strOfNums (escB s s.size)).size := by rw [HSZ.out]; exact hn
      have hbig : (strOfNums (escB s s.size)).size ≤ 1099511627776 := by rw [HSZ.out]; omega
      have hu : un (bytesOf ((strOfNums (escB s s.size)).extract 0 n)) = if (escB s i).length = n then some ((bytesOf s).take i) else none := by
        rw [bytesOf_take _ (escB_bytes s _)]; exact hcut
      have := cut_end s (strOfNums (escB s s.size)) n (escB s i).length i hi hfit hbig hu
      simp only [Int.toNat_natCast] at this
      exact this
    · simp only [if_neg hgt]
      exact ih (i + 1) (by omega) (by omega) (by omega)

theorem FnAdCut : laws_FnAdCut.Pure := by
  intro s cut hs hc
  obtain ⟨c0, c1⟩ := u16_range hc
  refine Ev.rounds ?_
  by_cases h1 : (s.size : Int) > 2147483647
  · simp only [laws_FnAdCut.f, if_pos h1]; exact Ev.now _
  by_cases h2 : (s.size : Int) > 4096
  · simp only [laws_FnAdCut.f, if_neg h1, if_pos h2]; exact Ev.now _
  have hel := escB_len s s.size
  have hnl := nEsc_le s s.size
  have hsz : (strOfNums (escB s s.size)).size = (escB s s.size).length := strOfNums_size _
  simp only [laws_FnAdCut.f, if_neg h1, if_neg h2, escape_bus s (by omega), Option.bind_some]
  have hnlt : ¬ ((strOfNums (escB s s.size)).size : Int) < (s.size : Int) := by rw [hsz]; omega
  simp only [if_neg hnlt]
  refine Ev_up ?_
  by_cases he : s.toList = ([] : List UInt8)
  · have ha : impl_AdEscape.f (⟨#[97]⟩ : ByteArray) = some ⟨#[97]⟩ := by
      rw [escape_bus _ (by decide), esc_plain _ (by decide)]
    simp only [laws_FnAdCut.j0, he, beq_self_eq_true, if_true, ha, Option.bind_some]
    exact Ev_some (by rw [ByteArray.toList_eq]; decide)
  · have hb : (s.toList == ([] : List UInt8)) = false := by simpa using he
    have e1 : wrap64 (((strOfNums (escB s s.size)).size : Int) + 1) = ((escB s s.size).length : Int) + 1 := by rw [hsz, w64 (by omega) (by omega)]
    have e2 : wrap64 cut = cut := w64 (by omega) (by omega)
    obtain ⟨q, rfl⟩ : ∃ q : Nat, cut = (q : Int) := ⟨cut.toNat, by omega⟩
    have em : Int.tmod (q : Int) (((escB s s.size).length : Int) + 1) = ((q % ((escB s s.size).length + 1) : Nat) : Int) := by
      rw [Int.tmod_eq_emod_of_nonneg (by omega)]; simp
    have hlt := Nat.mod_lt q (show 0 < (escB s s.size).length + 1 by omega)
    simp only [laws_FnAdCut.j0, hb, if_neg (show ¬ (false = true) by decide), e1, e2, em, if_neg (show ¬ ((escB s s.size).length : Int) + 1 = 0 by omega)]
    exact cut_go s (by omega) (q % ((escB s s.size).length + 1)) (by omega) s.size 0 (by omega) (by omega) (by simp [escB])
end Go.Proofs.Ythkmgbfobobpdaa.Pure
