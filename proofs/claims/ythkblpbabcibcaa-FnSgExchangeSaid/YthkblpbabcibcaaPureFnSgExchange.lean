/- A signature two of whose types are exchanged is one: the plain law. -/
import Derived.Test.YthkblpbabcibcaaPSgx6
import Derived.Test.YthkblpbabcibcaaSgT2
namespace Go.Proofs.Ythkblpbabcibcaa.Pure
open Go.RowKit Go.Proofs.Ythkblpbabcibcaa.PSg Go.Proofs.YthkblpbabcibcaaW.PrintWords Go.Proofs.YthkblpbabcibcaaW.PrintLast Go.Proofs.Ythkblpbabcibcaa.SgT Go.Proofs.Ythkblpbabcibcaa.Pl Go.Proofs.Ythkblpbabcibcaa.By

theorem words_cons (x : Tr) (xs : List Tr) : words (x :: xs) = word x ++ words xs := rfl
theorem words_bytes {xs : List Tr} (h : ∀ x ∈ xs, ∃ s, bytesOf s = word x) : ∃ s, bytesOf s = words xs := by
  induction xs with
  | nil => exact ⟨⟨#[]⟩, rfl⟩
  | cons x xs ih =>
    obtain ⟨s, hs⟩ := h x (by simp)
    obtain ⟨s2, hs2⟩ := ih fun z hz => h z (by simp [hz])
    exact ⟨s ++ s2, by rw [bytesOf_append, hs, hs2]; rfl⟩
theorem byte_text {x : Tr} (h : ∃ s, bytesOf s = word x) : bytesOf (strOfNums (word x)) = word x := by
  obtain ⟨s, hs⟩ := h
  rw [← str_of hs, hs]

theorem rd_texts (xs : List Tr) (i : Nat) (h : i < xs.length) : rdOf ByteArray.empty (texts xs) (i : Int) = strOfNums (word xs[i]) := by
  have h2 : i < (texts xs).length := by rw [texts, List.length_map]; exact h
  rw [rdOf, Int.toNat_natCast, List.getD_eq_getElem?_getD, List.getElem?_eq_getElem h2, Option.getD_some]
  simp [texts]

theorem joined_loop (xs : List Tr) (hb : ∀ x ∈ xs, ∃ s, bytesOf s = word x) (hl : (words xs).length ≤ 1000) (hn : xs.length ≤ 1000) :
    ∀ (n i : Nat) (acc : ByteArray), xs.length - i < n → i ≤ xs.length → bytesOf acc = words (xs.take i) → ∃ J, bytesOf J = words xs ∧ Ev (fun k => spec_Joined.l0 k (⟨#[]⟩ : ByteArray) acc (texts xs) ((texts xs).length : Int) (i : Int)) J := by
  intro n
  induction n with
  | zero => intro i acc h; omega
  | succ n ih =>
    intro i acc h hi hacc
    have htl : (texts xs).length = xs.length := by rw [texts, List.length_map]
    by_cases hlt : i < xs.length
    · have hrd := rd_texts xs i hlt
      have hbx := byte_text (hb xs[i] (List.getElem_mem hlt))
      have hpre : ∀ i, i ≤ xs.length → (words (xs.take i)).length ≤ (words xs).length := by
        intro i _
        have : words xs = words (xs.take i) ++ words (xs.drop i) := by
          unfold words; rw [← List.flatten_append, ← List.map_append, List.take_append_drop]
        rw [this, List.length_append]; omega
      have hw2 : words (xs.take (i + 1)) = words (xs.take i) ++ word xs[i] := by
        unfold words
        rw [List.take_succ_eq_append_getElem hlt, List.map_append, List.flatten_append]; simp
      have hs1 : acc.size ≤ 1000 := by
        rw [← bytesOf_length, hacc]; exact Nat.le_trans (hpre i (by omega)) hl
      have hs2 : (strOfNums (word xs[i])).size ≤ 1000 := by
        rw [← bytesOf_length, hbx]
        have := hpre (i + 1) (by omega)
        rw [hw2, List.length_append] at this; omega
      obtain ⟨J, hJ, hE⟩ := ih (i + 1) (acc ++ strOfNums (word xs[i])) (by omega) (by omega) (by rw [bytesOf_append, hacc, hbx, hw2])
      refine ⟨J, hJ, Ev_up ?_⟩
      have w1 : wrap64 ((i : Int) + 1) = ((i + 1 : Nat) : Int) := by rw [w64 (by omega) (by omega)]; omega
      have he : acc ++ (⟨#[]⟩ : ByteArray) = acc := by
        apply bytesOf_inj; rw [bytesOf_append]; exact List.append_nil _
      simp only [spec_Joined.l0, if_pos (show (i : Int) < ((texts xs).length : Int) by omega), if_pos (show (0 : Int) ≤ (i : Int) by omega), hrd, he, w1]
      have z : (⟨#[]⟩ : ByteArray).size = 0 := rfl
      by_cases hi0 : (i : Int) > 0
      · simp only [if_pos hi0, if_pos (show acc.size + (⟨#[]⟩ : ByteArray).size ≤ 9223372036854775807 by omega), if_pos (show acc.size + (strOfNums (word xs[i])).size ≤ 9223372036854775807 by omega)]
        exact hE
      · simp only [if_neg hi0, if_pos (show acc.size + (strOfNums (word xs[i])).size ≤ 9223372036854775807 by omega)]
        exact hE
    · refine ⟨acc, by rw [hacc, List.take_of_length_le (by omega)], Ev_up ?_⟩
      simp only [spec_Joined.l0, if_neg (show ¬ (i : Int) < ((texts xs).length : Int) by omega)]
      exact Ev.now _

theorem walk_loop (xs : List Tr) (hg : ∀ x ∈ xs, SgT.Good x) (hn : xs.length ≤ 1000) :
    ∀ (n i : Nat) (s : ByteArray), xs.length - i < n → i ≤ xs.length → s.size ≤ 255 → bytesOf s = words (xs.drop i) → (∀ x ∈ xs, ∃ s, bytesOf s = word x) → Ev (fun k => laws_sgWalk.l0 k s (texts xs) ((texts xs).length : Int) (i : Int)) true := by
  intro n
  induction n with
  | zero => intro i s h; omega
  | succ n ih =>
    intro i s h hi hs e hbs
    have htl : (texts xs).length = xs.length := by rw [texts, List.length_map]
    refine Ev_up ?_
    by_cases hlt : i < xs.length
    · have hrd := rd_texts xs i hlt
      have hgx := hg xs[i] (List.getElem_mem hlt)
      have hbx := byte_text (hbs xs[i] (List.getElem_mem hlt))
      rw [List.drop_eq_getElem_cons hlt, words_cons] at e
      have hbeg := begin_word hgx.1 e hs (a := 0) (t := 0) (d := 0) (by omega) (by omega) (by omega)
      rw [hgx.2] at hbeg
      have hrest : ∃ r, bytesOf r = words (xs.drop (i + 1)) := words_bytes fun x hx => hbs x (List.mem_of_mem_drop hx)
      obtain ⟨r, hr⟩ := hrest
      have hrs := str_of hr
      have hl := congrArg List.length e
      rw [bytesOf_length, List.length_append, ← hr, bytesOf_length] at hl
      have hw := word_len hgx.1
      have e3 : bytesOf (s.extract 0 (word xs[i]).length) = bytesOf (strOfNums (word xs[i])) := by
        rw [bytesOf_extract, e, List.take_left, List.drop_zero, hbx]
      have w1 : wrap64 ((i : Int) + 1) = ((i + 1 : Nat) : Int) := by rw [w64 (by omega) (by omega)]; omega
      have w2 : wrap64 ((s.size : Int) - (r.size : Int)) = ((word xs[i]).length : Int) := by rw [w64 (by omega) (by omega)]; omega
      rw [← hrs] at hbeg
      have hnext := ih (i + 1) r (by omega) (by omega) (by omega) hr hbs
      simp only [laws_sgWalk.l0, if_pos (show (i : Int) < ((texts xs).length : Int) by omega), if_pos (show (0 : Int) ≤ (i : Int) by omega), hbeg, Option.bind_some, if_true, if_neg (show ¬ (r.size : Int) ≥ (s.size : Int) by omega), w2, if_pos (show (0 : Int) ≤ ((word xs[i]).length : Int) by omega), if_pos (show ((word xs[i]).length : Int) ≤ (s.size : Int) by omega), Int.toNat_natCast, hrd, if_pos (toList_of_bytes e3), w1]
      exact hnext
    · simp only [laws_sgWalk.l0, if_neg (show ¬ (i : Int) < ((texts xs).length : Int) by omega)]
      rw [List.drop_eq_nil_of_le (by omega)] at e
      rw [Pl.toList_nil.mpr (bytesOf_nil.mp e)]
      exact Ev.now _

theorem walk_good (xs : List Tr) (s : ByteArray) (hg : ∀ x ∈ xs, SgT.Good x) (hn : xs.length ≤ 1000) (hs : s.size ≤ 255) (e : bytesOf s = words xs) (hbs : ∀ x ∈ xs, ∃ s, bytesOf s = word x) : Ev (fun k => laws_sgWalk.f k s (texts xs)) true := by
  unfold laws_sgWalk.f
  have hp : Given.psOk s = true := by rw [psOk_list hg e]; exact decide_eq_true hs
  rw [Given.SgParse.f, hp]
  simp only [Option.bind_some, if_true]
  exact walk_loop xs hg hn (xs.length + 1) 0 s (by omega) (by omega) hs (by simpa using e) hbs

theorem part_bytes {s : ByteArray} : ∀ {xs : List Tr} (i : Nat), (bytesOf s).drop i = words xs → ∀ x ∈ xs, ∃ s, bytesOf s = word x := by
  intro xs
  induction xs with
  | nil => intro i _ x hx; cases hx
  | cons y ys ih =>
    intro i e x hx
    rw [words_cons] at e
    rcases List.mem_cons.mp hx with rfl | hx
    · exact ⟨s.extract i (i + (word x).length), by rw [bytesOf_extract, List.drop_take, e, show i + (word x).length - i = (word x).length by omega, List.take_left]⟩
    · refine ih (i + (word y).length) ?_ x hx
      rw [← List.drop_drop, e, List.drop_left]

theorem FnSgExchange : laws_FnSgExchange.Pure := by
  intro s a b hs ha hb
  have ra := u8_range ha
  have rb := u8_range hb
  refine Ev.rounds ?_
  have yes : ∀ l, Ev (fun k => laws_FnSgExchange.j0 k a b l true) true := by
    intro l
    refine Ev_up ?_
    simp only [laws_FnSgExchange.j0, if_true]; exact Ev.now _
  unfold laws_FnSgExchange.f
  split
  · exact Ev.now _
  obtain ⟨R, hR, hx⟩ := types_all s
  refine Ev.bind hR ?_
  by_cases h2 : R.2 = true
  case neg => simp only [if_neg h2]; exact yes _
  obtain ⟨hs2, xs, hg, e, eR⟩ := hx h2
  simp only [if_pos h2, eR]
  have htl : (texts xs).length = xs.length := by rw [texts, List.length_map]
  by_cases hlen : ((texts xs).length : Int) < 2
  · simp only [decide_eq_true hlen]; exact yes _
  simp only [decide_eq_false hlen]
  refine Ev_up ?_
  have hpb := part_bytes (s := s) (xs := xs) 0 (by rw [List.drop_zero]; exact e)
  have hpos : 0 < xs.length := by omega
  have hsum : xs.length ≤ (words xs).length := by
    clear hx eR hR hlen htl hpos hpb e
    induction xs with
    | nil => exact Nat.zero_le _
    | cons x xs ih =>
      have := ih fun z hz => hg z (by simp [hz])
      have hw := word_len (hg x (by simp)).1
      rw [words_cons, List.length_append, List.length_cons]; omega
  have hxl : xs.length ≤ 255 := by
    have := congrArg List.length e
    rw [bytesOf_length] at this; omega
  have e1 : Int.tmod a ((texts xs).length : Int) = ((a.toNat % xs.length : Nat) : Int) := by
    rw [htl, show a = ((a.toNat : Nat) : Int) by omega]; rfl
  have e2 : Int.tmod b ((texts xs).length : Int) = ((b.toNat % xs.length : Nat) : Int) := by
    rw [htl, show b = ((b.toNat : Nat) : Int) by omega]; rfl
  have hi : a.toNat % xs.length < xs.length := Nat.mod_lt _ hpos
  have hj : b.toNat % xs.length < xs.length := Nat.mod_lt _ hpos
  generalize a.toNat % xs.length = i at e1 hi
  generalize b.toNat % xs.length = j at e2 hj
  simp only [laws_FnSgExchange.j0, if_neg (show ¬ (false = true) by decide), w64 (x := a) (by omega) (by omega), w64 (x := b) (by omega) (by omega), e1, e2, if_neg (show ¬ ((texts xs).length : Int) = 0 by omega), if_pos (show (0 : Int) ≤ (i : Int) by omega), if_pos (show (0 : Int) ≤ (j : Int) by omega), if_pos (show (i : Int) < ((texts xs).length : Int) by omega), if_pos (show (j : Int) < ((texts xs).length : Int) by omega), Option.bind_some, Int.toNat_natCast, rd_texts xs i hi, rd_texts xs j hj]
  have hperm : ((xs.set i xs[j]).set j xs[i]).Perm xs := List.set_set_perm hi hj
  have htx : ((texts xs).set i (strOfNums (word xs[j]))).set j (strOfNums (word xs[i])) = texts ((xs.set i xs[j]).set j xs[i]) := by
    unfold texts
    rw [List.map_set, List.map_set]
  rw [htx]
  generalize (xs.set i xs[j]).set j xs[i] = ys at hperm
  have hgy : ∀ y ∈ ys, SgT.Good y := fun y hy => hg y (hperm.mem_iff.mp hy)
  have hby : ∀ y ∈ ys, ∃ s, bytesOf s = word y := fun y hy => hpb y (hperm.mem_iff.mp hy)
  have hwl : (words ys).length = (words xs).length := ((hperm.map word).flatten).length_eq
  have hyl : ys.length = xs.length := hperm.length_eq
  have hl := congrArg List.length e
  rw [bytesOf_length] at hl
  obtain ⟨J, hJ, hE⟩ := joined_loop ys hby (by omega) (by omega) (ys.length + 1) 0 ⟨#[]⟩ (by omega) (by omega) rfl
  refine Ev.bind (f := fun n t161 => ((laws_sgWalk.f n t161 (texts ys)).bind fun t162 => (some t162))) hE ?_
  have hJs : J.size ≤ 255 := by rw [← bytesOf_length, hJ]; omega
  refine Ev.bind (walk_good ys J hgy (by omega) hJs hJ hby) ?_
  exact Ev.now _
end Go.Proofs.Ythkblpbabcibcaa.Pure
