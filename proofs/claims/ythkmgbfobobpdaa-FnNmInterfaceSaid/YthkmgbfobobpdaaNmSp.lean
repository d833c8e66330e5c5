import Derived.Test.YthkmgbfobobpdaaPNmx3
import Derived.Test.YthkmgbfobobpdaaGvPath
namespace Go.Proofs.Ythkmgbfobobpdaa.NmPl
open Go.RowKit Go.Proofs.YthkmgbfobobpdaaW.PrintWords Go.Proofs.Ythkmgbfobobpdaa.PNm Go.Proofs.Ythkmgbfobobpdaa.Pl Go.Proofs.Ythkmgbfobobpdaa.Given

theorem ff : ¬ (false = true) := by decide
theorem word_nat : ∀ n : Nat, n < 256 → spec_word.f (n : Int) = some (mc (n : Int)) := by decide +kernel
theorem word_f (c : Int) (h : 0 ≤ c ∧ c ≤ 255) : spec_word.f c = some (mc c) := by
  obtain ⟨n, rfl⟩ : ∃ n : Nat, c = (n : Int) := ⟨c.toNat, by omega⟩
  exact word_nat n (by omega)

/-! ### parts -/
theorem splitL_join (c : Int) (a t : List Int) : splitL c (a ++ c :: t) = splitL c a ++ splitL c t := by
  induction a with
  | nil => exact splitL_cons_eq c t
  | cons x a ih =>
    rw [List.cons_append]
    by_cases e : x = c
    · subst e; rw [splitL_cons_eq, splitL_cons_eq, ih]; rfl
    · obtain ⟨p, ps, e1, e2⟩ := splitL_cons_ne e (a ++ c :: t)
      obtain ⟨q, qs, e3, e4⟩ := splitL_cons_ne e a
      rw [e2, e4]
      rw [ih, e3, List.cons_append] at e1
      injection e1 with e5 e6
      rw [← e5, ← e6]; rfl
theorem splitL_count (c : Int) (l : List Int) : (splitL c l).length = l.count c + 1 := by
  induction l with
  | nil => rfl
  | cons x t ih =>
    by_cases e : x = c
    · subst e; rw [splitL_cons_eq, List.length_cons, ih, List.count_cons_self]
    · obtain ⟨p, ps, e1, e2⟩ := splitL_cons_ne e t
      rw [e2, List.length_cons, List.count_cons_of_ne (by simpa using e), ← ih, e1, List.length_cons]
theorem split_spec (s : ByteArray) (c : Int) (hs : s.size ≤ 1099511627776) (d : Nat) : ∀ (i fr : Nat) (acc : List ByteArray), i ≤ s.size → s.size - i = d → fr ≤ i → acc.length ≤ i →
    (∀ j, fr ≤ j → j < i → bt s ((j : Nat) : Int) ≠ c) →
    Ev (fun k => spec_Split.l0 k s c acc (fr : Int) (i : Int)) (acc ++ (splitL c ((bytesOf s).drop fr)).map strOfNums) := by
  have hno : ∀ (fr n : Nat), fr ≤ n → n ≤ s.size → (∀ j, fr ≤ j → j < n → bt s ((j : Nat) : Int) ≠ c) → ∀ x, x ∈ ((bytesOf s).drop fr).take (n - fr) → x ≠ c := by
    intro fr n h1 h2 h x hx
    obtain ⟨j, hj⟩ := List.mem_iff_getElem?.mp hx
    have hjn : j < n - fr := by
      rcases Nat.lt_or_ge j (n - fr) with h | h
      · exact h
      · rw [List.getElem?_eq_none (by rw [List.length_take]; omega)] at hj; cases hj
    rw [List.getElem?_take_of_lt hjn, List.getElem?_drop, bytesOf_get s _ (by omega)] at hj
    rw [← Option.some.inj hj]
    exact h (fr + j) (by omega) (by omega)
  have hex : ∀ fr n : Nat, n ≤ s.size → s.extract fr n = strOfNums (((bytesOf s).drop fr).take (n - fr)) := by
    intro fr n h
    rw [← str_bytes (s.extract fr n), bytesOf_extract, List.drop_take]
  induction d with
  | zero =>
    intro i fr acc hi hd hf ha h
    obtain rfl : i = s.size := by omega
    refine Ev_up ?_
    simp only [spec_Split.l0, if_neg (show ¬ (s.size : Int) < (s.size : Int) by omega), if_pos (show (0 : Int) ≤ (fr : Int) by omega), if_pos (show (fr : Int) ≤ (s.size : Int) by omega), if_pos (show acc.length < 8796093022208 by omega), Int.toNat_natCast]
    have e1 : ((bytesOf s).drop fr).take (s.size - fr) = (bytesOf s).drop fr := List.take_of_length_le (by rw [List.length_drop, bytesOf_length]; exact Nat.le_refl _)
    have e := splitL_none c _ (hno fr s.size hf (Nat.le_refl _) h)
    rw [e1] at e
    rw [hex fr s.size (Nat.le_refl _), e1, e]
    exact Ev.now _
  | succ d ih =>
    intro i fr acc hi hd hf ha h
    have hlt : (i : Int) < (s.size : Int) := by omega
    have e1 : wrap64 ((i : Int) + 1) = ((i + 1 : Nat) : Int) := by rw [w64 (by omega) (by omega)]; omega
    refine Ev_up ?_
    simp only [spec_Split.l0, if_pos hlt, if_pos (show (0 : Int) ≤ (i : Int) by omega), e1]
    by_cases hc : bt s (i : Int) = c
    · simp only [if_pos hc, if_pos (show (0 : Int) ≤ (fr : Int) by omega), if_pos (show (fr : Int) ≤ (i : Int) by omega), if_pos (show (i : Int) ≤ (s.size : Int) by omega), if_pos (show acc.length < 8796093022208 by omega), Int.toNat_natCast]
      have := ih (i + 1) (i + 1) (acc ++ [s.extract fr i]) (by omega) (by omega) (Nat.le_refl _) (by simp; omega) (fun j h1 h2 => by omega)
      have e2 : (bytesOf s).drop fr = ((bytesOf s).drop fr).take (i - fr) ++ c :: (bytesOf s).drop (i + 1) := by
        conv => lhs; rw [← List.take_append_drop (i - fr) ((bytesOf s).drop fr)]
        rw [List.drop_drop, show fr + (i - fr) = i by omega, bytesOf_drop s i (by omega), hc]
      have e3 : splitL c ((bytesOf s).drop fr) = ((bytesOf s).drop fr).take (i - fr) :: splitL c ((bytesOf s).drop (i + 1)) := by
        conv => lhs; rw [e2]
        exact splitL_app c _ _ (hno fr i hf (by omega) h)
      rw [e3, List.map_cons, ← hex fr i (by omega)]
      simpa using this
    · simp only [if_neg hc]
      exact ih (i + 1) fr acc (by omega) (by omega) (by omega) (by omega) (fun j h1 h2 => by
        by_cases e : j = i
        · subst e; exact hc
        · exact h j h1 (by omega))
theorem split_sp (s : ByteArray) (c : Int) (hs : s.size ≤ 1099511627776) : Ev (fun k => spec_Split.f k s c) ((splitL c (bytesOf s)).map strOfNums) := by
  have := split_spec s c hs s.size 0 0 [] (by omega) (by omega) (by omega) (by simp) (fun j h1 h2 => by omega)
  simpa [spec_Split.f] using this
theorem points_go (s : ByteArray) (hs : s.size ≤ 1099511627776) (d : Nat) : ∀ i : Nat, i ≤ s.size → s.size - i = d → Ev (fun k => spec_points.l0 k s (((bytesOf s).take i).count 46 : Int) (i : Int)) ((bytesOf s).count 46 : Int) := by
  induction d with
  | zero =>
    intro i hi hd
    obtain rfl : i = s.size := by omega
    refine Ev_up ?_
    simp only [spec_points.l0, if_neg (show ¬ (s.size : Int) < (s.size : Int) by omega)]
    rw [List.take_of_length_le (by rw [bytesOf_length]; exact Nat.le_refl _)]
    exact Ev.now _
  | succ d ih =>
    intro i hi hd
    have hlt : (i : Int) < (s.size : Int) := by omega
    have hle : ((bytesOf s).take i).count 46 ≤ i := Nat.le_trans List.count_le_length (by rw [List.length_take]; omega)
    have e1 : wrap64 ((i : Int) + 1) = ((i + 1 : Nat) : Int) := by rw [w64 (by omega) (by omega)]; omega
    have := ih (i + 1) (by omega) (by omega)
    rw [bytesOf_take s i (by omega), List.count_append] at this
    refine Ev_up ?_
    simp only [spec_points.l0, if_pos hlt, if_pos (show (0 : Int) ≤ (i : Int) by omega), e1]
    by_cases hc : bt s (i : Int) = 46
    · have e2 : wrap64 ((((bytesOf s).take i).count 46 : Int) + 1) = ((((bytesOf s).take i).count 46 + 1 : Nat) : Int) := by rw [w64 (by omega) (by omega)]; omega
      simp only [if_pos hc, e2]
      rw [hc] at this
      simpa using this
    · simp only [if_neg hc]
      have e3 : [bt s (i : Int)].count 46 = 0 := by rw [List.count_eq_zero]; simp; exact fun h => hc h.symm
      rw [e3, Nat.add_zero] at this
      exact this
theorem points_sp (s : ByteArray) (hs : s.size ≤ 1099511627776) : Ev (fun k => spec_points.f k s) ((bytesOf s).count 46 : Int) := by
  have := points_go s hs s.size 0 (by omega) (by omega)
  simpa [spec_points.f] using this

/-! ### names' elements -/
/-- The rest of a list of parts. -/
theorem named_elem (v : ByteArray) (hv : v.size ≤ 1099511627776) (l : List ByteArray) (n i1 : Int) (rest : Bool) (d : Nat) (hrest : Ev (fun k => spec_named.l0 k false false l n i1) rest) (i0 : Int) (hi0 : wrap64 (i0 + 1) = i1) :
    ∀ p : Nat, p ≤ v.size → v.size - p = d → Ev (fun k => spec_named.l1 k false false v (p : Int) l n i0) (((bytesOf v).drop p).all mc && rest) := by
  induction d with
  | zero =>
    intro p hp hd
    obtain rfl : p = v.size := by omega
    refine Ev_up ?_
    simp only [spec_named.l1, if_neg (show ¬ (v.size : Int) < (v.size : Int) by omega), hi0]
    rw [List.drop_eq_nil_of_le (by rw [bytesOf_length]; exact Nat.le_refl _)]
    exact hrest
  | succ d ih =>
    intro p hp hd
    have hlt : (p : Int) < (v.size : Int) := by omega
    have e1 : wrap64 ((p : Int) + 1) = ((p + 1 : Nat) : Int) := by rw [w64 (by omega) (by omega)]; omega
    refine Ev_up ?_
    simp only [spec_named.l1, if_pos hlt, if_pos (show (0 : Int) ≤ (p : Int) by omega), word_f _ (bt_range v (p : Int)), Option.bind_some, e1]
    rw [bytesOf_drop v p (by omega), List.all_cons]
    cases hm : mc (bt v (p : Int)) with
    | true =>
      simp only [if_true, Bool.true_and]
      exact ih (p + 1) (by omega) (by omega)
    | false =>
      simp only [if_neg ff, Bool.false_and]
      exact Ev.now _
theorem named_go (l : List ByteArray) (hl : l.length ≤ 1099511627777) (hv : ∀ v, v ∈ l → v.size ≤ 1099511627776) (d : Nat) : ∀ i : Nat, i ≤ l.length → l.length - i = d → Ev (fun k => spec_named.l0 k false false l (l.length : Int) (i : Int)) ((l.drop i).all fun v => elemOk (bytesOf v)) := by
  induction d with
  | zero =>
    intro i hi hd
    obtain rfl : i = l.length := by omega
    refine Ev_up ?_
    simp only [spec_named.l0, if_neg (show ¬ (l.length : Int) < (l.length : Int) by omega)]
    rw [List.drop_eq_nil_of_le (Nat.le_refl _)]
    exact Ev.now _
  | succ d ih =>
    intro i hi hd
    have hlt : (i : Int) < (l.length : Int) := by omega
    have e1 : wrap64 ((i : Int) + 1) = ((i + 1 : Nat) : Int) := by rw [w64 (by omega) (by omega)]; omega
    have hil : i < l.length := by omega
    have hrd : rdOf ByteArray.empty l (i : Int) = l[i] := by
      unfold rdOf; rw [Int.toNat_natCast, List.getD_eq_getElem?_getD, List.getElem?_eq_getElem hil]; rfl
    have hvs := hv l[i] (List.getElem_mem hil)
    rw [List.drop_eq_getElem_cons hil, List.all_cons]
    generalize l[i] = v at *
    have hrest := ih (i + 1) (by omega) (by omega)
    have go := named_elem v hvs l (l.length : Int) ((i + 1 : Nat) : Int) _ v.size hrest (i : Int) e1 0 (by omega) (by omega)
    rw [List.drop_zero] at go
    have j1t : Ev (fun k => spec_named.j1 k false false v l (l.length : Int) (i : Int) true) false := by
      refine Ev_up ?_
      simp only [spec_named.j1, if_true]
      exact Ev.now _
    have j1f : Ev (fun k => spec_named.j1 k false false v l (l.length : Int) (i : Int) false) ((bytesOf v).all mc && ((l.drop (i + 1)).all fun v => elemOk (bytesOf v))) := by
      refine Ev_up ?_
      simp only [spec_named.j1, if_neg ff]
      exact go
    refine Ev_up ?_
    simp only [spec_named.l0, if_pos hlt, if_pos (show (0 : Int) ≤ (i : Int) by omega), hrd]
    by_cases h0 : v.toList = ([] : List UInt8)
    · simp only [if_pos h0]
      rw [elem_empty (toList_nil.mp h0), Bool.false_and]
      exact j1t
    · have hpos : 0 < v.size := by
        have : v.size ≠ 0 := fun h => h0 (toList_nil.mpr h)
        omega
      simp only [if_neg h0, if_neg ff, if_pos (show (0 : Int) < (v.size : Int) by omega)]
      by_cases hd : 48 ≤ bt v 0 ∧ bt v 0 ≤ 57
      · simp only [if_pos (show bt v 0 ≥ 48 from hd.1), decide_eq_true hd.2]
        rw [elem_dig hpos hd, Bool.false_and]
        exact j1t
      · have he : elemOk (bytesOf v) = (bytesOf v).all mc := by
          cases hm : (bytesOf v).all mc with
          | true => exact elem_good hpos hd hm
          | false => exact elem_bad hm
        rw [he]
        by_cases h1 : bt v 0 ≥ 48
        · simp only [if_pos h1, decide_eq_false (show ¬ bt v 0 ≤ 57 by omega)]; exact j1f
        · simp only [if_neg h1]; exact j1f
theorem part_small {s v : ByteArray} (hs : s.size ≤ 1099511627776) (h : v ∈ (splitL 46 (bytesOf s)).map strOfNums) : v.size ≤ 1099511627776 := by
  obtain ⟨p, hp, rfl⟩ := List.mem_map.mp h
  rw [strOfNums_size]
  have hlen : ∀ (l : List Int) (q : List Int), q ∈ splitL 46 l → q.length ≤ l.length := by
    intro l
    induction l with
    | nil => intro q hq; simp [splitL] at hq; subst hq; exact Nat.le_refl _
    | cons x t ih =>
      intro q hq
      by_cases e : x = 46
      · subst e
        rw [splitL_cons_eq] at hq
        rcases List.mem_cons.mp hq with rfl | hq
        · simp
        · have := ih q hq; simp; omega
      · obtain ⟨p, ps, e1, e2⟩ := splitL_cons_ne e t
        rw [e2] at hq
        rcases List.mem_cons.mp hq with rfl | hq
        · have := ih p (by rw [e1]; exact List.mem_cons_self ..); simp; exact this
        · have := ih q (by rw [e1]; exact List.mem_cons_of_mem _ hq); simp; omega
  have := hlen _ p hp
  rw [bytesOf_length] at this
  omega
theorem all_parts (s : ByteArray) : ((splitL 46 (bytesOf s)).map strOfNums).all (fun v => elemOk (bytesOf v)) = (splitL 46 (bytesOf s)).all elemOk := by
  rw [List.all_map]
  have hb := parts_back 46 s
  generalize splitL 46 (bytesOf s) = L at *
  induction L with
  | nil => rfl
  | cons p ps ih =>
    rw [List.all_cons, List.all_cons, ih (fun q hq => hb q (List.mem_cons_of_mem _ hq))]
    simp only [Function.comp, hb p (List.mem_cons_self ..)]
theorem named_sp (s : ByteArray) (hs : s.size ≤ 1099511627776) : Ev (fun k => spec_named.f k s false false) ((splitL 46 (bytesOf s)).all elemOk) := by
  simp only [spec_named.f]
  refine Ev.bind (split_sp s 46 hs) ?_
  have hlen : ((splitL 46 (bytesOf s)).map strOfNums).length ≤ 1099511627777 := by
    have := splitL_len 46 (bytesOf s)
    rw [bytesOf_length] at this
    rw [List.length_map]; omega
  have := named_go ((splitL 46 (bytesOf s)).map strOfNums) hlen (fun v hv => part_small hs hv) _ 0 (by omega) rfl
  rw [List.drop_zero, all_parts] at this
  exact this

theorem vi_sp (s : ByteArray) (hs : s.size ≤ 1099511627776) : Ev (fun k => spec_ValidInterface.f k s) (okIface (bytesOf s)) := by
  simp only [spec_ValidInterface.f]
  have hc := splitL_count 46 (bytesOf s)
  by_cases h1 : (s.size : Int) ≤ 255
  · simp only [if_pos h1]
    refine Ev.bind (points_sp s hs) ?_
    by_cases h2 : ((bytesOf s).count 46 : Int) > 0
    · simp only [if_pos h2]
      refine Ev.bind (named_sp s hs) ?_
      unfold okIface
      rw [bytesOf_length, decide_eq_true (show s.size ≤ 255 by omega), decide_eq_true (show 2 ≤ (splitL 46 (bytesOf s)).length by omega)]
      exact Ev.now _
    · simp only [if_neg h2]
      rw [iface_few (by omega)]
      exact Ev.now _
  · simp only [if_neg h1]
    rw [iface_long (by omega)]
    exact Ev.now _
theorem no_points {l : List Int} (h : l.all mc = true) : l.count 46 = 0 := by
  rw [List.count_eq_zero]
  intro hm
  have := List.all_eq_true.mp h 46 hm
  revert this; decide
theorem elem_mc {l : List Int} (h : elemOk l = true) : l.all mc = true := by
  unfold elemOk at h
  simp only [Bool.and_eq_true] at h
  exact h.2
theorem one_part {l : List Int} (h : l.all mc = true) : splitL 46 l = [l] := by
  refine splitL_none 46 l (fun x hx => ?_)
  have := List.all_eq_true.mp h x hx
  rintro rfl
  revert this; decide
theorem vm_sp (s : ByteArray) (hs : s.size ≤ 1099511627776) : Ev (fun k => spec_ValidMember.f k s) (okMember (bytesOf s)) := by
  simp only [spec_ValidMember.f]
  have hc := splitL_count 46 (bytesOf s)
  by_cases h1 : (s.size : Int) ≤ 255
  · simp only [if_pos h1]
    refine Ev.bind (points_sp s hs) ?_
    by_cases h2 : ((bytesOf s).count 46 : Int) = 0
    · simp only [if_pos h2]
      refine Ev.bind (named_sp s hs) ?_
      have e : splitL 46 (bytesOf s) = [bytesOf s] := splitL_none 46 _ (fun x hx => by
        rintro rfl
        exact List.count_eq_zero.mp (by omega) hx)
      unfold okMember
      rw [e, bytesOf_length, decide_eq_true (show s.size ≤ 255 by omega)]
      simp only [List.all_cons, List.all_nil, Bool.and_true, Bool.true_and]
      exact Ev.now _
    · simp only [if_neg h2]
      rw [member_bad (by
        cases hm : (bytesOf s).all mc with
        | false => rfl
        | true => exact absurd (no_points hm) (by omega))]
      exact Ev.now _
  · simp only [if_neg h1]
    rw [member_long (by omega)]
    exact Ev.now _

/-! ### paths -/
/-- What follows in a path, behind a slash or not. -/
def pt : Bool → List Int → Bool
  | b, [] => !b
  | b, c :: t => if c = 47 then !b && pt true t else mc c && pt false t
theorem pt_split (l : List Int) : ∃ q qs, splitL 47 l = q :: qs ∧ pt true l = (pathElem q && qs.all pathElem) ∧ pt false l = (q.all mc && qs.all pathElem) := by
  induction l with
  | nil => exact ⟨[], [], rfl, rfl, rfl⟩
  | cons c t ih =>
    obtain ⟨q, qs, h1, h2, h3⟩ := ih
    by_cases e : c = 47
    · subst e
      refine ⟨[], q :: qs, by rw [splitL_cons_eq, h1], ?_, ?_⟩
      · simp [pt, pathElem]
      · rw [pt, if_pos rfl, h2]; simp
    · obtain ⟨p, ps, e1, e2⟩ := splitL_cons_ne e t
      rw [h1] at e1
      injection e1 with e3 e4
      refine ⟨c :: q, qs, by rw [e2, ← e3, ← e4], ?_, ?_⟩
      · rw [pt, if_neg e, h3]; simp [pathElem, Bool.and_assoc]
      · rw [pt, if_neg e, h3]; simp [Bool.and_assoc]
theorem pt_all (l : List Int) : (splitL 47 l).all pathElem = pt true l := by
  obtain ⟨q, qs, h1, h2, _⟩ := pt_split l
  rw [h1, h2]; rfl
theorem okPath_pt (t : List Int) : okPath (47 :: t) = (t.isEmpty || pt true t) := by
  rw [okPath_def, pt_all]; simp
theorem pt_join (b : Bool) (l t : List Int) : pt b (l ++ 47 :: t) = (pt b l && pt true t) := by
  induction l generalizing b with
  | nil => simp [pt]
  | cons c l ih =>
    rw [List.cons_append, pt, pt]
    by_cases e : c = 47
    · rw [if_pos e, if_pos e, ih, Bool.and_assoc]
    · rw [if_neg e, if_neg e, ih, Bool.and_assoc]
theorem vp_go (s : ByteArray) (hs : s.size ≤ 1099511627776) (hlast : bt s ((s.size - 1 : Nat) : Int) ≠ 47) (d : Nat) : ∀ i : Nat, 1 ≤ i → i ≤ s.size → s.size - i = d → Ev (fun k => spec_ValidPath.l0 k s (i : Int)) (pt (decide (bt s ((i - 1 : Nat) : Int) = 47)) ((bytesOf s).drop i)) := by
  induction d with
  | zero =>
    intro i h1 hi hd
    obtain rfl : i = s.size := by omega
    refine Ev_up ?_
    simp only [spec_ValidPath.l0, if_neg (show ¬ (s.size : Int) < (s.size : Int) by omega)]
    rw [List.drop_eq_nil_of_le (by rw [bytesOf_length]; exact Nat.le_refl _), decide_eq_false hlast]
    exact Ev.now _
  | succ d ih =>
    intro i h1 hi hd
    have hlt : (i : Int) < (s.size : Int) := by omega
    have e1 : wrap64 ((i : Int) + 1) = ((i + 1 : Nat) : Int) := by rw [w64 (by omega) (by omega)]; omega
    have e2 : wrap64 ((i : Int) - 1) = ((i - 1 : Nat) : Int) := by rw [w64 (by omega) (by omega)]; omega
    have := ih (i + 1) (by omega) (by omega) (by omega)
    rw [Nat.add_sub_cancel] at this
    rw [bytesOf_drop s i (by omega), pt]
    refine Ev_up ?_
    simp only [spec_ValidPath.l0, if_pos hlt, if_pos (show (0 : Int) ≤ (i : Int) by omega), e1, e2]
    by_cases hc : bt s (i : Int) = 47
    · simp only [if_pos hc, if_pos (show (0 : Int) ≤ ((i - 1 : Nat) : Int) by omega), if_pos (show ((i - 1 : Nat) : Int) < (s.size : Int) by omega)]
      rw [decide_eq_true hc] at this
      by_cases hp : bt s ((i - 1 : Nat) : Int) = 47
      · simp only [if_pos hp, decide_eq_true hp, Bool.not_true, Bool.false_and]; exact Ev.now _
      · simp only [if_neg hp, decide_eq_false hp, Bool.not_false, Bool.true_and]; exact this
    · rw [decide_eq_false hc] at this
      simp only [if_neg hc, word_f _ (bt_range s (i : Int)), Option.bind_some]
      cases hm : mc (bt s (i : Int)) with
      | true => simp only [if_true, Bool.true_and]; exact this
      | false => simp only [if_neg ff, Bool.false_and]; exact Ev.now _
theorem vp_sp (s : ByteArray) (hs : s.size ≤ 1099511627776) : Ev (fun k => spec_ValidPath.f k s) (okPath (bytesOf s)) := by
  have out : Ev (fun k => spec_ValidPath.j0 k s true) false := by
    refine Ev_up ?_
    simp only [spec_ValidPath.j0, if_true]
    exact Ev.now _
  simp only [spec_ValidPath.f]
  by_cases h1 : s.toList = ([47] : List UInt8)
  · simp only [if_pos h1]
    have : bytesOf s = [47] := by unfold bytesOf; rw [← ByteArray.toList_eq, h1]; rfl
    rw [this]
    exact Ev.now _
  simp only [if_neg h1]
  by_cases h2 : s.toList = ([] : List UInt8)
  · simp only [if_pos h2]
    rw [path_empty (toList_nil.mp h2)]
    exact out
  have hpos : 0 < s.size := by
    have : s.size ≠ 0 := fun h => h2 (toList_nil.mpr h)
    omega
  have e1 : wrap64 ((s.size : Int) - 1) = ((s.size - 1 : Nat) : Int) := by rw [w64 (by omega) (by omega)]; omega
  simp only [if_neg h2, if_pos (show (0 : Int) < (s.size : Int) by omega), e1]
  by_cases h3 : bt s 0 = 47
  · simp only [if_pos h3, if_pos (show (0 : Int) ≤ ((s.size - 1 : Nat) : Int) by omega), if_pos (show ((s.size - 1 : Nat) : Int) < (s.size : Int) by omega)]
    have hsz : s.size ≠ 1 := by
      intro h
      apply h1
      have e := tail_bytes s hpos
      rw [h3, empty_bytes (s := s.extract 1 s.size) (by rw [ByteArray.size_extract]; omega)] at e
      have : s = strOfNums [47] := by rw [← str_bytes s, e]
      rw [this, ByteArray.toList_eq]; decide
    by_cases h4 : bt s ((s.size - 1 : Nat) : Int) = 47
    · rw [path_end (by omega) h4]
      have hb : (bt s ((s.size - 1 : Nat) : Int) == 47) = true := by rw [beq_iff_eq]; exact h4
      simp only [hb]
      exact out
    · have hb : (bt s ((s.size - 1 : Nat) : Int) == 47) = false := by rw [beq_eq_false_iff_ne]; exact h4
      simp only [hb]
      refine Ev_up ?_
      simp only [spec_ValidPath.j0, if_neg ff]
      have := vp_go s hs h4 (s.size - 1) 1 (by omega) (by omega) rfl
      rw [show ((1 - 1 : Nat) : Int) = 0 from rfl, decide_eq_true h3] at this
      have e2 := tail_bytes s hpos
      have e3 : (bytesOf s).drop 1 = bytesOf (s.extract 1 s.size) := by rw [e2]; rfl
      rw [e3] at this
      rw [e2, h3, okPath_pt]
      have hne : (bytesOf (s.extract 1 s.size)).isEmpty = false := by
        cases hbb : bytesOf (s.extract 1 s.size) with
        | nil =>
          have := congrArg List.length hbb
          rw [bytesOf_length, ByteArray.size_extract] at this
          simp at this; omega
        | cons _ _ => rfl
      rw [hne, Bool.false_or]
      exact this
  · simp only [if_neg h3]
    rw [path_head hpos h3]
    exact out

/-! ### the thin package -/
theorem bytes_append (a b : ByteArray) : bytesOf (a ++ b) = bytesOf a ++ bytesOf b := by
  unfold bytesOf; rw [ByteArray.data_append, Array.toList_append, List.map_append]
theorem if_f (s : ByteArray) (hs : s.size ≤ 1099511627776) : impl_NmInterface.f s = some (okIface (bytesOf s)) := by
  simp only [impl_NmInterface.f, dbus_DoorInterface.f, IsInterface.f, if_pos hs]; rfl
theorem mem_f (s : ByteArray) (hs : s.size ≤ 1099511627776) : impl_NmMember.f s = some (okMember (bytesOf s)) := by
  simp only [impl_NmMember.f, dbus_DoorMember.f, IsMember.f, if_pos hs]; rfl
theorem path_f (s : ByteArray) (hs : s.size ≤ 1099511627776) : impl_NmPath.f s = some (okPath (bytesOf s)) := by
  simp only [impl_NmPath.f, IsPath.f, if_pos hs]; rfl
end Go.Proofs.Ythkmgbfobobpdaa.NmPl
