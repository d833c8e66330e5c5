/- Part of the proof of LawFnMsName. -/
import Derived.Test.YtldjigfnagfalaaGreatDoorPMnx1
import Derived.Test.YtldjigfnagfalaaGreatDoorGvSg
import Derived.Test.YtldjigfnagfalaaGreatDoorPMnx4
set_option linter.unusedVariables false
set_option linter.unusedSimpArgs false
section
namespace Go.Proofs.YtldjigfnagfalaaGreatDoor.NmPl
open Go.RowKit Go.Proofs.YtldjigfnagfalaaGreatDoorW.PrintWords Go.Proofs.YtldjigfnagfalaaGreatDoor.PMn Go.Proofs.YtldjigfnagfalaaGreatDoor.Pl Go.Proofs.YtldjigfnagfalaaGreatDoor.Given
theorem ff : ¬ (false = true) := by decide
theorem word_nat : ∀ n : Nat, n < 256 → spec_word.f (n : Int) = some (mc (n : Int)) := by decide +kernel
theorem word_f (c : Int) (h : 0 ≤ c ∧ c ≤ 255) : spec_word.f c = some (mc c) := by
  obtain ⟨n, rfl⟩ : ∃ n : Nat, c = (n : Int) := ⟨c.toNat, by omega⟩
  exact word_nat n (by omega)
theorem splitL_count (c : Int) (l : List Int) : (splitL c l).length = l.count c + 1 := by
  induction l with
  | nil => rfl
  | cons x t ih =>
    by_cases e : x = c
    · subst e; rw [splitL_cons_eq, List.length_cons, ih, List.count_cons_self]
    · obtain ⟨p, ps, e1, e2⟩ := splitL_cons_ne e t
      rw [e2, List.length_cons, List.count_cons_of_ne (by simpa using e), ← ih, e1, List.length_cons]
theorem split_spec (s : ByteArray) (c : Int) (hs : s.size ≤ 1099511627776) (d : Nat) : ∀ (i fr : Nat) (acc : List ByteArray), i ≤ s.size → s.size - i = d → fr ≤ i → acc.length ≤ i →
    (∀ j, fr ≤ j → j < i → bt s ((j : Nat) : Int) ≠ c) →
    Ev (fun k => spec_Split.l0 k s c acc (fr : Int) (i : Int)) (acc ++ (splitL c ((bytesOf s).drop fr)).map strOfNums) := by
  have hno : ∀ (fr n : Nat), fr ≤ n → n ≤ s.size → (∀ j, fr ≤ j → j < n → bt s ((j : Nat) : Int) ≠ c) → ∀ x, x ∈ ((bytesOf s).drop fr).take (n - fr) → x ≠ c := by
    intro fr n h1 h2 h x hx
    obtain ⟨j, hj⟩ := List.mem_iff_getElem?.mp hx
    have hjn : j < n - fr := by
      rcases Nat.lt_or_ge j (n - fr) with h | h
      · exact h
      · rw [List.getElem?_eq_none (by rw [List.length_take]; omega)] at hj; cases hj
    rw [List.getElem?_take_of_lt hjn, List.getElem?_drop, bytesOf_get s _ (by omega)] at hj
    rw [← Option.some.inj hj]
    exact h (fr + j) (by omega) (by omega)
  have hex : ∀ fr n : Nat, n ≤ s.size → s.extract fr n = strOfNums (((bytesOf s).drop fr).take (n - fr)) := by
    intro fr n h
    rw [← str_bytes (s.extract fr n), bytesOf_extract, List.drop_take]
  induction d with
  | zero =>
    intro i fr acc hi hd hf ha h
    obtain rfl : i = s.size := by omega
    refine Ev_up ?_
    simp only [spec_Split.l0, if_neg (show ¬ (s.size : Int) < (s.size : Int) by omega), if_pos (show (0 : Int) ≤ (fr : Int) by omega), if_pos (show (fr : Int) ≤ (s.size : Int) by omega), if_pos (show acc.length < 8796093022208 by omega), Int.toNat_natCast]
    have e1 : ((bytesOf s).drop fr).take (s.size - fr) = (bytesOf s).drop fr := List.take_of_length_le (by rw [List.length_drop, bytesOf_length]; exact Nat.le_refl _)
    have e := splitL_none c _ (hno fr s.size hf (Nat.le_refl _) h)
    rw [e1] at e
    rw [hex fr s.size (Nat.le_refl _), e1, e]
    exact Ev.now _
  | succ d ih =>
    intro i fr acc hi hd hf ha h
    have hlt : (i : Int) < (s.size : Int) := by omega
    have e1 : wrap64 ((i : Int) + 1) = ((i + 1 : Nat) : Int) := by rw [w64 (by omega) (by omega)]; omega
    refine Ev_up ?_
    simp only [spec_Split.l0, if_pos hlt, if_pos (show (0 : Int) ≤ (i : Int) by omega), e1]
    by_cases hc : bt s (i : Int) = c
    · simp only [if_pos hc, if_pos (show (0 : Int) ≤ (fr : Int) by omega), if_pos (show (fr : Int) ≤ (i : Int) by omega), if_pos (show (i : Int) ≤ (s.size : Int) by omega), if_pos (show acc.length < 8796093022208 by omega), Int.toNat_natCast]
      have := ih (i + 1) (i + 1) (acc ++ [s.extract fr i]) (by omega) (by omega) (Nat.le_refl _) (by simp; omega) (fun j h1 h2 => by omega)
      have e2 : (bytesOf s).drop fr = ((bytesOf s).drop fr).take (i - fr) ++ c :: (bytesOf s).drop (i + 1) := by
        conv => lhs; rw [← List.take_append_drop (i - fr) ((bytesOf s).drop fr)]
        rw [List.drop_drop, show fr + (i - fr) = i by omega, bytesOf_drop s i (by omega), hc]
      have e3 : splitL c ((bytesOf s).drop fr) = ((bytesOf s).drop fr).take (i - fr) :: splitL c ((bytesOf s).drop (i + 1)) := by
        conv => lhs; rw [e2]
        exact splitL_app c _ _ (hno fr i hf (by omega) h)
      rw [e3, List.map_cons, ← hex fr i (by omega)]
      simpa using this
    · simp only [if_neg hc]
      exact ih (i + 1) fr acc (by omega) (by omega) (by omega) (by omega) (fun j h1 h2 => by
        by_cases e : j = i
        · subst e; exact hc
        · exact h j h1 (by omega))
theorem split_sp (s : ByteArray) (c : Int) (hs : s.size ≤ 1099511627776) : Ev (fun k => spec_Split.f k s c) ((splitL c (bytesOf s)).map strOfNums) := by
  have := split_spec s c hs s.size 0 0 [] (by omega) (by omega) (by omega) (by simp) (fun j h1 h2 => by omega)
  simpa [spec_Split.f] using this
theorem points_go (s : ByteArray) (hs : s.size ≤ 1099511627776) (d : Nat) : ∀ i : Nat, i ≤ s.size → s.size - i = d → Ev (fun k => spec_points.l0 k s (((bytesOf s).take i).count 46 : Int) (i : Int)) ((bytesOf s).count 46 : Int) := by
  induction d with
  | zero =>
    intro i hi hd
    obtain rfl : i = s.size := by omega
    refine Ev_up ?_
    simp only [spec_points.l0, if_neg (show ¬ (s.size : Int) < (s.size : Int) by omega)]
    rw [List.take_of_length_le (by rw [bytesOf_length]; exact Nat.le_refl _)]
    exact Ev.now _
  | succ d ih =>
    intro i hi hd
    have hlt : (i : Int) < (s.size : Int) := by omega
    have hle : ((bytesOf s).take i).count 46 ≤ i := Nat.le_trans List.count_le_length (by rw [List.length_take]; omega)
    have e1 : wrap64 ((i : Int) + 1) = ((i + 1 : Nat) : Int) := by rw [w64 (by omega) (by omega)]; omega
    have := ih (i + 1) (by omega) (by omega)
    rw [bytesOf_take s i (by omega), List.count_append] at this
    refine Ev_up ?_
    simp only [spec_points.l0, if_pos hlt, if_pos (show (0 : Int) ≤ (i : Int) by omega), e1]
    by_cases hc : bt s (i : Int) = 46
    · have e2 : wrap64 ((((bytesOf s).take i).count 46 : Int) + 1) = ((((bytesOf s).take i).count 46 + 1 : Nat) : Int) := by rw [w64 (by omega) (by omega)]; omega
      simp only [if_pos hc, e2]
      rw [hc] at this
      simpa using this
    · simp only [if_neg hc]
      have e3 : [bt s (i : Int)].count 46 = 0 := by rw [List.count_eq_zero]; simp; exact fun h => hc h.symm
      rw [e3, Nat.add_zero] at this
      exact this
theorem points_sp (s : ByteArray) (hs : s.size ≤ 1099511627776) : Ev (fun k => spec_points.f k s) ((bytesOf s).count 46 : Int) := by
  have := points_go s hs s.size 0 (by omega) (by omega)
  simpa [spec_points.f] using this
theorem named_elem (v : ByteArray) (hv : v.size ≤ 1099511627776) (l : List ByteArray) (n i1 : Int) (rest : Bool) (d : Nat) (hrest : Ev (fun k => spec_named.l0 k false false l n i1) rest) (i0 : Int) (hi0 : wrap64 (i0 + 1) = i1) :
    ∀ p : Nat, p ≤ v.size → v.size - p = d → Ev (fun k => spec_named.l1 k false false v (p : Int) l n i0) (((bytesOf v).drop p).all mc && rest) := by
  induction d with
  | zero =>
    intro p hp hd
    obtain rfl : p = v.size := by omega
    refine Ev_up ?_
    simp only [spec_named.l1, if_neg (show ¬ (v.size : Int) < (v.size : Int) by omega), hi0]
    rw [List.drop_eq_nil_of_le (by rw [bytesOf_length]; exact Nat.le_refl _)]
    exact hrest
  | succ d ih =>
    intro p hp hd
    have hlt : (p : Int) < (v.size : Int) := by omega
    have e1 : wrap64 ((p : Int) + 1) = ((p + 1 : Nat) : Int) := by rw [w64 (by omega) (by omega)]; omega
    refine Ev_up ?_
    simp only [spec_named.l1, if_pos hlt, if_pos (show (0 : Int) ≤ (p : Int) by omega), word_f _ (bt_range v (p : Int)), Option.bind_some, e1]
    rw [bytesOf_drop v p (by omega), List.all_cons]
    cases hm : mc (bt v (p : Int)) with
    | true =>
      simp only [if_true, Bool.true_and]
      exact ih (p + 1) (by omega) (by omega)
    | false =>
      simp only [if_neg ff, Bool.false_and]
      exact Ev.now _
theorem named_go (l : List ByteArray) (hl : l.length ≤ 1099511627777) (hv : ∀ v, v ∈ l → v.size ≤ 1099511627776) (d : Nat) : ∀ i : Nat, i ≤ l.length → l.length - i = d → Ev (fun k => spec_named.l0 k false false l (l.length : Int) (i : Int)) ((l.drop i).all fun v => elemOk (bytesOf v)) := by
  induction d with
  | zero =>
    intro i hi hd
    obtain rfl : i = l.length := by omega
    refine Ev_up ?_
    simp only [spec_named.l0, if_neg (show ¬ (l.length : Int) < (l.length : Int) by omega)]
    rw [List.drop_eq_nil_of_le (Nat.le_refl _)]
    exact Ev.now _
  | succ d ih =>
    intro i hi hd
    have hlt : (i : Int) < (l.length : Int) := by omega
    have e1 : wrap64 ((i : Int) + 1) = ((i + 1 : Nat) : Int) := by rw [w64 (by omega) (by omega)]; omega
    have hil : i < l.length := by omega
    have hrd : rdOf ByteArray.empty l (i : Int) = l[i] := by
      unfold rdOf; rw [Int.toNat_natCast, List.getD_eq_getElem?_getD, List.getElem?_eq_getElem hil]; rfl
    have hvs := hv l[i] (List.getElem_mem hil)
    rw [List.drop_eq_getElem_cons hil, List.all_cons]
    generalize l[i] = v at *
    have hrest := ih (i + 1) (by omega) (by omega)
    have go := named_elem v hvs l (l.length : Int) ((i + 1 : Nat) : Int) _ v.size hrest (i : Int) e1 0 (by omega) (by omega)
    rw [List.drop_zero] at go
    have j1t : Ev (fun k => spec_named.j1 k false false v l (l.length : Int) (i : Int) true) false := by
      refine Ev_up ?_
      simp only [spec_named.j1, if_true]
      exact Ev.now _
    have j1f : Ev (fun k => spec_named.j1 k false false v l (l.length : Int) (i : Int) false) ((bytesOf v).all mc && ((l.drop (i + 1)).all fun v => elemOk (bytesOf v))) := by
      refine Ev_up ?_
      simp only [spec_named.j1, if_neg ff]
      exact go
    refine Ev_up ?_
    simp only [spec_named.l0, if_pos hlt, if_pos (show (0 : Int) ≤ (i : Int) by omega), hrd]
    by_cases h0 : v.toList = ([] : List UInt8)
    · simp only [if_pos h0]
      rw [elem_empty (toList_nil.mp h0), Bool.false_and]
      exact j1t
    · have hpos : 0 < v.size := by
        have : v.size ≠ 0 := fun h => h0 (toList_nil.mpr h)
        omega
      simp only [if_neg h0, if_neg ff, if_pos (show (0 : Int) < (v.size : Int) by omega)]
      by_cases hd : 48 ≤ bt v 0 ∧ bt v 0 ≤ 57
      · simp only [if_pos (show bt v 0 ≥ 48 from hd.1), decide_eq_true hd.2]
        rw [elem_dig hpos hd, Bool.false_and]
        exact j1t
      · have he : elemOk (bytesOf v) = (bytesOf v).all mc := by
          cases hm : (bytesOf v).all mc with
          | true => exact elem_good hpos hd hm
          | false => exact elem_bad hm
        rw [he]
        by_cases h1 : bt v 0 ≥ 48
        · simp only [if_pos h1, decide_eq_false (show ¬ bt v 0 ≤ 57 by omega)]; exact j1f
        · simp only [if_neg h1]; exact j1f
theorem part_small {s v : ByteArray} (hs : s.size ≤ 1099511627776) (h : v ∈ (splitL 46 (bytesOf s)).map strOfNums) : v.size ≤ 1099511627776 := by
  obtain ⟨p, hp, rfl⟩ := List.mem_map.mp h
  rw [strOfNums_size]
  have hlen : ∀ (l : List Int) (q : List Int), q ∈ splitL 46 l → q.length ≤ l.length := by
    intro l
    induction l with
    | nil => intro q hq; simp [splitL] at hq; subst hq; exact Nat.le_refl _
    | cons x t ih =>
      intro q hq
      by_cases e : x = 46
      · subst e
        rw [splitL_cons_eq] at hq
        rcases List.mem_cons.mp hq with rfl | hq
        · simp
        · have := ih q hq; simp; omega
      · obtain ⟨p, ps, e1, e2⟩ := splitL_cons_ne e t
        rw [e2] at hq
        rcases List.mem_cons.mp hq with rfl | hq
        · have := ih p (by rw [e1]; exact List.mem_cons_self ..); simp; exact this
        · have := ih q (by rw [e1]; exact List.mem_cons_of_mem _ hq); simp; omega
  have := hlen _ p hp
  rw [bytesOf_length] at this
  omega
theorem all_parts (s : ByteArray) : ((splitL 46 (bytesOf s)).map strOfNums).all (fun v => elemOk (bytesOf v)) = (splitL 46 (bytesOf s)).all elemOk := by
  rw [List.all_map]
  have hb := parts_back 46 s
  generalize splitL 46 (bytesOf s) = L at *
  induction L with
  | nil => rfl
  | cons p ps ih =>
    rw [List.all_cons, List.all_cons, ih (fun q hq => hb q (List.mem_cons_of_mem _ hq))]
    simp only [Function.comp, hb p (List.mem_cons_self ..)]
theorem named_sp (s : ByteArray) (hs : s.size ≤ 1099511627776) : Ev (fun k => spec_named.f k s false false) ((splitL 46 (bytesOf s)).all elemOk) := by
  simp only [spec_named.f]
  refine Ev.bind (split_sp s 46 hs) ?_
  have hlen : ((splitL 46 (bytesOf s)).map strOfNums).length ≤ 1099511627777 := by
    have := splitL_len 46 (bytesOf s)
    rw [bytesOf_length] at this
    rw [List.length_map]; omega
  have := named_go ((splitL 46 (bytesOf s)).map strOfNums) hlen (fun v hv => part_small hs hv) _ 0 (by omega) rfl
  rw [List.drop_zero, all_parts] at this
  exact this
theorem no_points {l : List Int} (h : l.all mc = true) : l.count 46 = 0 := by
  rw [List.count_eq_zero]
  intro hm
  have := List.all_eq_true.mp h 46 hm
  revert this; decide
theorem vm_sp (s : ByteArray) (hs : s.size ≤ 1099511627776) : Ev (fun k => spec_ValidMember.f k s) (okMember (bytesOf s)) := by
  simp only [spec_ValidMember.f]
  have hc := splitL_count 46 (bytesOf s)
  by_cases h1 : (s.size : Int) ≤ 255
  · simp only [if_pos h1]
    refine Ev.bind (points_sp s hs) ?_
    by_cases h2 : ((bytesOf s).count 46 : Int) = 0
    · simp only [if_pos h2]
      refine Ev.bind (named_sp s hs) ?_
      have e : splitL 46 (bytesOf s) = [bytesOf s] := splitL_none 46 _ (fun x hx => by
        rintro rfl
        exact List.count_eq_zero.mp (by omega) hx)
      unfold okMember
      rw [e, bytesOf_length, decide_eq_true (show s.size ≤ 255 by omega)]
      simp only [List.all_cons, List.all_nil, Bool.and_true, Bool.true_and]
      exact Ev.now _
    · simp only [if_neg h2]
      rw [member_bad (by
        cases hm : (bytesOf s).all mc with
        | false => rfl
        | true => exact absurd (no_points hm) (by omega))]
      exact Ev.now _
  · simp only [if_neg h1]
    rw [member_long (by omega)]
    exact Ev.now _
end Go.Proofs.YtldjigfnagfalaaGreatDoor.NmPl
end
section
namespace Go.Proofs.YtldjigfnagfalaaGreatDoor.Given
open Go.RowKit Go.Proofs.YtldjigfnagfalaaGreatDoorW.PrintWords Go.Proofs.YtldjigfnagfalaaGreatDoorW.PrintLast Go.Proofs.YtldjigfnagfalaaGreatDoorW.PrintMore Go.Proofs.YtldjigfnagfalaaGreatDoor.PMi Go.Proofs.YtldjigfnagfalaaGreatDoor.PMn Go.Proofs.YtldjigfnagfalaaGreatDoor.Pl Go.Proofs.YtldjigfnagfalaaGreatDoor.NmPl
set_option linter.unusedVariables false
def Shape (n : Nat) (g : ByteArray → List UInt8) : Prop := ∃ pre post : List UInt8, ∀ S : ByteArray, S.size = n → g S = pre ++ (S.data.toList ++ 0 :: post)
theorem Shape.congr {n : Nat} {g g' : ByteArray → List UInt8} (h : Shape n g) (e : ∀ S : ByteArray, S.size = n → g' S = g S) : Shape n g' := by
  obtain ⟨pre, post, h⟩ := h
  exact ⟨pre, post, fun S hS => (e S hS).trans (h S hS)⟩
theorem Shape.left {n : Nat} {g : ByteArray → List UInt8} (h : Shape n g) (l : List UInt8) : Shape n (fun S => l ++ g S) := by
  obtain ⟨pre, post, h⟩ := h
  exact ⟨l ++ pre, post, fun S hS => by show l ++ g S = _; rw [h S hS]; simp⟩
theorem Shape.right {n : Nat} {g : ByteArray → List UInt8} (h : Shape n g) (l : List UInt8) : Shape n (fun S => g S ++ l) := by
  obtain ⟨pre, post, h⟩ := h
  exact ⟨pre, post ++ l, fun S hS => by show g S ++ l = _; rw [h S hS]; simp⟩
theorem Shape.len {n : Nat} {g : ByteArray → List UInt8} (h : Shape n g) : ∃ m, ∀ S : ByteArray, S.size = n → (g S).length = m := by
  obtain ⟨pre, post, h⟩ := h
  refine ⟨pre.length + (n + (post.length + 1)), fun S hS => ?_⟩
  have : S.data.toList.length = n := by rw [← hS]; exact Array.length_toList
  rw [h S hS, List.length_append, List.length_append, this, List.length_cons]
theorem text_shape (n : Nat) (big : Bool) (q : Nat) : Shape n (fun S => textBytes big S q) :=
  ⟨List.replicate (pd 4 q) 0 ++ cntBytes big n, [], fun S hS => by show textBytes big S q = _; unfold textBytes; rw [hS]⟩
theorem rec_shape (n : Nat) (big : Bool) (c q : Nat) : Shape n (fun S => (hf (c, .str S)).bytes big q) :=
  ((text_shape n big (q + pd 8 q + 1 + ((⟨#[115]⟩ : ByteArray).size + 2))).left (List.replicate (pd 8 q) 0 ++ [UInt8.ofNat c] ++ sigBytes ⟨#[115]⟩)).congr fun S hS => by
    show recBytes c ⟨#[115]⟩ (textBytes big S) q = _
    unfold recBytes varBytes
    simp only [List.append_assoc]
theorem recsFrom_app (X Y : List (Nat → List UInt8)) : ∀ q, recsFrom q (X ++ Y) = recsFrom q X ++ recsFrom (q + (recsFrom q X).length) Y := by
  induction X with
  | nil => intro q; simp [recsFrom]
  | cons a l ih => intro q; simp only [List.cons_append, recsFrom, ih, List.append_assoc, List.length_append, Nat.add_assoc]
theorem recs_shape (n : Nat) (big : Bool) (c q : Nat) (X Y : List (Nat → List UInt8)) : Shape n (fun S => recsFrom q (X ++ (hf (c, .str S)).bytes big :: Y)) := by
  obtain ⟨m, hm⟩ := (rec_shape n big c (q + (recsFrom q X).length)).len
  refine (((rec_shape n big c (q + (recsFrom q X).length)).right (recsFrom (q + (recsFrom q X).length + m) Y)).left (recsFrom q X)).congr fun S hS => ?_
  rw [recsFrom_app]
  simp only [recsFrom]
  rw [hm S hS]
theorem hdr_shape (n : Nat) (big : Bool) (k : Nat) (h1 : 1 ≤ k) (h4 : k ≤ 4) : Shape n (fun S => hdrBytes big ((fieldsOf k S).map hf)) := by
  have hk : k = 1 ∨ k = 2 ∨ k = 3 ∨ k = 4 := by omega
  rcases hk with rfl | rfl | rfl | rfl
  · exact recs_shape n big 3 16 [(hf (1, .path pa)).bytes big] []
  · exact recs_shape n big 3 16 [] [(hf (5, .num 9)).bytes big]
  · exact recs_shape n big 3 16 [] [(hf (4, .str ab)).bytes big, (hf (5, .num 9)).bytes big]
  · exact recs_shape n big 3 16 [(hf (1, .path pa)).bytes big, (hf (2, .str ab)).bytes big] []
theorem msg_shape (n : Nat) (big : Bool) (k : Nat) (h1 : 1 ≤ k) (h4 : k ≤ 4) : Shape n (fun S => msgBytes big k 3 (fieldsOf k S)) := by
  obtain ⟨m, hm⟩ := (hdr_shape n big k h1 h4).len
  refine (((hdr_shape n big k h1 h4).left (headBytes big (if big then 66 else 108) k 0 3 ++ cntBytes big m)).right (List.replicate (pd 8 (16 + m)) 0)).congr fun S hS => ?_
  unfold msgBytes
  simp only [hm S hS]
theorem msg_le (big : Bool) (k : Nat) (h1 : 1 ≤ k) (h4 : k ≤ 4) (S : ByteArray) (hS : Plain S) (hM : IsMember.f S = some true) : (msgBytes big k 3 (fieldsOf k S)).length ≤ 20000 := by
  have hG := good_of k h1 h4 S hS hM
  have hle : (hdrBytes big ((fieldsOf k S).map hf)).length ≤ ((fieldsOf k S).map hf).length * 1300 := recsFrom_le _ (fun x hx => by
    obtain ⟨p, hp, rfl⟩ := List.mem_map.1 hx
    exact hf_ok p (hG.fine p hp).1 (hG.fine p hp).2) big 16
  rw [List.length_map] at hle
  have hl := hG.le
  have hp := pd_lt (n := 8) (a := 16 + (hdrBytes big ((fieldsOf k S).map hf)).length) (by decide)
  unfold msgBytes headBytes
  simp only [List.length_append, List.length_replicate, cntBytes_length, List.length_cons, List.length_nil]
  omega
theorem plain_of (S : ByteArray) (h : okMember (bytesOf S) = true) : Plain S ∧ IsMember.f S = some true := by
  unfold okMember elemOk at h
  simp only [Bool.and_eq_true, decide_eq_true_eq] at h
  obtain ⟨hl, _, hm⟩ := h
  rw [bytesOf_length] at hl
  have hb : ∀ (i : Nat) (hi : i < S.size), 48 ≤ ((S[i]'hi).toNat : Int) ∧ ((S[i]'hi).toNat : Int) < 128 := by
    intro i hi
    have e : ((S[i]'hi).toNat : Int) = bt S (i : Int) := by
      rw [← bt_at S (i : Int) (by simpa using hi)]; simp
    have hmem : bt S (i : Int) ∈ bytesOf S := List.mem_of_getElem? (bytesOf_get S i hi)
    have hc := List.all_eq_true.mp hm _ hmem
    rw [e]
    unfold mc at hc
    simp only [Bool.or_eq_true, decide_eq_true_eq] at hc
    omega
  refine ⟨⟨?_, fun i hi h0 => ?_, by omega⟩, ?_⟩
  · intro i hi
    have := (hb i hi).2
    omega
  · have := (hb i hi).1
    rw [h0] at this
    simp at this
  · unfold IsMember.f
    rw [if_pos (by omega)]
    have hl' : (bytesOf S).length ≤ 255 := by rw [bytesOf_length]; omega
    unfold okMember elemOk
    simp_all
end Go.Proofs.YtldjigfnagfalaaGreatDoor.Given
end
section
namespace Go.Proofs.YtldjigfnagfalaaGreatDoor.Given
open Go.RowKit Go.Proofs.YtldjigfnagfalaaGreatDoorW.PrintWords Go.Proofs.YtldjigfnagfalaaGreatDoorW.PrintLast Go.Proofs.YtldjigfnagfalaaGreatDoorW.PrintMore Go.Proofs.YtldjigfnagfalaaGreatDoor.PMi Go.Proofs.YtldjigfnagfalaaGreatDoor.PMn Go.Proofs.YtldjigfnagfalaaGreatDoor.Pl Go.Proofs.YtldjigfnagfalaaGreatDoor.NmPl
set_option linter.unusedVariables false
set_option linter.unusedSimpArgs false
def needs (k : Nat) : List Int := match k with
  | 1 => [1, 3]
  | 2 => [5]
  | 3 => [4, 5]
  | _ => [1, 2, 3]
def base (k : Nat) : List S43 := (needs k).map b43
theorem fk (m : Nat) (c : Int) (hc : c = 1 ∨ c = 2 ∨ c = 3 ∨ c = 4 ∨ c = 5) : spec_FieldKind.f (m + 3) c = some (b43 c).f1.f0 := by
  rcases hc with rfl | rfl | rfl | rfl | rfl <;> rfl
theorem base_go (nd : List Int) (hl : nd.length ≤ 3) (hc : ∀ c ∈ nd, c = 1 ∨ c = 2 ∨ c = 3 ∨ c = 4 ∨ c = 5) (a0 : Int) (m : Nat) : ∀ (d j : Nat) (acc : List S43), nd.length - j = d → j ≤ nd.length → acc.length ≤ j →
    laws_msBase.l0 (m + 4 + d) nd (nd.length : Int) (j : Int) a0 0 3 acc = some (a0, 0, 3, acc ++ (nd.drop j).map b43, []) := by
  intro d
  induction d with
  | zero =>
    intro j acc hd hj ha
    obtain rfl : j = nd.length := by omega
    simp only [laws_msBase.l0, if_neg (show ¬ (nd.length : Int) < (nd.length : Int) by omega), List.drop_length, List.map_nil, List.append_nil]
  | succ d ih =>
    intro j acc hd hj ha
    have hlt : j < nd.length := by omega
    have h1 : (j : Int) < (nd.length : Int) := by omega
    have hrd : rd nd (j : Int) = nd[j] := by
      unfold rd
      rw [Int.toNat_natCast, List.getD_eq_getElem?_getD, List.getElem?_eq_getElem hlt]
      rfl
    have hw : wrap64 ((j : Int) + 1) = ((j + 1 : Nat) : Int) := by unfold wrap64; omega
    have hcc := hc _ (List.getElem_mem hlt)
    have hdr : (nd.drop j).map b43 = b43 nd[j] :: (nd.drop (j + 1)).map b43 := by rw [List.drop_eq_getElem_cons hlt]; rfl
    have hfk := fk (m + 1 + d) nd[j] hcc
    have hal : acc.length < 2199023255552 := by omega
    have hih := ih (j + 1) (acc ++ [b43 nd[j]]) (by omega) (by omega) (by simp; omega)
    rw [hdr, show m + 4 + (d + 1) = (m + 4 + d) + 1 by omega]
    rw [show m + 1 + d + 3 = m + 4 + d by omega] at hfk
    rw [List.append_assoc] at hih
    simp only [laws_msBase.l0, if_pos h1, if_pos (show (0 : Int) ≤ (j : Int) by omega), hrd, hfk, Option.bind_some, hw, if_pos hal]
    generalize nd[j] = c at *
    rcases hcc with rfl | rfl | rfl | rfl | rfl <;> exact hih
theorem base_f (k : Nat) (h1 : 1 ≤ k) (h4 : k ≤ 4) : Ev (fun n => laws_msBase.f n (k : Int)) ((k : Int), 0, 3, base k, []) := by
  refine ⟨12, fun n hn => ?_⟩
  have hk : k = 1 ∨ k = 2 ∨ k = 3 ∨ k = 4 := by omega
  have hnd : spec_Needs.f (k : Int) = some (needs k) := by
    rcases hk with rfl | rfl | rfl | rfl <;> rfl
  have hl : (needs k).length ≤ 3 := by
    rcases hk with rfl | rfl | rfl | rfl <;> decide
  have hc : ∀ c ∈ needs k, c = 1 ∨ c = 2 ∨ c = 3 ∨ c = 4 ∨ c = 5 := by
    rcases hk with rfl | rfl | rfl | rfl <;> simp [needs]
  have h := base_go (needs k) hl hc (k : Int) (n - 4 - (needs k).length) (needs k).length 0 [] (by omega) (by omega) (by simp)
  rw [show n - 4 - (needs k).length + 4 + (needs k).length = n by omega] at h
  show laws_msBase.f n (k : Int) = _
  unfold laws_msBase.f
  rw [hnd]
  exact h
theorem with_f (k : Nat) (h1 : 1 ≤ k) (h4 : k ≤ 4) (S : ByteArray) : Ev (fun n => spec_WithField.f n (k : Int) 0 3 (base k) [] 3 115 0 S []) ((k : Int), 0, 3, (fieldsOf k S).map d43, []) := by
  refine ⟨20, fun n hn => ?_⟩
  obtain ⟨m, rfl⟩ : ∃ m, n = m + 20 := ⟨n - 20, by omega⟩
  have hk : k = 1 ∨ k = 2 ∨ k = 3 ∨ k = 4 := by omega
  rcases hk with rfl | rfl | rfl | rfl <;>
    simp [spec_WithField.f, spec_WithField.l0, spec_WithField.l1, rd_T43, wrap64, base, needs, b43, fieldsOf, d43, HV.kd, HV.n, HV.s, pa, ab]
theorem fields_inj (k : Nat) (h1 : 1 ≤ k) (h4 : k ≤ 4) (S S' : ByteArray) (h : (fieldsOf k S).map d43 = (fieldsOf k S').map d43) : S = S' := by
  have hk : k = 1 ∨ k = 2 ∨ k = 3 ∨ k = 4 := by omega
  rcases hk with rfl | rfl | rfl | rfl <;>
    simpa [fieldsOf, d43, HV.kd, HV.n, HV.s] using h
theorem ms_f (big : Bool) (k : Nat) (h1 : 1 ≤ k) (h4 : k ≤ 4) (S : ByteArray) (hS : Plain S) (hM : IsMember.f S = some true) :
    MsEncode.f (k : Int) 0 3 ((fieldsOf k S).map d43) [] big = some (⟨(msgBytes big k 3 (fieldsOf k S)).toArray⟩, true) := by
  have hex : ∃ k' S', Asked (k : Int) 0 3 ((fieldsOf k S).map d43) [] k' S' := ⟨k, S, h1, h4, rfl, rfl, rfl, rfl, rfl, hS, hM⟩
  unfold MsEncode.f
  rw [dif_pos hex]
  have hA := hex.choose_spec.choose_spec
  obtain ⟨S', hSS⟩ : ∃ S', hex.choose_spec.choose = S' := ⟨_, rfl⟩
  obtain ⟨k', hk⟩ : ∃ k', hex.choose = k' := ⟨_, rfl⟩
  rw [hSS] at hA ⊢
  rw [hk] at hA ⊢
  obtain ⟨_, _, ek, _, _, ef, _⟩ := hA
  have ek' : k = k' := by omega
  subst ek'
  rw [fields_inj k h1 h4 _ _ ef]
theorem ext_list (s : ByteArray) (i j : Nat) : (s.extract i j).toList = (s.data.toList.take j).drop i := by
  rw [ByteArray.toList_eq, ByteArray.data_extract, Array.toList_extract, List.extract_eq_take_drop, List.drop_take]
theorem app_list (a : ByteArray) : (a ++ (⟨#[0]⟩ : ByteArray)).toList = a.data.toList ++ [0] := by
  rw [ByteArray.toList_eq, ByteArray.data_append, Array.toList_append]
theorem data_len (a : ByteArray) : a.data.toList.length = a.size := Array.length_toList
theorem eq_of_data {a b : ByteArray} (h : a.data.toList = b.data.toList) : a = b := by
  cases a; cases b
  simp only [ByteArray.mk.injEq]
  exact Array.ext' h
theorem early_text (A B pre post : List UInt8) (n i : Nat) (hA : A.length = n) (hB : B.length = n) (hz : ∀ x ∈ A, x ≠ 0) (hi : i < pre.length)
    (h1 : ((pre ++ (A ++ 0 :: post)).take (i + n + 1)).drop i = A ++ [0]) (h2 : ((pre ++ (B ++ 0 :: post)).take (i + n + 1)).drop i = B ++ [0]) : A = B := by
  by_cases hc : i + n + 1 ≤ pre.length
  · rw [List.take_append_of_le_length hc] at h1 h2
    exact List.append_cancel_right (h1.symm.trans h2)
  · exfalso
    have e1 : (((pre ++ (A ++ 0 :: post)).take (i + n + 1)).drop i)[n]? = some 0 := by
      rw [h1, List.getElem?_append_right (by omega), hA, Nat.sub_self]; rfl
    rw [List.getElem?_drop, List.getElem?_take_of_lt (by omega), List.getElem?_append_right (by omega), List.getElem?_append_left (by omega)] at e1
    exact hz 0 (List.mem_of_getElem? e1) rfl
theorem at_place (A pre post : List UInt8) (n : Nat) (hA : A.length = n) : ((pre ++ (A ++ 0 :: post)).take (pre.length + n + 1)).drop pre.length = A ++ [0] := by
  have e : pre ++ (A ++ 0 :: post) = (pre ++ (A ++ [0])) ++ post := by simp
  have hl : pre.length + n + 1 = (pre ++ (A ++ [0])).length := by simp; omega
  rw [e, hl, List.take_left, List.drop_left]
end Go.Proofs.YtldjigfnagfalaaGreatDoor.Given
end
section
namespace Go.Proofs.YtldjigfnagfalaaGreatDoor.Pure
open Go.RowKit Go.Proofs.YtldjigfnagfalaaGreatDoorW.PrintWords Go.Proofs.YtldjigfnagfalaaGreatDoorW.PrintLast Go.Proofs.YtldjigfnagfalaaGreatDoorW.PrintMore Go.Proofs.YtldjigfnagfalaaGreatDoor.PMi Go.Proofs.YtldjigfnagfalaaGreatDoor.PMn Go.Proofs.YtldjigfnagfalaaGreatDoor.Pl Go.Proofs.YtldjigfnagfalaaGreatDoor.NmPl Go.Proofs.YtldjigfnagfalaaGreatDoor.Given
set_option linter.unusedVariables false
theorem w_add (x y : Nat) (h : x + y ≤ 4611686018427387904) : wrap64 ((x : Int) + (y : Int)) = ((x + y : Nat) : Int) := by rw [w64 (by omega) (by omega)]; omega
theorem w_one (x : Nat) (h : x ≤ 4611686018427387904) : wrap64 ((x : Int) + 1) = ((x + 1 : Nat) : Int) := by rw [w64 (by omega) (by omega)]; omega
theorem loop_true (a b s t : ByteArray) (pre post : List UInt8) (n : Nat) (ha : a.size = n) (hb : b.size = n) (hz : ∀ x ∈ a.data.toList, x ≠ 0)
    (hsz : pre.length + n + 1 + post.length ≤ 1000000) (hs : s.data.toList = pre ++ (a.data.toList ++ 0 :: post)) (ht : t.data.toList = pre ++ (b.data.toList ++ 0 :: post)) :
    ∀ (d i : Nat), pre.length - i = d → i ≤ pre.length → Ev (fun k => laws_FnMsName.l0 k a b s t (i : Int)) true := by
  have la : a.data.toList.length = n := (data_len a).trans ha
  have lb : b.data.toList.length = n := (data_len b).trans hb
  have ls : s.size = pre.length + n + 1 + post.length := by
    rw [← data_len s, hs]; simp only [List.length_append, List.length_cons, la]; omega
  have lt : t.size = pre.length + n + 1 + post.length := by
    rw [← data_len t, ht]; simp only [List.length_append, List.length_cons, lb]; omega
  intro d
  induction d with
  | zero =>
    intro i hd hi
    obtain rfl : i = pre.length := by omega
    have k1 : pre.length + n ≤ 4611686018427387904 := by omega
    have m1 : (s.extract pre.length (pre.length + n + 1)).toList = (a ++ (⟨#[0]⟩ : ByteArray)).toList := by
      rw [ext_list, app_list, hs]; exact at_place _ _ _ n la
    have m2 : (t.extract pre.length (pre.length + n + 1)).toList = (b ++ (⟨#[0]⟩ : ByteArray)).toList := by
      rw [ext_list, app_list, ht]; exact at_place _ _ _ n lb
    have m3 : (s.extract 0 pre.length).toList = (t.extract 0 pre.length).toList := by
      rw [ext_list, ext_list, hs, ht, List.take_left, List.take_left]
    have m4 : (s.extract (pre.length + n) s.size).toList = (t.extract (pre.length + n) t.size).toList := by
      rw [ext_list, ext_list, ← data_len s, ← data_len t, List.take_length, List.take_length, hs, ht]
      have e1 : pre ++ (a.data.toList ++ 0 :: post) = (pre ++ a.data.toList) ++ 0 :: post := by simp
      have e2 : pre ++ (b.data.toList ++ 0 :: post) = (pre ++ b.data.toList) ++ 0 :: post := by simp
      have l1 : pre.length + n = (pre ++ a.data.toList).length := by rw [List.length_append, la]
      have l2 : pre.length + n = (pre ++ b.data.toList).length := by rw [List.length_append, lb]
      rw [e1, e2]
      conv => lhs; rw [l1, List.drop_left]
      conv => rhs; rw [l2, List.drop_left]
    have c1 : ((pre.length + n : Nat) : Int) < (s.size : Int) := by omega
    have c2 : (0 : Int) ≤ (pre.length : Int) := by omega
    have c3 : (pre.length : Int) ≤ ((pre.length + n + 1 : Nat) : Int) := by omega
    have c4 : ((pre.length + n + 1 : Nat) : Int) ≤ (s.size : Int) := by omega
    have c5 : n + 1 ≤ 9223372036854775807 := by omega
    have c6 : ((pre.length + n + 1 : Nat) : Int) ≤ (t.size : Int) := by omega
    have c7 : b.size + 1 ≤ 9223372036854775807 := by omega
    have c8 : (pre.length : Int) ≤ (s.size : Int) := by omega
    have c9 : (pre.length : Int) ≤ (t.size : Int) := by omega
    have c10 : (0 : Int) ≤ ((pre.length + n : Nat) : Int) := by omega
    have c11 : ((pre.length + n : Nat) : Int) ≤ (s.size : Int) := by omega
    have c12 : ((pre.length + n : Nat) : Int) ≤ (t.size : Int) := by omega
    refine Ev_up ?_
    simp only [laws_FnMsName.l0, ha, w_add _ _ k1, w_one _ k1, Int.toNat_natCast]
    simp only [if_pos c1, if_pos c2, if_pos c3, if_pos c4, if_pos c5, if_pos c6, if_pos c7, if_pos c8, if_pos c9, if_pos c10, if_pos c11, if_pos c12, if_pos m1, if_pos m2, if_pos m3, m4, beq_self_eq_true]
    exact Ev.now _
  | succ d ih =>
    intro i hd hi
    have k1 : i + n ≤ 4611686018427387904 := by omega
    have k3 : i ≤ 4611686018427387904 := by omega
    have next := ih (i + 1) (by omega) (by omega)
    have c1 : ((i + n : Nat) : Int) < (s.size : Int) := by omega
    have c2 : (0 : Int) ≤ (i : Int) := by omega
    have c3 : (i : Int) ≤ ((i + n + 1 : Nat) : Int) := by omega
    have c4 : ((i + n + 1 : Nat) : Int) ≤ (s.size : Int) := by omega
    have c5 : n + 1 ≤ 9223372036854775807 := by omega
    have c6 : ((i + n + 1 : Nat) : Int) ≤ (t.size : Int) := by omega
    have c7 : b.size + 1 ≤ 9223372036854775807 := by omega
    have c8 : (i : Int) ≤ (s.size : Int) := by omega
    have c9 : (i : Int) ≤ (t.size : Int) := by omega
    have c10 : (0 : Int) ≤ ((i + n : Nat) : Int) := by omega
    have c11 : ((i + n : Nat) : Int) ≤ (s.size : Int) := by omega
    have c12 : ((i + n : Nat) : Int) ≤ (t.size : Int) := by omega
    refine Ev_up ?_
    simp only [laws_FnMsName.l0, ha, w_add _ _ k1, w_one _ k1, w_one _ k3, Int.toNat_natCast]
    simp only [if_pos c1, if_pos c2, if_pos c3, if_pos c4, if_pos c5, if_pos c6, if_pos c7, if_pos c8, if_pos c9, if_pos c10, if_pos c11, if_pos c12]
    by_cases m1 : (s.extract i (i + n + 1)).toList = (a ++ (⟨#[0]⟩ : ByteArray)).toList
    · by_cases m2 : (t.extract i (i + n + 1)).toList = (b ++ (⟨#[0]⟩ : ByteArray)).toList
      · by_cases m3 : (s.extract 0 i).toList = (t.extract 0 i).toList
        · simp only [if_pos m1, if_pos m2, if_pos m3]
          rw [ext_list, app_list, hs] at m1
          rw [ext_list, app_list, ht] at m2
          have hab := early_text _ _ pre post n i la lb hz (by omega) m1 m2
          have hst : s = t := eq_of_data (by rw [hs, ht, hab])
          subst hst
          simp only [beq_self_eq_true]
          exact Ev.now _
        · simp only [if_pos m1, if_pos m2, if_neg m3]; exact next
      · simp only [if_pos m1, if_neg m2]; exact next
    · simp only [if_neg m1]; exact next
theorem j0_true (a0 : Int) (a1 a2 : ByteArray) (a3 : Bool) : Ev (fun k => laws_FnMsName.j0 k a0 a1 a2 a3 true) true := by
  refine Ev_up ?_
  simp only [laws_FnMsName.j0, if_true]
  exact Ev.now _
theorem j1_true (a0 : Int) (a1 a2 : ByteArray) (a3 : Bool) : Ev (fun k => laws_FnMsName.j1 k a0 a1 a2 a3 true) true := by
  refine Ev_up ?_
  simp only [laws_FnMsName.j1, if_true]
  exact Ev.now _
theorem j1_false (k : Nat) (h1 : 1 ≤ k) (h4 : k ≤ 4) (a b : ByteArray) (big : Bool) (hab : a.size = b.size) (ha : okMember (bytesOf a) = true) (hb : okMember (bytesOf b) = true) :
    Ev (fun n => laws_FnMsName.j1 n (k : Int) a b big false) true := by
  obtain ⟨pa, ma⟩ := plain_of a ha
  obtain ⟨pb, mb⟩ := plain_of b hb
  have fa := ms_f big k h1 h4 a pa ma
  have fb := ms_f big k h1 h4 b pb mb
  obtain ⟨pre, post, hsh⟩ := msg_shape a.size big k h1 h4
  have ea := hsh a rfl
  have eb := hsh b hab.symm
  have hle := msg_le big k h1 h4 a pa ma
  simp only at ea eb
  have hl2 : pre.length + a.size + 1 + post.length ≤ 20000 := by
    rw [ea] at hle
    simp only [List.length_append, List.length_cons, data_len] at hle
    omega
  have hz : ∀ x ∈ a.data.toList, x ≠ 0 := by
    intro x hx
    obtain ⟨i, hi, rfl⟩ := List.mem_iff_getElem.1 hx
    rw [data_len] at hi
    exact pa.nz i hi
  obtain ⟨s, hs⟩ : ∃ s : ByteArray, s = ⟨(msgBytes big k 3 (fieldsOf k a)).toArray⟩ := ⟨_, rfl⟩
  obtain ⟨t, ht⟩ : ∃ t : ByteArray, t = ⟨(msgBytes big k 3 (fieldsOf k b)).toArray⟩ := ⟨_, rfl⟩
  rw [← hs] at fa
  rw [← ht] at fb
  have ds : s.data.toList = pre ++ (a.data.toList ++ 0 :: post) := by rw [hs, ← ea]
  have dt : t.data.toList = pre ++ (b.data.toList ++ 0 :: post) := by rw [ht, ← eb]
  have hst : s.size = t.size := by
    rw [← data_len s, ← data_len t, ds, dt]
    simp only [List.length_append, List.length_cons, data_len]
    omega
  have hloop := loop_true a b s t pre post a.size rfl hab.symm hz (by omega) ds dt pre.length 0 (by omega) (by omega)
  refine Ev_up ?_
  simp only [laws_FnMsName.j1, if_neg (show ¬ (false = true) by decide)]
  refine Ev.bind (base_f k h1 h4) ?_
  refine Ev.bind (with_f k h1 h4 a) ?_
  refine Ev.bind (base_f k h1 h4) ?_
  refine Ev.bind (with_f k h1 h4 b) ?_
  refine Ev.bind (Ev_of fa) ?_
  refine Ev.bind (Ev_of fb) ?_
  simp only [if_true]
  refine Ev_up ?_
  rw [hst]
  simp only [laws_FnMsName.j2, bne_self_eq_false, if_neg (show ¬ (false = true) by decide)]
  exact hloop
theorem FnMsName : laws_FnMsName.Pure := by
  intro a0 a1 a2 a3 h0 h1 h2
  obtain ⟨hlo, hhi⟩ := u8_range h0
  suffices h : Ev (fun k => laws_FnMsName.f k a0 a1 a2 a3) true by
    obtain ⟨K, hK⟩ := h
    exact ⟨K, hK K (Nat.le_refl _)⟩
  simp only [laws_FnMsName.f]
  by_cases c1 : (a1.size : Int) > 2147483647
  · simp only [if_pos c1]; exact j0_true ..
  simp only [if_neg c1]
  by_cases c2 : (a2.size : Int) > 2147483647
  · simp only [decide_eq_true c2]; exact j0_true ..
  simp only [decide_eq_false c2]
  refine Ev_up ?_
  simp only [laws_FnMsName.j0, if_neg (show ¬ (false = true) by decide)]
  by_cases c3 : a0 < 1
  · simp only [if_pos c3]; exact j1_true ..
  simp only [if_neg c3]
  by_cases c4 : a0 > 4
  · simp only [if_pos c4]; exact j1_true ..
  simp only [if_neg c4]
  by_cases c5 : (a1.size : Int) = (a2.size : Int)
  · simp only [if_pos c5]
    refine Ev.bind (vm_sp a1 (by omega)) ?_
    cases ha : okMember (bytesOf a1) with
    | false => simp only [if_neg (show ¬ (false = true) by decide)]; exact j1_true ..
    | true =>
      simp only [if_true]
      refine Ev.bind (vm_sp a2 (by omega)) ?_
      cases hb : okMember (bytesOf a2) with
      | false => exact j1_true ..
      | true =>
        obtain ⟨k, rfl⟩ : ∃ k : Nat, a0 = (k : Int) := ⟨a0.toNat, by omega⟩
        exact j1_false k (by omega) (by omega) a1 a2 a3 (by omega) ha hb
  · simp only [if_neg c5]; exact j1_true ..
end Go.Proofs.YtldjigfnagfalaaGreatDoor.Pure
end
