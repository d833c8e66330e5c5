import Derived.Test.YthkmgbfobobpdaaPNlx1
import Derived.Test.YthkmgbfobobpdaaPl
import Derived.Test.YthkmgbfobobpdaaUtf
import Derived.Laws.BytesArg
namespace Go.Proofs.Ythkmgbfobobpdaa.NmPl
open Go.RowKit Go.Proofs.YthkmgbfobobpdaaW.PrintWords Go.Proofs.Ythkmgbfobobpdaa.PNl Go.Proofs.Ythkmgbfobobpdaa.Pl Go.Proofs.Ythkmgbfobobpdaa.Utf

/-! ### texts as lists of bytes -/
theorem str_bytes (s : ByteArray) : strOfNums (bytesOf s) = s := by
  unfold strOfNums bytesOf
  rw [List.map_map]
  have : (fun b : UInt8 => UInt8.ofNat (b.toNat : Int).toNat) = id := by funext b; simp
  rw [show ((fun n : Int => UInt8.ofNat n.toNat) ∘ fun b : UInt8 => (b.toNat : Int)) = id from this]
  simp
theorem bytesOf_inj {a b : ByteArray} (h : bytesOf a = bytesOf b) : a = b := by rw [← str_bytes a, h, str_bytes]
theorem bytesOf_extract (s : ByteArray) (i j : Nat) : bytesOf (s.extract i j) = ((bytesOf s).take j).drop i := by
  have e : (s.extract i j).data.toList = (s.data.toList.take j).drop i := by
    rw [ByteArray.data_extract, Array.toList_extract, List.extract_eq_take_drop, List.drop_take]
  unfold bytesOf
  rw [e, List.map_drop, List.map_take]
theorem bytesOf_get (s : ByteArray) (i : Nat) (h : i < s.size) : (bytesOf s)[i]? = some (bt s (i : Int)) := by
  have hl : i < (bytesOf s).length := by rw [bytesOf_length]; exact h
  have := rd_bytesOf s (i : Int)
  simp only [rd, Int.toNat_natCast, List.getD_eq_getElem?_getD, List.getElem?_eq_getElem hl, Option.getD_some] at this
  rw [List.getElem?_eq_getElem hl, this]
theorem bytesOf_drop (s : ByteArray) (i : Nat) (h : i < s.size) : (bytesOf s).drop i = bt s (i : Int) :: (bytesOf s).drop (i + 1) := by
  have hl : i < (bytesOf s).length := by rw [bytesOf_length]; exact h
  rw [List.drop_eq_getElem_cons hl]
  have := bytesOf_get s i h
  rw [List.getElem?_eq_getElem hl] at this
  rw [Option.some.inj this]
theorem bytesOf_take (s : ByteArray) (i : Nat) (h : i < s.size) : (bytesOf s).take (i + 1) = (bytesOf s).take i ++ [bt s (i : Int)] := by
  rw [List.take_add_one, bytesOf_get s i h]; rfl
theorem toList_inj {a b : ByteArray} (h : a.toList = b.toList) : bytesOf a = bytesOf b := by
  unfold bytesOf; rw [← ByteArray.toList_eq, ← ByteArray.toList_eq, h]
theorem toList_of_bytes {a b : ByteArray} (h : bytesOf a = bytesOf b) : a.toList = b.toList := by rw [bytesOf_inj h]

/-! ### parts between the places of a byte -/
/-- The bytes ahead of the first place of c, and those behind it. -/
def splitL (c : Int) : List Int → List (List Int)
  | [] => [[]]
  | x :: t => if x = c then [] :: splitL c t else (match splitL c t with
    | [] => [[x]]
    | p :: ps => (x :: p) :: ps)
theorem splitL_ne (c : Int) (l : List Int) : splitL c l ≠ [] := by
  cases l with
  | nil => simp [splitL]
  | cons x t =>
    rw [splitL]
    split
    · simp
    · split <;> simp
theorem splitL_cons_eq (c : Int) (t : List Int) : splitL c (c :: t) = [] :: splitL c t := by rw [splitL, if_pos rfl]
theorem splitL_cons_ne {c x : Int} (h : x ≠ c) (t : List Int) : ∃ p ps, splitL c t = p :: ps ∧ splitL c (x :: t) = (x :: p) :: ps := by
  obtain ⟨p, ps, e⟩ : ∃ p ps, splitL c t = p :: ps := by
    cases h : splitL c t with
    | nil => exact absurd h (splitL_ne c t)
    | cons p ps => exact ⟨p, ps, rfl⟩
  exact ⟨p, ps, e, by rw [splitL, if_neg h, e]⟩
/-- Bytes without c, then c, then the rest. -/
theorem splitL_app (c : Int) (a t : List Int) (h : ∀ x, x ∈ a → x ≠ c) : splitL c (a ++ c :: t) = a :: splitL c t := by
  induction a with
  | nil => exact splitL_cons_eq c t
  | cons x a ih =>
    obtain ⟨p, ps, e1, e2⟩ := splitL_cons_ne (h x (List.mem_cons_self ..)) (a ++ c :: t)
    rw [ih (fun y hy => h y (List.mem_cons_of_mem _ hy))] at e1
    injection e1 with e3 e4
    rw [List.cons_append, e2, ← e3, ← e4]
theorem splitL_none (c : Int) (a : List Int) (h : ∀ x, x ∈ a → x ≠ c) : splitL c a = [a] := by
  induction a with
  | nil => rfl
  | cons x a ih =>
    obtain ⟨p, ps, e1, e2⟩ := splitL_cons_ne (h x (List.mem_cons_self ..)) a
    rw [ih (fun y hy => h y (List.mem_cons_of_mem _ hy))] at e1
    injection e1 with e3 e4
    rw [e2, ← e3, ← e4]

/-! ### the program's search for a byte -/
def one (c : UInt8) : ByteArray := ⟨#[c]⟩
theorem one_bytes (c : UInt8) : bytesOf (one c) = [(c.toNat : Int)] := rfl
theorem index_go (s : ByteArray) (c : UInt8) (hs : s.size ≤ 4611686018427387904) (d : Nat) : ∀ i : Nat, i ≤ s.size → s.size - i = d → (∀ j, j < i → bt s ((j : Nat) : Int) ≠ (c.toNat : Int)) →
    ∃ r : Int, Ev (fun k => dbus_zzIndex.l0 k s (one c) (i : Int)) r ∧ ((r = -1 ∧ ∀ j, j < s.size → bt s ((j : Nat) : Int) ≠ (c.toNat : Int)) ∨ (∃ q : Nat, r = (q : Int) ∧ q < s.size ∧ bt s (q : Int) = (c.toNat : Int) ∧ ∀ j, j < q → bt s ((j : Nat) : Int) ≠ (c.toNat : Int))) := by
  have e1 : ((one c).size : Int) = 1 := rfl
  induction d with
  | zero =>
    intro i hi hd hno
    obtain rfl : i = s.size := by omega
    refine ⟨-1, Ev_up ?_, .inl ⟨rfl, hno⟩⟩
    have e2 : wrap64 ((s.size : Int) + 1) = (s.size : Int) + 1 := w64 (by omega) (by omega)
    simp only [dbus_zzIndex.l0, e1, e2, if_neg (show ¬ (s.size : Int) + 1 ≤ (s.size : Int) by omega)]
    exact Ev.now _
  | succ d ih =>
    intro i hi hd hno
    have hlt : i < s.size := by omega
    have e2 : wrap64 ((i : Int) + 1) = ((i + 1 : Nat) : Int) := by rw [w64 (by omega) (by omega)]; omega
    have hx : (s.extract i (i + 1)).toList = (one c).toList ↔ bt s (i : Int) = (c.toNat : Int) := by
      have e : bytesOf (s.extract i (i + 1)) = [bt s (i : Int)] := by
        rw [bytesOf_extract, bytesOf_take s i hlt, List.drop_append, List.drop_eq_nil_of_le (by rw [List.length_take]; omega), List.length_take, bytesOf_length, Nat.min_eq_left (by omega), Nat.sub_self]; rfl
      constructor
      · intro h
        have := toList_inj h
        rw [e, one_bytes] at this
        injection this
      · intro h
        exact toList_of_bytes (by rw [e, one_bytes, h])
    by_cases hc : bt s (i : Int) = (c.toNat : Int)
    · refine ⟨(i : Int), Ev_up ?_, .inr ⟨i, rfl, hlt, hc, hno⟩⟩
      simp only [dbus_zzIndex.l0, e1, e2, if_pos (show ((i + 1 : Nat) : Int) ≤ (s.size : Int) by omega), if_pos (show (0 : Int) ≤ (i : Int) by omega), if_pos (show (i : Int) ≤ ((i + 1 : Nat) : Int) by omega), Int.toNat_natCast, if_pos (hx.mpr hc)]
      exact Ev.now _
    · obtain ⟨r, h1, h2⟩ := ih (i + 1) (by omega) (by omega) (fun j hj => by
        by_cases e : j = i
        · subst e; exact hc
        · exact hno j (by omega))
      refine ⟨r, Ev_up ?_, h2⟩
      simp only [dbus_zzIndex.l0, e1, e2, if_pos (show ((i + 1 : Nat) : Int) ≤ (s.size : Int) by omega), if_pos (show (0 : Int) ≤ (i : Int) by omega), if_pos (show (i : Int) ≤ ((i + 1 : Nat) : Int) by omega), Int.toNat_natCast, if_neg (fun h => hc (hx.mp h))]
      exact h1
theorem index_f (s : ByteArray) (c : UInt8) (hs : s.size ≤ 4611686018427387904) : ∃ r : Int, Ev (fun k => dbus_zzIndex.f k s (one c)) r ∧ ((r = -1 ∧ ∀ j, j < s.size → bt s ((j : Nat) : Int) ≠ (c.toNat : Int)) ∨ (∃ q : Nat, r = (q : Int) ∧ q < s.size ∧ bt s (q : Int) = (c.toNat : Int) ∧ ∀ j, j < q → bt s ((j : Nat) : Int) ≠ (c.toNat : Int))) := by
  obtain ⟨r, h1, h2⟩ := index_go s c hs s.size 0 (by omega) (by omega) (by omega)
  exact ⟨r, by simpa [dbus_zzIndex.f] using h1, h2⟩
theorem no_mem (s : ByteArray) (n : Nat) (c : Int) (hn : n ≤ s.size) (h : ∀ j, j < n → bt s ((j : Nat) : Int) ≠ c) : ∀ x, x ∈ (bytesOf s).take n → x ≠ c := by
  intro x hx
  obtain ⟨j, hj⟩ := List.mem_iff_getElem?.mp hx
  have hjn : j < n := by
    rcases Nat.lt_or_ge j n with h | h
    · exact h
    · rw [List.getElem?_eq_none (by rw [List.length_take]; omega)] at hj; cases hj
  rw [List.getElem?_take_of_lt hjn, bytesOf_get s j (by omega)] at hj
  rw [← Option.some.inj hj]
  exact h j hjn
theorem split_go (c : UInt8) : ∀ (n : Nat) (s : ByteArray) (acc : List ByteArray), s.size ≤ n → n ≤ 1099511627776 → acc.length + s.size ≤ 1099511627776 →
    Ev (fun k => dbus_zzSplit.l1 k s (one c) acc) (acc ++ (splitL (c.toNat : Int) (bytesOf s)).map strOfNums) := by
  intro n
  induction n using Nat.strongRecOn with
  | _ n ih =>
    intro s acc hn hn2 hacc
    have e1 : ((one c).size : Int) = 1 := rfl
    obtain ⟨r, h1, h2⟩ := index_f s c (by omega)
    refine Ev_up ?_
    simp only [dbus_zzSplit.l1]
    refine Ev.bind h1 ?_
    rcases h2 with ⟨rfl, h2⟩ | ⟨q, rfl, hq, hc, h2⟩
    · simp only [if_pos (show (-1 : Int) < 0 by omega), if_pos (show acc.length < 8796093022208 by omega)]
      have e := splitL_none (c.toNat : Int) ((bytesOf s).take s.size) (no_mem s s.size _ (Nat.le_refl _) h2)
      rw [List.take_of_length_le (by rw [bytesOf_length]; exact Nat.le_refl _)] at e
      rw [e]
      simp only [List.map_cons, List.map_nil, str_bytes]
      exact Ev.now _
    · have e2 : wrap64 ((q : Int) + 1) = ((q + 1 : Nat) : Int) := by rw [w64 (by omega) (by omega)]; omega
      simp only [e1, e2, if_neg (show ¬ (q : Int) < 0 by omega), if_pos (show (0 : Int) ≤ (q : Int) by omega), if_pos (show (q : Int) ≤ (s.size : Int) by omega), if_pos (show acc.length < 8796093022208 by omega), if_pos (show (0 : Int) ≤ ((q + 1 : Nat) : Int) by omega), if_pos (show ((q + 1 : Nat) : Int) ≤ (s.size : Int) by omega), Int.toNat_natCast]
      have hsz : (s.extract (q + 1) s.size).size = s.size - (q + 1) := by rw [ByteArray.size_extract]; omega
      have := ih (s.size - (q + 1)) (by omega) (s.extract (q + 1) s.size) (acc ++ [s.extract 0 q]) (by omega) (by omega) (by rw [List.length_append, List.length_singleton]; omega)
      have e3 : bytesOf s = (bytesOf s).take q ++ (c.toNat : Int) :: (bytesOf s).drop (q + 1) := by
        rw [← hc, ← bytesOf_drop s q hq, List.take_append_drop]
      have e4 : bytesOf (s.extract (q + 1) s.size) = (bytesOf s).drop (q + 1) := by
        rw [bytesOf_extract, List.take_of_length_le (by rw [bytesOf_length]; exact Nat.le_refl _)]
      have e5 : s.extract 0 q = strOfNums ((bytesOf s).take q) := by
        rw [← str_bytes (s.extract 0 q), bytesOf_extract, List.drop_zero]
      have e6 : splitL (c.toNat : Int) (bytesOf s) = (bytesOf s).take q :: splitL (c.toNat : Int) ((bytesOf s).drop (q + 1)) := by
        conv => lhs; rw [e3]
        exact splitL_app _ _ _ (no_mem s q _ (by omega) h2)
      rw [e4, e5] at this
      rw [e5, e6, List.map_cons]
      simpa using this
theorem split_f (s : ByteArray) (c : UInt8) (hs : s.size ≤ 1099511627776) : Ev (fun k => dbus_zzSplit.f k s (one c)) ((splitL (c.toNat : Int) (bytesOf s)).map strOfNums) := by
  have h := split_go c s.size s [] (Nat.le_refl _) hs (by simpa using hs)
  have e1 : ¬ ((one c).size : Int) = 0 := by
    have : ((one c).size : Int) = 1 := rfl
    omega
  simp only [dbus_zzSplit.f, if_neg e1]
  simpa using h

/-! ### letters of names -/
def mc (c : Int) : Bool := decide (48 ≤ c ∧ c ≤ 57) || decide (65 ≤ c ∧ c ≤ 90) || decide (97 ≤ c ∧ c ≤ 122) || decide (c = 95)
theorem mc_f (c : Int) : dbus_isMemberChar.f c = some (mc c) := by
  unfold dbus_isMemberChar.f mc
  by_cases h1 : 48 ≤ c <;> by_cases h2 : c ≤ 57 <;> by_cases h3 : 65 ≤ c <;> by_cases h4 : c ≤ 90 <;> by_cases h5 : 97 ≤ c <;> by_cases h6 : c ≤ 122 <;> by_cases h7 : c = 95 <;> simp [h1, h2, h3, h4, h5, h6, h7] <;> omega
theorem mc_ascii {c : Int} (h : mc c = true) : 48 ≤ c ∧ c ≤ 122 := by
  unfold mc at h
  simp only [Bool.or_eq_true, decide_eq_true_eq] at h
  omega
def dig (c : Int) : Bool := decide (48 ≤ c ∧ c ≤ 57)
/-- An element of a name. -/
def elemOk (l : List Int) : Bool := !l.isEmpty && !dig (l.headD 0) && l.all mc
def okIface (l : List Int) : Bool := decide (l.length ≤ 255) && decide (2 ≤ (splitL 46 l).length) && (splitL 46 l).all elemOk
def okMember (l : List Int) : Bool := decide (l.length ≤ 255) && elemOk l
def okPath : List Int → Bool
  | [] => false
  | c :: t => decide (c = 47) && (t.isEmpty || (splitL 47 t).all fun p => !p.isEmpty && p.all mc)

/-- All bytes ahead of a place are letters of names. -/
def McTo (s : ByteArray) (pos : Nat) : Prop := ∀ j, j < pos → j < s.size → mc (bt s (j : Int)) = true
theorem McTo.all {s : ByteArray} (h : McTo s s.size) : (bytesOf s).all mc = true := by
  rw [List.all_eq_true]
  intro x hx
  obtain ⟨j, hj⟩ := List.mem_iff_getElem?.mp hx
  have hjn : j < s.size := by
    rcases Nat.lt_or_ge j s.size with h | h
    · exact h
    · rw [List.getElem?_eq_none (by rw [bytesOf_length]; omega)] at hj; cases hj
  rw [bytesOf_get s j hjn] at hj
  rw [← Option.some.inj hj]
  exact h j hjn hjn
theorem not_all {s : ByteArray} (i : Nat) (hi : i < s.size) (h : mc (bt s (i : Int)) = false) : (bytesOf s).all mc = false := by
  rw [List.all_eq_false]
  exact ⟨bt s (i : Int), List.mem_iff_getElem?.mpr ⟨i, bytesOf_get s i hi⟩, by rw [h]; decide⟩
/-- A rune that is a letter of names is one byte. -/
theorem rune_yes {s : ByteArray} {pos : Nat} (hp : pos < s.size) (h : mc ((Utf8.decode s pos).1 : Int) = true) : bt s (pos : Int) = ((Utf8.decode s pos).1 : Int) ∧ (Utf8.decode s pos).2 = 1 := by
  have ha := mc_ascii h
  by_cases hb : 128 ≤ bt s (pos : Int)
  · have := (decode_cont s pos hp hb).1; omega
  · rw [bt_nat hp] at hb ⊢
    rw [decode_ascii s pos hp (by omega)]
    exact ⟨rfl, rfl⟩
theorem rune_no {s : ByteArray} {pos : Nat} (hp : pos < s.size) (h : mc ((Utf8.decode s pos).1 : Int) = false) : mc (bt s (pos : Int)) = false := by
  by_cases hb : 128 ≤ bt s (pos : Int)
  · cases hm : mc (bt s (pos : Int)) with
    | false => rfl
    | true => have := mc_ascii hm; omega
  · rw [bt_nat hp] at hb ⊢
    rw [decode_ascii s pos hp (by omega)] at h
    exact h
theorem McTo.next {s : ByteArray} {pos : Nat} (h : McTo s pos) (hp : pos < s.size) (hm : mc ((Utf8.decode s pos).1 : Int) = true) : McTo s (pos + (Utf8.decode s pos).2) := by
  obtain ⟨h1, h2⟩ := rune_yes hp hm
  rw [h2]
  intro j hj hjs
  by_cases e : j = pos
  · subst e; rw [h1]; exact hm
  · exact h j (by omega) hjs
end Go.Proofs.Ythkmgbfobobpdaa.NmPl
