/- Part of the proof of LawFnMsName. -/
import Derived.Test.YtldjigfnagfalaaGreatDoorUtf
import Derived.Laws.BytesArg
import Derived.LoopTactic
import Derived.Outline
import Derived.BigQuiet
set_option linter.unusedVariables false
set_option linter.unusedSimpArgs false
section
namespace Go.Proofs.YtldjigfnagfalaaGreatDoor.NmPl
open Go.RowKit Go.Proofs.YtldjigfnagfalaaGreatDoorW.PrintWords Go.Proofs.YtldjigfnagfalaaGreatDoor.PNl Go.Proofs.YtldjigfnagfalaaGreatDoor.Pl Go.Proofs.YtldjigfnagfalaaGreatDoor.Utf
theorem str_bytes (s : ByteArray) : strOfNums (bytesOf s) = s := by
  unfold strOfNums bytesOf
  rw [List.map_map]
  have : (fun b : UInt8 => UInt8.ofNat (b.toNat : Int).toNat) = id := by funext b; simp
  rw [show ((fun n : Int => UInt8.ofNat n.toNat) ∘ fun b : UInt8 => (b.toNat : Int)) = id from this]
  simp
theorem bytesOf_inj {a b : ByteArray} (h : bytesOf a = bytesOf b) : a = b := by rw [← str_bytes a, h, str_bytes]
theorem bytesOf_extract (s : ByteArray) (i j : Nat) : bytesOf (s.extract i j) = ((bytesOf s).take j).drop i := by
  have e : (s.extract i j).data.toList = (s.data.toList.take j).drop i := by
    rw [ByteArray.data_extract, Array.toList_extract, List.extract_eq_take_drop, List.drop_take]
  unfold bytesOf
  rw [e, List.map_drop, List.map_take]
theorem bytesOf_get (s : ByteArray) (i : Nat) (h : i < s.size) : (bytesOf s)[i]? = some (bt s (i : Int)) := by
  have hl : i < (bytesOf s).length := by rw [bytesOf_length]; exact h
  have := rd_bytesOf s (i : Int)
  simp only [rd, Int.toNat_natCast, List.getD_eq_getElem?_getD, List.getElem?_eq_getElem hl, Option.getD_some] at this
  rw [List.getElem?_eq_getElem hl, this]
theorem bytesOf_drop (s : ByteArray) (i : Nat) (h : i < s.size) : (bytesOf s).drop i = bt s (i : Int) :: (bytesOf s).drop (i + 1) := by
  have hl : i < (bytesOf s).length := by rw [bytesOf_length]; exact h
  rw [List.drop_eq_getElem_cons hl]
  have := bytesOf_get s i h
  rw [List.getElem?_eq_getElem hl] at this
  rw [Option.some.inj this]
theorem bytesOf_take (s : ByteArray) (i : Nat) (h : i < s.size) : (bytesOf s).take (i + 1) = (bytesOf s).take i ++ [bt s (i : Int)] := by
  rw [List.take_add_one, bytesOf_get s i h]; rfl
theorem toList_inj {a b : ByteArray} (h : a.toList = b.toList) : bytesOf a = bytesOf b := by
  unfold bytesOf; rw [← ByteArray.toList_eq, ← ByteArray.toList_eq, h]
theorem toList_of_bytes {a b : ByteArray} (h : bytesOf a = bytesOf b) : a.toList = b.toList := by rw [bytesOf_inj h]
def splitL (c : Int) : List Int → List (List Int)
  | [] => [[]]
  | x :: t => if x = c then [] :: splitL c t else (match splitL c t with
    | [] => [[x]]
    | p :: ps => (x :: p) :: ps)
theorem splitL_ne (c : Int) (l : List Int) : splitL c l ≠ [] := by
  cases l with
  | nil => simp [splitL]
  | cons x t =>
    rw [splitL]
    split
    · simp
    · split <;> simp
theorem splitL_cons_eq (c : Int) (t : List Int) : splitL c (c :: t) = [] :: splitL c t := by rw [splitL, if_pos rfl]
theorem splitL_cons_ne {c x : Int} (h : x ≠ c) (t : List Int) : ∃ p ps, splitL c t = p :: ps ∧ splitL c (x :: t) = (x :: p) :: ps := by
  obtain ⟨p, ps, e⟩ : ∃ p ps, splitL c t = p :: ps := by
    cases h : splitL c t with
    | nil => exact absurd h (splitL_ne c t)
    | cons p ps => exact ⟨p, ps, rfl⟩
  exact ⟨p, ps, e, by rw [splitL, if_neg h, e]⟩
theorem splitL_app (c : Int) (a t : List Int) (h : ∀ x, x ∈ a → x ≠ c) : splitL c (a ++ c :: t) = a :: splitL c t := by
  induction a with
  | nil => exact splitL_cons_eq c t
  | cons x a ih =>
    obtain ⟨p, ps, e1, e2⟩ := splitL_cons_ne (h x (List.mem_cons_self ..)) (a ++ c :: t)
    rw [ih (fun y hy => h y (List.mem_cons_of_mem _ hy))] at e1
    injection e1 with e3 e4
    rw [List.cons_append, e2, ← e3, ← e4]
theorem splitL_none (c : Int) (a : List Int) (h : ∀ x, x ∈ a → x ≠ c) : splitL c a = [a] := by
  induction a with
  | nil => rfl
  | cons x a ih =>
    obtain ⟨p, ps, e1, e2⟩ := splitL_cons_ne (h x (List.mem_cons_self ..)) a
    rw [ih (fun y hy => h y (List.mem_cons_of_mem _ hy))] at e1
    injection e1 with e3 e4
    rw [e2, ← e3, ← e4]
def one (c : UInt8) : ByteArray := ⟨#[c]⟩
theorem one_bytes (c : UInt8) : bytesOf (one c) = [(c.toNat : Int)] := rfl
theorem index_go (s : ByteArray) (c : UInt8) (hs : s.size ≤ 4611686018427387904) (d : Nat) : ∀ i : Nat, i ≤ s.size → s.size - i = d → (∀ j, j < i → bt s ((j : Nat) : Int) ≠ (c.toNat : Int)) →
    ∃ r : Int, Ev (fun k => dbus_zzIndex.l0 k s (one c) (i : Int)) r ∧ ((r = -1 ∧ ∀ j, j < s.size → bt s ((j : Nat) : Int) ≠ (c.toNat : Int)) ∨ (∃ q : Nat, r = (q : Int) ∧ q < s.size ∧ bt s (q : Int) = (c.toNat : Int) ∧ ∀ j, j < q → bt s ((j : Nat) : Int) ≠ (c.toNat : Int))) := by
  have e1 : ((one c).size : Int) = 1 := rfl
  induction d with
  | zero =>
    intro i hi hd hno
    obtain rfl : i = s.size := by omega
    refine ⟨-1, Ev_up ?_, .inl ⟨rfl, hno⟩⟩
    have e2 : wrap64 ((s.size : Int) + 1) = (s.size : Int) + 1 := w64 (by omega) (by omega)
    simp only [dbus_zzIndex.l0, e1, e2, if_neg (show ¬ (s.size : Int) + 1 ≤ (s.size : Int) by omega)]
    exact Ev.now _
  | succ d ih =>
    intro i hi hd hno
    have hlt : i < s.size := by omega
    have e2 : wrap64 ((i : Int) + 1) = ((i + 1 : Nat) : Int) := by rw [w64 (by omega) (by omega)]; omega
    have hx : (s.extract i (i + 1)).toList = (one c).toList ↔ bt s (i : Int) = (c.toNat : Int) := by
      have e : bytesOf (s.extract i (i + 1)) = [bt s (i : Int)] := by
        rw [bytesOf_extract, bytesOf_take s i hlt, List.drop_append, List.drop_eq_nil_of_le (by rw [List.length_take]; omega), List.length_take, bytesOf_length, Nat.min_eq_left (by omega), Nat.sub_self]; rfl
      constructor
      · intro h
        have := toList_inj h
        rw [e, one_bytes] at this
        injection this
      · intro h
        exact toList_of_bytes (by rw [e, one_bytes, h])
    by_cases hc : bt s (i : Int) = (c.toNat : Int)
    · refine ⟨(i : Int), Ev_up ?_, .inr ⟨i, rfl, hlt, hc, hno⟩⟩
      simp only [dbus_zzIndex.l0, e1, e2, if_pos (show ((i + 1 : Nat) : Int) ≤ (s.size : Int) by omega), if_pos (show (0 : Int) ≤ (i : Int) by omega), if_pos (show (i : Int) ≤ ((i + 1 : Nat) : Int) by omega), Int.toNat_natCast, if_pos (hx.mpr hc)]
      exact Ev.now _
    · obtain ⟨r, h1, h2⟩ := ih (i + 1) (by omega) (by omega) (fun j hj => by
        by_cases e : j = i
        · subst e; exact hc
        · exact hno j (by omega))
      refine ⟨r, Ev_up ?_, h2⟩
      simp only [dbus_zzIndex.l0, e1, e2, if_pos (show ((i + 1 : Nat) : Int) ≤ (s.size : Int) by omega), if_pos (show (0 : Int) ≤ (i : Int) by omega), if_pos (show (i : Int) ≤ ((i + 1 : Nat) : Int) by omega), Int.toNat_natCast, if_neg (fun h => hc (hx.mp h))]
      exact h1
theorem index_f (s : ByteArray) (c : UInt8) (hs : s.size ≤ 4611686018427387904) : ∃ r : Int, Ev (fun k => dbus_zzIndex.f k s (one c)) r ∧ ((r = -1 ∧ ∀ j, j < s.size → bt s ((j : Nat) : Int) ≠ (c.toNat : Int)) ∨ (∃ q : Nat, r = (q : Int) ∧ q < s.size ∧ bt s (q : Int) = (c.toNat : Int) ∧ ∀ j, j < q → bt s ((j : Nat) : Int) ≠ (c.toNat : Int))) := by
  obtain ⟨r, h1, h2⟩ := index_go s c hs s.size 0 (by omega) (by omega) (by omega)
  exact ⟨r, by simpa [dbus_zzIndex.f] using h1, h2⟩
theorem no_mem (s : ByteArray) (n : Nat) (c : Int) (hn : n ≤ s.size) (h : ∀ j, j < n → bt s ((j : Nat) : Int) ≠ c) : ∀ x, x ∈ (bytesOf s).take n → x ≠ c := by
  intro x hx
  obtain ⟨j, hj⟩ := List.mem_iff_getElem?.mp hx
  have hjn : j < n := by
    rcases Nat.lt_or_ge j n with h | h
    · exact h
    · rw [List.getElem?_eq_none (by rw [List.length_take]; omega)] at hj; cases hj
  rw [List.getElem?_take_of_lt hjn, bytesOf_get s j (by omega)] at hj
  rw [← Option.some.inj hj]
  exact h j hjn
theorem split_go (c : UInt8) : ∀ (n : Nat) (s : ByteArray) (acc : List ByteArray), s.size ≤ n → n ≤ 1099511627776 → acc.length + s.size ≤ 1099511627776 →
    Ev (fun k => dbus_zzSplit.l1 k s (one c) acc) (acc ++ (splitL (c.toNat : Int) (bytesOf s)).map strOfNums) := by
  intro n
  induction n using Nat.strongRecOn with
  | _ n ih =>
    intro s acc hn hn2 hacc
    have e1 : ((one c).size : Int) = 1 := rfl
    obtain ⟨r, h1, h2⟩ := index_f s c (by omega)
    refine Ev_up ?_
    simp only [dbus_zzSplit.l1]
    refine Ev.bind h1 ?_
    rcases h2 with ⟨rfl, h2⟩ | ⟨q, rfl, hq, hc, h2⟩
    · simp only [if_pos (show (-1 : Int) < 0 by omega), if_pos (show acc.length < 8796093022208 by omega)]
      have e := splitL_none (c.toNat : Int) ((bytesOf s).take s.size) (no_mem s s.size _ (Nat.le_refl _) h2)
      rw [List.take_of_length_le (by rw [bytesOf_length]; exact Nat.le_refl _)] at e
      rw [e]
      simp only [List.map_cons, List.map_nil, str_bytes]
      exact Ev.now _
    · have e2 : wrap64 ((q : Int) + 1) = ((q + 1 : Nat) : Int) := by rw [w64 (by omega) (by omega)]; omega
      simp only [e1, e2, if_neg (show ¬ (q : Int) < 0 by omega), if_pos (show (0 : Int) ≤ (q : Int) by omega), if_pos (show (q : Int) ≤ (s.size : Int) by omega), if_pos (show acc.length < 8796093022208 by omega), if_pos (show (0 : Int) ≤ ((q + 1 : Nat) : Int) by omega), if_pos (show ((q + 1 : Nat) : Int) ≤ (s.size : Int) by omega), Int.toNat_natCast]
      have hsz : (s.extract (q + 1) s.size).size = s.size - (q + 1) := by rw [ByteArray.size_extract]; omega
      have := ih (s.size - (q + 1)) (by omega) (s.extract (q + 1) s.size) (acc ++ [s.extract 0 q]) (by omega) (by omega) (by rw [List.length_append, List.length_singleton]; omega)
      have e3 : bytesOf s = (bytesOf s).take q ++ (c.toNat : Int) :: (bytesOf s).drop (q + 1) := by
        rw [← hc, ← bytesOf_drop s q hq, List.take_append_drop]
      have e4 : bytesOf (s.extract (q + 1) s.size) = (bytesOf s).drop (q + 1) := by
        rw [bytesOf_extract, List.take_of_length_le (by rw [bytesOf_length]; exact Nat.le_refl _)]
      have e5 : s.extract 0 q = strOfNums ((bytesOf s).take q) := by
        rw [← str_bytes (s.extract 0 q), bytesOf_extract, List.drop_zero]
      have e6 : splitL (c.toNat : Int) (bytesOf s) = (bytesOf s).take q :: splitL (c.toNat : Int) ((bytesOf s).drop (q + 1)) := by
        conv => lhs; rw [e3]
        exact splitL_app _ _ _ (no_mem s q _ (by omega) h2)
      rw [e4, e5] at this
      rw [e5, e6, List.map_cons]
      simpa using this
theorem split_f (s : ByteArray) (c : UInt8) (hs : s.size ≤ 1099511627776) : Ev (fun k => dbus_zzSplit.f k s (one c)) ((splitL (c.toNat : Int) (bytesOf s)).map strOfNums) := by
  have h := split_go c s.size s [] (Nat.le_refl _) hs (by simpa using hs)
  have e1 : ¬ ((one c).size : Int) = 0 := by
    have : ((one c).size : Int) = 1 := rfl
    omega
  simp only [dbus_zzSplit.f, if_neg e1]
  simpa using h
def mc (c : Int) : Bool := decide (48 ≤ c ∧ c ≤ 57) || decide (65 ≤ c ∧ c ≤ 90) || decide (97 ≤ c ∧ c ≤ 122) || decide (c = 95)
theorem mc_f (c : Int) : dbus_isMemberChar.f c = some (mc c) := by
  unfold dbus_isMemberChar.f mc
  by_cases h1 : 48 ≤ c <;> by_cases h2 : c ≤ 57 <;> by_cases h3 : 65 ≤ c <;> by_cases h4 : c ≤ 90 <;> by_cases h5 : 97 ≤ c <;> by_cases h6 : c ≤ 122 <;> by_cases h7 : c = 95 <;> simp [h1, h2, h3, h4, h5, h6, h7] <;> omega
theorem mc_ascii {c : Int} (h : mc c = true) : 48 ≤ c ∧ c ≤ 122 := by
  unfold mc at h
  simp only [Bool.or_eq_true, decide_eq_true_eq] at h
  omega
def dig (c : Int) : Bool := decide (48 ≤ c ∧ c ≤ 57)
def elemOk (l : List Int) : Bool := !l.isEmpty && !dig (l.headD 0) && l.all mc
def okIface (l : List Int) : Bool := decide (l.length ≤ 255) && decide (2 ≤ (splitL 46 l).length) && (splitL 46 l).all elemOk
def okMember (l : List Int) : Bool := decide (l.length ≤ 255) && elemOk l
def okPath : List Int → Bool
  | [] => false
  | c :: t => decide (c = 47) && (t.isEmpty || (splitL 47 t).all fun p => !p.isEmpty && p.all mc)
def McTo (s : ByteArray) (pos : Nat) : Prop := ∀ j, j < pos → j < s.size → mc (bt s (j : Int)) = true
theorem McTo.all {s : ByteArray} (h : McTo s s.size) : (bytesOf s).all mc = true := by
  rw [List.all_eq_true]
  intro x hx
  obtain ⟨j, hj⟩ := List.mem_iff_getElem?.mp hx
  have hjn : j < s.size := by
    rcases Nat.lt_or_ge j s.size with h | h
    · exact h
    · rw [List.getElem?_eq_none (by rw [bytesOf_length]; omega)] at hj; cases hj
  rw [bytesOf_get s j hjn] at hj
  rw [← Option.some.inj hj]
  exact h j hjn hjn
theorem not_all {s : ByteArray} (i : Nat) (hi : i < s.size) (h : mc (bt s (i : Int)) = false) : (bytesOf s).all mc = false := by
  rw [List.all_eq_false]
  exact ⟨bt s (i : Int), List.mem_iff_getElem?.mpr ⟨i, bytesOf_get s i hi⟩, by rw [h]; decide⟩
theorem rune_yes {s : ByteArray} {pos : Nat} (hp : pos < s.size) (h : mc ((Utf8.decode s pos).1 : Int) = true) : bt s (pos : Int) = ((Utf8.decode s pos).1 : Int) ∧ (Utf8.decode s pos).2 = 1 := by
  have ha := mc_ascii h
  by_cases hb : 128 ≤ bt s (pos : Int)
  · have := (decode_cont s pos hp hb).1; omega
  · rw [bt_nat hp] at hb ⊢
    rw [decode_ascii s pos hp (by omega)]
    exact ⟨rfl, rfl⟩
theorem rune_no {s : ByteArray} {pos : Nat} (hp : pos < s.size) (h : mc ((Utf8.decode s pos).1 : Int) = false) : mc (bt s (pos : Int)) = false := by
  by_cases hb : 128 ≤ bt s (pos : Int)
  · cases hm : mc (bt s (pos : Int)) with
    | false => rfl
    | true => have := mc_ascii hm; omega
  · rw [bt_nat hp] at hb ⊢
    rw [decode_ascii s pos hp (by omega)] at h
    exact h
theorem McTo.next {s : ByteArray} {pos : Nat} (h : McTo s pos) (hp : pos < s.size) (hm : mc ((Utf8.decode s pos).1 : Int) = true) : McTo s (pos + (Utf8.decode s pos).2) := by
  obtain ⟨h1, h2⟩ := rune_yes hp hm
  rw [h2]
  intro j hj hjs
  by_cases e : j = pos
  · subst e; rw [h1]; exact hm
  · exact h j (by omega) hjs
end Go.Proofs.YtldjigfnagfalaaGreatDoor.NmPl
end
section
namespace Go.Proofs.YtldjigfnagfalaaGreatDoor.Given
open Go.RowKit Go.Proofs.YtldjigfnagfalaaGreatDoorW.PrintWords Go.Proofs.YtldjigfnagfalaaGreatDoor.PNl Go.Proofs.YtldjigfnagfalaaGreatDoor.Pl Go.Proofs.YtldjigfnagfalaaGreatDoor.Utf Go.Proofs.YtldjigfnagfalaaGreatDoor.NmPl
def IsMember.f (s : ByteArray) : Option Bool := if s.size ≤ 1099511627776 then some (okMember (bytesOf s)) else none
theorem below_it {B : Nat} {w W : World} (h : Below B w W) (hB : B ≤ W.heap.size) (s : ByteArray) (pos : Nat) : Below B w (W.iter s pos) := h.alloc hB _
theorem below_drawn {B : Nat} {w w1 w' : World} (h : Below B w w1) (hd : Drawn0 w1 w') : Below B w w' := by
  obtain ⟨⟨m, rfl⟩⟩ := hd
  exact pw_below_drewN h m
theorem iter_drawn {w1 W : World} {s : ByteArray} {m p : Nat} (hd : Drawn0 ((w1.drewN m).iter s p) W) : ∃ m', W = (w1.drewN m').iter s p := by
  obtain ⟨⟨n, rfl⟩⟩ := hd
  exact ⟨m + n, by rw [← World.drewN_drewN]; rfl⟩
theorem head_bytes (s : ByteArray) (h : 0 < s.size) : ∃ t, bytesOf s = bt s 0 :: t := by
  have := bytesOf_drop s 0 h
  rw [List.drop_zero] at this
  exact ⟨_, this⟩
theorem member_long {s : ByteArray} (h : 255 < s.size) : okMember (bytesOf s) = false := by
  unfold okMember; rw [bytesOf_length, decide_eq_false (by omega)]; rfl
theorem member_empty {s : ByteArray} (h : s.size = 0) : okMember (bytesOf s) = false := by
  have : bytesOf s = [] := List.length_eq_zero_iff.mp (by rw [bytesOf_length]; exact h)
  rw [this]; rfl
theorem member_bad {s : ByteArray} (h : (bytesOf s).all mc = false) : okMember (bytesOf s) = false := by
  unfold okMember elemOk; rw [h]; simp
theorem member_dig {s : ByteArray} (h0 : 0 < s.size) (h : 48 ≤ bt s 0 ∧ bt s 0 ≤ 57) : okMember (bytesOf s) = false := by
  obtain ⟨t, e⟩ := head_bytes s h0
  unfold okMember elemOk; rw [e]; simp [dig, h]
theorem member_good {s : ByteArray} (h0 : 0 < s.size) (h1 : s.size ≤ 255) (h : ¬ (48 ≤ bt s 0 ∧ bt s 0 ≤ 57)) (hm : (bytesOf s).all mc = true) : okMember (bytesOf s) = true := by
  obtain ⟨t, e⟩ := head_bytes s h0
  unfold okMember elemOk; rw [hm, bytesOf_length, decide_eq_true h1, e]; simp [dig]; omega
theorem dot_bad {s : ByteArray} {q : Nat} (hq : q < s.size) (h : bt s (q : Int) = 46) : okMember (bytesOf s) = false :=
  member_bad (not_all q hq (by rw [h]; decide))
set_option maxRecDepth 100000 in
set_option maxHeartbeats 2000000 in
theorem IsMember.calls (s : ByteArray) (r : Bool) (w : World) (h : IsMember.f s = some r) :
    Calls Tryz.prog 98 #[.string s] w fun e w' => e = .returned (.bool r) ∧ Below w.heap.size w w' := by
  unfold IsMember.f at h
  by_cases hs : s.size ≤ 1099511627776
  case neg => rw [if_neg hs] at h; cases h
  rw [if_pos hs] at h
  have hr := Option.some.inj h
  clear h
  by_cases h0 : s.size = 0
  · rw [member_empty h0] at hr
    subst hr
    have c0 : ((s.size : Int) == 0) = true := by rw [beq_iff_eq]; omega
    clear h0 hs
    go_enter Tryz.func98, Tryz.ntmps98
    go_wp2
    go_ret
    exact ⟨rfl, Below.refl _ _⟩
  have c0 : ((s.size : Int) == 0) = false := by rw [beq_eq_false_iff_ne]; omega
  by_cases h1 : 255 < s.size
  · rw [member_long h1] at hr
    subst hr
    have c1 : decide (255 < (s.size : Int)) = true := decide_eq_true (by omega)
    have c2 : decide (255 < s.size) = true := decide_eq_true h1
    clear h0 h1 hs
    go_enter Tryz.func98, Tryz.ntmps98
    go_wp2
    go_ret
    exact ⟨rfl, Below.refl _ _⟩
  have c1 : decide (255 < (s.size : Int)) = false := decide_eq_false (by omega)
  have c2 : decide (255 < s.size) = false := decide_eq_false h1
  have hpos : 0 < s.size := by omega
  obtain ⟨q, hq, hq2⟩ := index_f s 46 (by omega)
  obtain ⟨k, hk⟩ := Ev.rounds hq
  have HK := Aside0.mk hk
  have HR := Aside0.mk hr
  clear hk hq hr h0
  rcases hq2 with ⟨rfl, hno⟩ | ⟨p, rfl, hp, hdot, _⟩
  · clear hno
    have hx6 : ∀ h : 0 < s.size, ((s[0]'h).toNat : Int) = bt s 0 := bt_at s 0
    have q6 := eq_true hpos
    have qi6 : (0 < (s.size : Int)) = True := eq_true (by omega)
    by_cases hd : 48 ≤ bt s 0 ∧ bt s 0 ≤ 57
    · have c3 : decide (48 ≤ bt s 0) = true := decide_eq_true hd.1
      have c4 : decide (bt s 0 ≤ 57) = true := decide_eq_true hd.2
      have hg := member_dig hpos hd
      rw [HR.out] at hg
      subst hg
      clear hd
      go_enter Tryz.func98, Tryz.ntmps98
      go_wp2_with (go_at_call 100; refine (dbus_zzIndex.calls k s _ _ _ HK.out).mono ?_; rintro e w1 ⟨rfl, hd⟩)
      go_ret
      exact ⟨rfl, hd.below⟩
    · have hgood := fun hm => member_good hpos (by omega) hd hm
      have HG := Aside0.mk hgood
      clear hgood
      have two : (decide (48 ≤ bt s 0) = true ∧ decide (bt s 0 ≤ 57) = false) ∨ decide (48 ≤ bt s 0) = false := by
        by_cases z : 48 ≤ bt s 0
        · exact .inl ⟨decide_eq_true z, decide_eq_false (by omega)⟩
        · exact .inr (decide_eq_false z)
      clear hd hpos h1
      rcases two with ⟨c3, c4⟩ | c3
      all_goals
        go_enter Tryz.func98, Tryz.ntmps98
        go_wp2_with (go_at_call 100; refine (dbus_zzIndex.calls k s _ _ _ HK.out).mono ?_; rintro e w1 ⟨rfl, hd⟩)
        have hb1 := Aside0.mk hd.below
        clear hd
        go_loopw [5] (fun _ w' => ∃ m pos : Nat, w' = (w1.drewN m).iter s pos ∧ pos ≤ s.size ∧ Aside0 (McTo s pos)) (fun _ w' => s.size - w'.iterPos w1.heap.size)
        case atStart => exact ⟨0, 0, rfl, by omega, Aside0.mk (fun j hj _ => by omega)⟩
        case round =>
          obtain ⟨m, pos, rfl, hpos, hm⟩ := hrel
          by_cases hp : pos < s.size
          · have hnx : ∀ ty, (Instr.next (.pointer (some ⟨w1.heap.size, 0, none⟩)) true ty).run Tryz.prog ((w1.drewN m).iter s pos) = _ := fun ty => run_next_any (w1.drewN m) s pos ty hp
            cases hmc : mc ((Utf8.decode s pos).1 : Int) with
            | true =>
              obtain ⟨hr1, hr2⟩ := rune_yes hp hmc
              have hmn := Aside0.mk (hm.out.next hp hmc)
              have hw : pos + (Utf8.decode s pos).2 ≤ s.size := by omega
              have hw2 : pos < pos + (Utf8.decode s pos).2 := by omega
              clear hr1 hr2
              go_wp2_with (go_at_call 86; refine (dbus_isMemberChar.calls _ _ _ (mc_f _)).mono ?_; rintro e w2 ⟨rfl, hd⟩)
              obtain ⟨m', rfl⟩ := iter_drawn hd
              go_roundw
              case rel => exact ⟨m', _, rfl, hw, hmn⟩
              case measure =>
                have e1 := World.iterPos_iter (w1.drewN m') s (pos + (Utf8.decode s pos).2)
                have e2 := World.iterPos_iter (w1.drewN m) s pos
                have e3 : (w1.drewN m').heap.size = w1.heap.size := rfl
                have e4 : (w1.drewN m).heap.size = w1.heap.size := rfl
                rw [e3] at e1
                rw [e4] at e2
                rw [e1, e2]
                omega
            | false =>
              have hbad := member_bad (not_all pos hp (rune_no hp hmc))
              rw [HR.out] at hbad
              subst hbad
              go_wp2_with (go_at_call 86; refine (dbus_isMemberChar.calls _ _ _ (mc_f _)).mono ?_; rintro e w2 ⟨rfl, hd⟩)
              go_ret
              exact ⟨rfl, below_drawn (below_it (pw_below_drewN hb1.out m) hb1.out.size _ _) hd⟩
          · obtain rfl : pos = s.size := by omega
            have hnx : ∀ ty, (Instr.next (.pointer (some ⟨w1.heap.size, 0, none⟩)) true ty).run Tryz.prog ((w1.drewN m).iter s s.size) = _ := fun ty => run_next_end (w1.drewN m) s s.size ty hp
            have hg := HG.out hm.out.all
            rw [HR.out] at hg
            subst hg
            go_wp2
            go_ret
            exact ⟨rfl, below_it (pw_below_drewN hb1.out m) hb1.out.size _ _⟩
  · have hd := dot_bad hp hdot
    rw [HR.out] at hd
    subst hd
    have c3 : ((p : Int) != -1) = true := by rw [bne_iff_ne]; omega
    clear hdot hp
    go_enter Tryz.func98, Tryz.ntmps98
    go_wp2_with (go_at_call 100; refine (dbus_zzIndex.calls k s _ _ _ HK.out).mono ?_; rintro e w1 ⟨rfl, hd⟩)
    go_ret
    exact ⟨rfl, hd.below⟩
end Go.Proofs.YtldjigfnagfalaaGreatDoor.Given
end
section
namespace Go.Proofs.YtldjigfnagfalaaGreatDoor.Given
open Go.RowKit Go.Proofs.YtldjigfnagfalaaGreatDoorW.PrintWords Go.Proofs.YtldjigfnagfalaaGreatDoor.PNl Go.Proofs.YtldjigfnagfalaaGreatDoor.Pl Go.Proofs.YtldjigfnagfalaaGreatDoor.Utf Go.Proofs.YtldjigfnagfalaaGreatDoor.NmPl
def IsInterface.f (s : ByteArray) : Option Bool := if s.size ≤ 1099511627776 then some (okIface (bytesOf s)) else none
theorem empty_bytes {s : ByteArray} (h : s.size = 0) : bytesOf s = [] := List.length_eq_zero_iff.mp (by rw [bytesOf_length]; exact h)
theorem iface_empty {s : ByteArray} (h : s.size = 0) : okIface (bytesOf s) = false := by rw [empty_bytes h]; decide
theorem iface_long {s : ByteArray} (h : 255 < s.size) : okIface (bytesOf s) = false := by
  unfold okIface; rw [bytesOf_length, decide_eq_false (by omega)]; rfl
theorem iface_dot {s : ByteArray} (h0 : 0 < s.size) (h : bt s 0 = 46) : okIface (bytesOf s) = false := by
  obtain ⟨t, e⟩ := head_bytes s h0
  unfold okIface; rw [e, h, splitL_cons_eq]; simp [elemOk]
theorem iface_few {s : ByteArray} (h : (splitL 46 (bytesOf s)).length < 2) : okIface (bytesOf s) = false := by
  unfold okIface; rw [decide_eq_false (show ¬ 2 ≤ (splitL 46 (bytesOf s)).length by omega)]; simp
theorem iface_elem {s v : ByteArray} {i : Nat} (hv : ((splitL 46 (bytesOf s)).map strOfNums)[i]? = some v) (hsub : ∀ p, p ∈ splitL 46 (bytesOf s) → bytesOf (strOfNums p) = p) (h : elemOk (bytesOf v) = false) : okIface (bytesOf s) = false := by
  rw [List.getElem?_map] at hv
  obtain ⟨p, hp, rfl⟩ := Option.map_eq_some_iff.mp hv
  have hm : p ∈ splitL 46 (bytesOf s) := List.mem_iff_getElem?.mpr ⟨i, hp⟩
  rw [hsub p hm] at h
  have : (splitL 46 (bytesOf s)).all elemOk = false := List.all_eq_false.mpr ⟨p, hm, by rw [h]; decide⟩
  unfold okIface; rw [this]; simp
theorem iface_good {s : ByteArray} (h1 : s.size ≤ 255) (h2 : 2 ≤ (splitL 46 (bytesOf s)).length) (h : (splitL 46 (bytesOf s)).all elemOk = true) : okIface (bytesOf s) = true := by
  unfold okIface; rw [bytesOf_length, decide_eq_true h1, decide_eq_true h2, h]; rfl
theorem splitL_len (c : Int) (l : List Int) : (splitL c l).length ≤ l.length + 1 := by
  induction l with
  | nil => exact Nat.le_refl _
  | cons x t ih =>
    by_cases e : x = c
    · subst e; rw [splitL_cons_eq]; simp; exact ih
    · obtain ⟨p, ps, e1, e2⟩ := splitL_cons_ne e t
      rw [e2]; rw [e1] at ih; simp at ih ⊢; omega
theorem splitL_mem (c : Int) (P : Int → Prop) : ∀ (l : List Int), (∀ x, x ∈ l → P x) → ∀ p, p ∈ splitL c l → ∀ x, x ∈ p → P x := by
  intro l
  induction l with
  | nil => intro _ p hp x hx; simp [splitL] at hp; subst hp; cases hx
  | cons y t ih =>
    intro h p hp x hx
    have iht := ih (fun z hz => h z (List.mem_cons_of_mem _ hz))
    by_cases e : y = c
    · subst e
      rw [splitL_cons_eq] at hp
      rcases List.mem_cons.mp hp with rfl | hp
      · cases hx
      · exact iht p hp x hx
    · obtain ⟨q, qs, e1, e2⟩ := splitL_cons_ne e t
      rw [e2] at hp
      rcases List.mem_cons.mp hp with rfl | hp
      · rcases List.mem_cons.mp hx with rfl | hx
        · exact h x (List.mem_cons_self ..)
        · exact iht q (by rw [e1]; exact List.mem_cons_self ..) x hx
      · exact iht p (by rw [e1]; exact List.mem_cons_of_mem _ hp) x hx
theorem bytes_back (l : List Int) (h : ∀ x, x ∈ l → 0 ≤ x ∧ x ≤ 255) : bytesOf (strOfNums l) = l := by
  unfold bytesOf strOfNums
  simp only [List.map_map]
  have : ∀ x, x ∈ l → ((fun b : UInt8 => (b.toNat : Int)) ∘ fun n : Int => UInt8.ofNat n.toNat) x = x := by
    intro x hx
    obtain ⟨h0, h1⟩ := h x hx
    simp only [Function.comp, UInt8.toNat_ofNat']
    omega
  exact (List.map_congr_left this).trans (List.map_id' l)
theorem bytes_range (s : ByteArray) : ∀ x, x ∈ bytesOf s → 0 ≤ x ∧ x ≤ 255 := by
  intro x hx
  unfold bytesOf at hx
  obtain ⟨b, _, rfl⟩ := List.mem_map.mp hx
  have := b.toNat_lt
  omega
theorem parts_back (c : Int) (s : ByteArray) : ∀ p, p ∈ splitL c (bytesOf s) → bytesOf (strOfNums p) = p := fun p hp => bytes_back p (splitL_mem c _ _ (bytes_range s) p hp)
def ElemsTo (P : List Int → Bool) (l : List ByteArray) (i : Nat) : Prop := ∀ j v, j < i → l[j]? = some v → P (bytesOf v) = true
theorem ElemsTo.next {P : List Int → Bool} {l : List ByteArray} {i : Nat} (h : ElemsTo P l i) {v : ByteArray} (hv : l[i]? = some v) (hP : P (bytesOf v) = true) : ElemsTo P l (i + 1) := by
  intro j u hj hu
  by_cases e : j = i
  · subst e; rw [hv] at hu; rw [← Option.some.inj hu]; exact hP
  · exact h j u (by omega) hu
theorem ElemsTo.all {P : List Int → Bool} {s : ByteArray} {c : Int} {n : Nat} (hn : n = ((splitL c (bytesOf s)).map strOfNums).length) (h : ElemsTo P ((splitL c (bytesOf s)).map strOfNums) n) : (splitL c (bytesOf s)).all P = true := by
  rw [List.all_eq_true]
  intro p hp
  obtain ⟨j, hj⟩ := List.mem_iff_getElem?.mp hp
  have hlt : j < n := by
    rw [hn, List.length_map]
    exact (List.getElem?_eq_some_iff.mp hj).1
  have := h j (strOfNums p) hlt (by rw [List.getElem?_map, hj]; rfl)
  rw [parts_back c s p hp] at this
  exact this
theorem elem_empty {v : ByteArray} (h : v.size = 0) : elemOk (bytesOf v) = false := by rw [empty_bytes h]; rfl
theorem elem_dig {v : ByteArray} (h0 : 0 < v.size) (h : 48 ≤ bt v 0 ∧ bt v 0 ≤ 57) : elemOk (bytesOf v) = false := by
  obtain ⟨t, e⟩ := head_bytes v h0
  unfold elemOk; rw [e]; simp [dig, h]
theorem elem_bad {v : ByteArray} (h : (bytesOf v).all mc = false) : elemOk (bytesOf v) = false := by
  unfold elemOk; rw [h]; simp
theorem elem_good {v : ByteArray} (h0 : 0 < v.size) (h : ¬ (48 ≤ bt v 0 ∧ bt v 0 ≤ 57)) (hm : (bytesOf v).all mc = true) : elemOk (bytesOf v) = true := by
  obtain ⟨t, e⟩ := head_bytes v h0
  unfold elemOk; rw [hm, e]; simp [dig]; omega
set_option maxRecDepth 100000 in
set_option maxHeartbeats 4000000 in
theorem IsInterface.calls (s : ByteArray) (r : Bool) (w : World) (h : IsInterface.f s = some r) :
    Calls Tryz.prog 97 #[.string s] w fun e w' => e = .returned (.bool r) ∧ Below w.heap.size w w' := by
  unfold IsInterface.f at h
  by_cases hs : s.size ≤ 1099511627776
  case neg => rw [if_neg hs] at h; cases h
  rw [if_pos hs] at h
  have hr := Option.some.inj h
  clear h
  by_cases h0 : s.size = 0
  · rw [iface_empty h0] at hr
    subst hr
    have c0 : ((s.size : Int) == 0) = true := by rw [beq_iff_eq]; omega
    clear h0 hs
    go_enter Tryz.func97, Tryz.ntmps97
    go_wp2
    go_ret
    exact ⟨rfl, Below.refl _ _⟩
  have c0 : ((s.size : Int) == 0) = false := by rw [beq_eq_false_iff_ne]; omega
  by_cases h1 : 255 < s.size
  · rw [iface_long h1] at hr
    subst hr
    have c1 : decide (255 < (s.size : Int)) = true := decide_eq_true (by omega)
    have c2 : decide (255 < s.size) = true := decide_eq_true h1
    clear h0 h1 hs
    go_enter Tryz.func97, Tryz.ntmps97
    go_wp2
    go_ret
    exact ⟨rfl, Below.refl _ _⟩
  have c1 : decide (255 < (s.size : Int)) = false := decide_eq_false (by omega)
  have c2 : decide (255 < s.size) = false := decide_eq_false h1
  have hpos : 0 < s.size := by omega
  have hx6 : ∀ h : 0 < s.size, ((s[0]'h).toNat : Int) = bt s 0 := bt_at s 0
  have q6 := eq_true hpos
  have qi6 : (0 < (s.size : Int)) = True := eq_true (by omega)
  by_cases hdot : bt s 0 = 46
  · rw [iface_dot hpos hdot] at hr
    subst hr
    have c3 : (bt s 0 == 46) = true := by rw [beq_iff_eq]; exact hdot
    clear h0 h1 hs hdot hpos
    go_enter Tryz.func97, Tryz.ntmps97
    go_wp2
    go_ret
    exact ⟨rfl, Below.refl _ _⟩
  have c3 : (bt s 0 == 46) = false := by rw [beq_eq_false_iff_ne]; exact hdot
  obtain ⟨k, hk⟩ := Ev.rounds (split_f s 46 hs)
  have HK := Aside0.mk hk
  have HR := Aside0.mk hr
  have HS := Aside0.mk (show s.size ≤ 255 by omega)
  clear hk hr h0 h1 hdot hpos hs
  obtain ⟨l, hl⟩ : ∃ l, (splitL ((46 : UInt8).toNat : Int) (bytesOf s)).map strOfNums = l := ⟨_, rfl⟩
  rw [hl] at HK
  have HL := Aside0.mk hl
  clear hl
  by_cases hfew : l.length < 2
  · have hf : okIface (bytesOf s) = false := iface_few (by have := HL.out; rw [← this, List.length_map] at hfew; exact hfew)
    rw [HR.out] at hf
    subst hf
    have c4 : decide ((l.length : Int) < 2) = true := decide_eq_true (by omega)
    have c5 : decide (l.length < 2) = true := decide_eq_true hfew
    clear hfew
    go_enter Tryz.func97, Tryz.ntmps97
    go_wp2_with (go_at_call 85; refine (dbus_zzSplit.calls k s _ _ _ HK.out).mono ?_; rintro e w1 ⟨v, rfl, ho, hb⟩; obtain ⟨A, c, eo⟩ := Kd.R_slice ho; subst eo)
    go_ret
    exact ⟨rfl, hb⟩
  have c4 : decide ((l.length : Int) < 2) = false := decide_eq_false (by omega)
  have c5 : decide (l.length < 2) = false := decide_eq_false hfew
  have HF := Aside0.mk hfew
  clear hfew
  have hlen : l.length ≤ 256 := by
    have := splitL_len ((46 : UInt8).toNat : Int) (bytesOf s)
    rw [← HL.out, List.length_map]
    rw [bytesOf_length] at this
    have := HS.out
    omega
  go_enter Tryz.func97, Tryz.ntmps97
  go_wp2_with (go_at_call 85; refine (dbus_zzSplit.calls k s _ _ _ HK.out).mono ?_; rintro e w1 ⟨v, rfl, ho, hb⟩; obtain ⟨A, c, eo⟩ := Kd.R_slice ho; subst eo; have HO := Aside0.mk ho; have HB := Aside0.mk hb; clear ho hb)
  go_loopw [28] (fun v28 w' => ∃ i : Nat, v28 = .int .i64 (i : Int) ∧ i ≤ l.length ∧ Aside0 (ElemsTo elemOk l i) ∧ Aside0 (Kd.R Kd.string 9 w' w.heap.size (fun _ => True) (.slice A l.length c) l) ∧ Aside0 (Below w.heap.size w w')) (fun v28 _ => l.length - (intOf v28).toNat)
  case atStart => exact ⟨0, rfl, by omega, Aside0.mk (fun j v hj _ => by omega), HO, HB⟩
  case round =>
    obtain ⟨i, rfl, hi, hel, hO, hB⟩ := hrel
    by_cases hlt : i < l.length
    · have hp1 : (0 : Int) ≤ (i : Int) := by omega
      have hp2 : (i : Int) < (l.length : Int) := by omega
      obtain ⟨ad, e, hcell⟩ := Kd.at_string (Kd.R_reads' hO.out).2.2 (i : Int) hp1 hp2
      cases e
      have c6 : decide ((i : Int) < (l.length : Int)) = true := decide_eq_true hp2
      obtain ⟨v, hv⟩ : ∃ v, l[i]? = some v := ⟨l[i], List.getElem?_eq_getElem hlt⟩
      have hrd : rdOf ByteArray.empty l (i : Int) = v := by
        unfold rdOf; rw [Int.toNat_natCast, List.getD_eq_getElem?_getD, hv]; rfl
      rw [hrd, Int.toNat_natCast] at hcell
      have HV := Aside0.mk hv
      clear hv hrd c0 c1 c2 hx6 q6 qi6 c3 c4 c5
      obtain ⟨wo, rfl⟩ : ∃ wo : World, wo = wr := ⟨_, rfl⟩
      have hbad : elemOk (bytesOf v) = false → r = false := by
        intro he
        have e := HL.out
        have h2 := HV.out
        rw [← e] at h2
        have := iface_elem h2 (parts_back 46 s) he
        rw [HR.out] at this
        exact this
      have HBAD := Aside0.mk hbad
      clear hbad
      by_cases v0 : v.size = 0
      · have hr := HBAD.out (elem_empty v0)
        subst hr
        have d0 : ((v.size : Int) == 0) = true := by rw [beq_iff_eq]; omega
        clear v0
        go_wp2
        go_ret
        exact ⟨rfl, hB.out⟩
      have d0 : ((v.size : Int) == 0) = false := by rw [beq_eq_false_iff_ne]; omega
      have hpos : 0 < v.size := by omega
      have hx6 : ∀ h : 0 < v.size, ((v[0]'h).toNat : Int) = bt v 0 := bt_at v 0
      have q6 := eq_true hpos
      have qi6 : (0 < (v.size : Int)) = True := eq_true (by omega)
      by_cases hd : 48 ≤ bt v 0 ∧ bt v 0 ≤ 57
      · have hr := HBAD.out (elem_dig hpos hd)
        subst hr
        have d1 : decide (48 ≤ bt v 0) = true := decide_eq_true hd.1
        have d2 : decide (bt v 0 ≤ 57) = true := decide_eq_true hd.2
        clear hd v0 hpos
        go_wp2
        go_ret
        exact ⟨rfl, hB.out⟩
      have hgood := fun hm => elem_good hpos hd hm
      have HG := Aside0.mk hgood
      clear hgood
      have two : (decide (48 ≤ bt v 0) = true ∧ decide (bt v 0 ≤ 57) = false) ∨ decide (48 ≤ bt v 0) = false := by
        by_cases z : 48 ≤ bt v 0
        · exact .inl ⟨decide_eq_true z, decide_eq_false (by omega)⟩
        · exact .inr (decide_eq_false z)
      have hBs := hB.out.size
      clear hd v0 hpos
      rcases two with ⟨d1, d2⟩ | d1
      all_goals
        go_wp2
        go_loopw [7] (fun _ w' => ∃ m pos : Nat, w' = (wo.drewN m).iter v pos ∧ pos ≤ v.size ∧ Aside0 (McTo v pos)) (fun _ w' => v.size - w'.iterPos wo.heap.size)
        case atStart => exact ⟨0, 0, rfl, by omega, Aside0.mk (fun j hj _ => by omega)⟩
        case round =>
          obtain ⟨m, pos, rfl, hpos, hm⟩ := hrel
          by_cases hp : pos < v.size
          · have hnx : ∀ ty, (Instr.next (.pointer (some ⟨wo.heap.size, 0, none⟩)) true ty).run Tryz.prog ((wo.drewN m).iter v pos) = _ := fun ty => run_next_any (wo.drewN m) v pos ty hp
            cases hmc : mc ((Utf8.decode v pos).1 : Int) with
            | true =>
              obtain ⟨hr1, hr2⟩ := rune_yes hp hmc
              have hmn := Aside0.mk (hm.out.next hp hmc)
              have hw : pos + (Utf8.decode v pos).2 ≤ v.size := by omega
              have hw2 : pos < pos + (Utf8.decode v pos).2 := by omega
              clear hr1 hr2
              go_wp2_with (go_at_call 86; refine (dbus_isMemberChar.calls _ _ _ (mc_f _)).mono ?_; rintro e w2 ⟨rfl, hd⟩)
              obtain ⟨m', rfl⟩ := iter_drawn hd
              go_roundw
              case rel => exact ⟨m', _, rfl, hw, hmn⟩
              case measure =>
                have e1 := World.iterPos_iter (wo.drewN m') v (pos + (Utf8.decode v pos).2)
                have e2 := World.iterPos_iter (wo.drewN m) v pos
                have e3 : (wo.drewN m').heap.size = wo.heap.size := rfl
                have e4 : (wo.drewN m).heap.size = wo.heap.size := rfl
                rw [e3] at e1
                rw [e4] at e2
                rw [e1, e2]
                omega
            | false =>
              have hr := HBAD.out (elem_bad (not_all pos hp (rune_no hp hmc)))
              subst hr
              go_wp2_with (go_at_call 86; refine (dbus_isMemberChar.calls _ _ _ (mc_f _)).mono ?_; rintro e w2 ⟨rfl, hd⟩)
              go_ret
              exact ⟨rfl, below_drawn (below_it (pw_below_drewN hB.out m) hBs _ _) hd⟩
          · obtain rfl : pos = v.size := by omega
            have hnx : ∀ ty, (Instr.next (.pointer (some ⟨wo.heap.size, 0, none⟩)) true ty).run Tryz.prog ((wo.drewN m).iter v v.size) = _ := fun ty => run_next_end (wo.drewN m) v v.size ty hp
            have hg := HG.out hm.out.all
            have hnext := Aside0.mk (hel.out.next HV.out hg)
            clear hg
            go_wp2
            go_roundw
            case rel => exact ⟨i + 1, by go_num, by omega, hnext, Aside0.mk (Kd.R_alloc (Kd.R_drewN hO.out m) _), Aside0.mk (below_it (pw_below_drewN hB.out m) hBs _ _)⟩
            case measure => simp [intOf]; omega
    · obtain rfl : i = l.length := by omega
      have c6 : decide ((l.length : Int) < (l.length : Int)) = false := decide_eq_false (by omega)
      have hg : okIface (bytesOf s) = true := by
        have e := HL.out
        have hn : l.length = ((splitL 46 (bytesOf s)).map strOfNums).length := by rw [← e]; rfl
        have h2 : ElemsTo elemOk ((splitL 46 (bytesOf s)).map strOfNums) l.length := by have := hel.out; rw [← e] at this ⊢; exact this
        exact iface_good HS.out (by have := HF.out; rw [hn, List.length_map] at this; omega) (ElemsTo.all hn h2)
      rw [HR.out] at hg
      subst hg
      go_wp2
      go_ret
      exact ⟨rfl, hB.out⟩
end Go.Proofs.YtldjigfnagfalaaGreatDoor.Given
end
