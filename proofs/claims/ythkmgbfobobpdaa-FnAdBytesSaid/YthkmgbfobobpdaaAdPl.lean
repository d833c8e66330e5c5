import Derived.Test.YthkmgbfobobpdaaGvAd
import Derived.Test.YthkmgbfobobpdaaEscPl
import Derived.Laws.BitsLemmas
namespace Go.Proofs.Ythkmgbfobobpdaa.AdPl
open Go.RowKit Go.Proofs.YthkmgbfobobpdaaW.PrintWords Go.Proofs.Ythkmgbfobobpdaa.PUn Go.Proofs.Ythkmgbfobobpdaa.Pl Go.Proofs.Ythkmgbfobobpdaa.Given

/-- The value of a hexadecimal digit. -/
def hv (c : Int) : Option Int :=
  if 48 ≤ c ∧ c ≤ 57 then some (c - 48) else if 97 ≤ c ∧ c ≤ 102 then some (c - 87) else if 65 ≤ c ∧ c ≤ 70 then some (c - 55) else none
/-- Behind '%': two digits, and what follows. -/
def unPair (go : List Int → Option (List Int)) : List Int → Option (List Int)
  | a :: b :: u => (match hv a, hv b with
    | some x, some y => (go u).map fun r => (x * 16 + y) :: r
    | _, _ => none)
  | _ => none
/-- Bytes, read as an escaped text. -/
def unL : Nat → List Int → Option (List Int)
  | 0, _ => some []
  | _ + 1, [] => some []
  | d + 1, c :: t => if c = 37 then unPair (unL d) t else (unL d t).map fun r => c :: r
theorem unL_cons (d : Nat) (c : Int) (t : List Int) : unL (d + 1) (c :: t) = if c = 37 then unPair (unL d) t else (unL d t).map fun r => c :: r := rfl

theorem hv_range {c v : Int} (h : hv c = some v) : 0 ≤ v ∧ v ≤ 15 := by
  unfold hv at h
  split at h
  · have := Option.some.inj h; omega
  split at h
  · have := Option.some.inj h; omega
  split at h
  · have := Option.some.inj h; omega
  · cases h

theorem hex_digit (k : Nat) (c : Int) : dbus_zzHexDigit.f (k + 2) c = some ((hv c).getD 0, (hv c).isSome) := by
  have ite_ff : ∀ {α : Type} (a b : α), (if false = true then a else b) = b := fun a b => rfl
  unfold dbus_zzHexDigit.f hv
  by_cases h1 : 48 ≤ c
  · rw [if_pos h1]
    by_cases h2 : c ≤ 57
    · rw [decide_eq_true h2, if_pos ⟨h1, h2⟩]
      simp only [dbus_zzHexDigit.j0, if_true, Option.getD_some, Option.isSome_some]
      rw [Int.emod_eq_of_lt (by omega) (by omega)]
    · rw [decide_eq_false h2, if_neg (by omega)]
      simp only [dbus_zzHexDigit.j0, ite_ff]
      by_cases h3 : 97 ≤ c
      · rw [if_pos h3]
        by_cases h4 : c ≤ 102
        · rw [decide_eq_true h4, if_pos ⟨h3, h4⟩]
          simp only [dbus_zzHexDigit.j1, if_true, Option.getD_some, Option.isSome_some]
          congr 2; omega
        · rw [decide_eq_false h4, if_neg (by omega), if_neg (by omega)]
          simp only [dbus_zzHexDigit.j1, ite_ff]
          rw [if_pos (by omega), if_neg (by omega)]; rfl
      · rw [if_neg h3, if_neg (by omega)]
        simp only [dbus_zzHexDigit.j1, ite_ff]
        by_cases h5 : 65 ≤ c
        · rw [if_pos h5]
          by_cases h6 : c ≤ 70
          · rw [if_pos h6, if_pos ⟨h5, h6⟩]
            simp only [Option.getD_some, Option.isSome_some]
            congr 2; omega
          · rw [if_neg h6, if_neg (by omega)]; rfl
        · rw [if_neg h5, if_neg (by omega)]; rfl
  · rw [if_neg h1, if_neg (by omega), if_neg (by omega), if_neg (by omega)]
    simp only [dbus_zzHexDigit.j0, ite_ff, dbus_zzHexDigit.j1]
    rw [if_neg (by omega), if_neg (by omega)]; rfl

theorem or_nibbles (a b : Int) (ha : 0 ≤ a ∧ a ≤ 15) (hb : 0 ≤ b ∧ b ≤ 15) : Go.bits .or .u8 ((a * 16) % 256) b = a * 16 + b := by
  rw [Int.emod_eq_of_lt (by omega) (by omega)]
  exact bits_join .u8 8 (by decide) wraps_u8 4 (a * 16) b (by omega) (by omega) (by omega) hb.1 (by omega) (by omega)

/-- What the reader answers, from place i on, with so much read. -/
def answer (acc : List Int) : Option (List Int) → ByteArray × Option Int
  | some r => (strOfNums (acc ++ r), none)
  | none => (⟨#[]⟩, some 0)

theorem drop_bytes (s : ByteArray) (i : Nat) (h : i < s.size) : (bytesOf s).drop i = bt s (i : Int) :: (bytesOf s).drop (i + 1) := by
  have hl : i < (bytesOf s).length := by rw [bytesOf_length]; exact h
  rw [List.drop_eq_getElem_cons hl]
  have := rd_bytesOf s (i : Int)
  simp only [rd, Int.toNat_natCast, List.getD_eq_getElem?_getD, List.getElem?_eq_getElem hl, Option.getD_some] at this
  rw [this]

theorem un_go (s : ByteArray) (hs : s.size ≤ 1099511627776) : ∀ (d i : Nat) (acc : List Int), i ≤ s.size → s.size - i ≤ d → acc.length ≤ i →
    Ev (fun k => dbus_zzPathUnescape.l0 k s acc (i : Int)) (answer acc (unL d ((bytesOf s).drop i))) := by
  intro d
  induction d using Nat.strongRecOn with
  | _ d ih =>
    intro i acc hi hd hacc
    by_cases hlt : i < s.size
    · obtain ⟨d, rfl⟩ : ∃ e, d = e + 1 := ⟨d - 1, by omega⟩
      have hlt' : (i : Int) < (s.size : Int) := by omega
      have h0 : (0 : Int) ≤ (i : Int) := by omega
      have hle : acc.length < 140737488355328 := by omega
      have e1 : wrap64 ((i : Int) + 1) = ((i + 1 : Nat) : Int) := by rw [w64 (by omega) (by omega)]; omega
      have e2 : wrap64 ((i : Int) + 2) = ((i + 2 : Nat) : Int) := by rw [w64 (by omega) (by omega)]; omega
      have e3 : wrap64 (((i + 2 : Nat) : Int) + 1) = ((i + 3 : Nat) : Int) := by rw [w64 (by omega) (by omega)]; omega
      rw [drop_bytes s i hlt, unL_cons]
      refine Ev_up ?_
      simp only [dbus_zzPathUnescape.l0, if_pos hlt', if_pos h0, e1, e2, e3, errNew.f, Option.bind_some]
      by_cases hc : bt s (i : Int) = 37
      · simp only [if_pos hc]
        by_cases h2 : ((i + 2 : Nat) : Int) ≥ (s.size : Int)
        · simp only [if_pos h2]
          by_cases h3 : i + 1 < s.size
          · rw [drop_bytes s (i + 1) h3, List.drop_eq_nil_of_le (by rw [bytesOf_length]; omega)]
            exact Ev.now _
          · rw [List.drop_eq_nil_of_le (by rw [bytesOf_length]; omega)]
            exact Ev.now _
        · have h1' : ((i + 1 : Nat) : Int) < (s.size : Int) := by omega
          have h2' : ((i + 2 : Nat) : Int) < (s.size : Int) := by omega
          simp only [if_neg h2, if_pos h1', if_pos h2', if_pos (show (0 : Int) ≤ ((i + 1 : Nat) : Int) by omega), if_pos (show (0 : Int) ≤ ((i + 2 : Nat) : Int) by omega)]
          rw [drop_bytes s (i + 1) (by omega), drop_bytes s (i + 1 + 1) (by omega)]
          refine Ev.bind (a := ((hv (bt s ((i + 1 : Nat) : Int))).getD 0, (hv (bt s ((i + 1 : Nat) : Int))).isSome)) (Ev_up (Ev_up (by simp only [hex_digit]; exact Ev.now _))) ?_
          refine Ev.bind (a := ((hv (bt s ((i + 2 : Nat) : Int))).getD 0, (hv (bt s ((i + 2 : Nat) : Int))).isSome)) (Ev_up (Ev_up (by simp only [hex_digit]; exact Ev.now _))) ?_
          have e12 : ((i + 1 + 1 : Nat) : Int) = ((i + 2 : Nat) : Int) := rfl
          simp only [unPair, e12]
          cases ha : hv (bt s ((i + 1 : Nat) : Int)) with
          | none => simp only [Option.isSome_none, if_neg (show ¬ (false = true) by decide)]; exact Ev.now _
          | some x =>
            cases hb : hv (bt s ((i + 2 : Nat) : Int)) with
            | none => simp only [Option.isSome_some, Option.isSome_none, if_true, if_neg (show ¬ (false = true) by decide)]; exact Ev.now _
            | some y =>
              have hx := hv_range ha
              have hy := hv_range hb
              simp only [Option.isSome_some, Option.getD_some, if_true, if_pos hle, or_nibbles x y hx hy]
              have := ih d (by omega) (i + 3) (acc ++ [x * 16 + y]) (by omega) (by omega) (by simp; omega)
              cases hu : unL d ((bytesOf s).drop (i + 3)) with
              | none => rw [hu] at this; exact this
              | some r => rw [hu] at this; simpa [answer] using this
      · simp only [if_neg hc, if_pos hle]
        have := ih d (by omega) (i + 1) (acc ++ [bt s (i : Int)]) (by omega) (by omega) (by simp; omega)
        cases hu : unL d ((bytesOf s).drop (i + 1)) with
        | none => rw [hu] at this; exact this
        | some r => rw [hu] at this; simpa [answer] using this
    · obtain rfl : i = s.size := by omega
      refine Ev_up ?_
      simp only [dbus_zzPathUnescape.l0, if_neg (show ¬ (s.size : Int) < (s.size : Int) by omega)]
      rw [List.drop_eq_nil_of_le (by rw [bytesOf_length]; exact Nat.le_refl _)]
      cases d with
      | zero => simp only [unL, answer, List.append_nil]; exact Ev.now _
      | succ d => simp only [unL, answer, List.append_nil]; exact Ev.now _

/-- More room changes nothing. -/
theorem unL_room : ∀ (d : Nat) (l : List Int), l.length ≤ d → unL d l = unL l.length l := by
  intro d
  induction d using Nat.strongRecOn with
  | _ d ih =>
    intro l hl
    cases l with
    | nil => cases d <;> rfl
    | cons c t =>
      obtain ⟨d, rfl⟩ : ∃ e, d = e + 1 := ⟨d - 1, by simp at hl; omega⟩
      simp only [List.length_cons] at hl ⊢
      rw [unL_cons, unL_cons]
      by_cases hc : c = 37
      · rw [if_pos hc, if_pos hc]
        match t with
        | [] => rfl
        | [a] => rfl
        | a :: b :: u =>
          simp only [List.length_cons] at hl
          cases ha : hv a with
          | none => simp only [unPair, ha]
          | some x =>
            cases hb : hv b with
            | none => simp only [unPair, ha, hb]
            | some y =>
              simp only [unPair, ha, hb]
              simp only [List.length_cons]
              rw [ih d (by omega) u (by omega), ih (u.length + 1 + 1) (by omega) u (by omega)]
      · rw [if_neg hc, if_neg hc, ih d (by omega) t (by omega)]

/-- Bytes read as an escaped text. -/
def un (l : List Int) : Option (List Int) := unL l.length l
theorem un_nil : un [] = some [] := rfl
theorem un_plain (c : Int) (t : List Int) (h : c ≠ 37) : un (c :: t) = (un t).map fun r => c :: r := by
  show unL (t.length + 1) (c :: t) = _
  rw [unL_cons, if_neg h]; rfl
theorem un_esc (a b x y : Int) (t : List Int) (ha : hv a = some x) (hb : hv b = some y) : un (37 :: a :: b :: t) = (un t).map fun r => (x * 16 + y) :: r := by
  show unL (t.length + 2 + 1) (37 :: a :: b :: t) = _
  rw [unL_cons, if_pos rfl]
  simp only [unPair, ha, hb]
  rw [unL_room _ t (by omega)]; rfl
theorem un_short1 : un [37] = none := rfl
theorem un_short2 (a : Int) : un [37, a] = none := rfl

theorem unescape (s : ByteArray) (hs : s.size ≤ 1099511627776) : Ev (fun k => AdUnescape.f k s) (match un (bytesOf s) with | some r => (strOfNums r, true) | none => (⟨#[]⟩, false)) := by
  unfold AdUnescape.f
  have h := un_go s hs s.size 0 [] (by omega) (by omega) (by simp)
  rw [List.drop_zero] at h
  have e : unL s.size (bytesOf s) = un (bytesOf s) := by unfold un; rw [bytesOf_length]
  rw [e] at h
  refine Ev.bind (a := answer [] (un (bytesOf s))) (by simpa [dbus_zzPathUnescape.f] using h) ?_
  cases un (bytesOf s) with
  | none => exact Ev.now _
  | some r => exact Ev.now _

/-! ### what is escaped is read back -/
def bytesL (l : List Int) : Prop := ∀ x, x ∈ l → 0 ≤ x ∧ x ≤ 255
theorem bytesOf_strOfNums (l : List Int) (h : bytesL l) : bytesOf (strOfNums l) = l := by
  unfold bytesOf strOfNums
  simp only [List.map_map]
  have : ∀ x, x ∈ l → ((fun b : UInt8 => (b.toNat : Int)) ∘ fun n : Int => UInt8.ofNat n.toNat) x = x := by
    intro x hx
    obtain ⟨h0, h1⟩ := h x hx
    simp only [Function.comp, UInt8.toNat_ofNat']
    omega
  exact (List.map_congr_left this).trans (List.map_id' l)
theorem bytesL_bytesOf (s : ByteArray) : bytesL (bytesOf s) := by
  intro x hx
  unfold bytesOf at hx
  obtain ⟨b, _, rfl⟩ := List.mem_map.mp hx
  have := b.toNat_lt
  omega
theorem hx_digits : ∀ v : Nat, v < 16 → hv (hx (v : Int)) = some (v : Int) ∧ 0 ≤ hx (v : Int) ∧ hx (v : Int) ≤ 255 := by decide
theorem hv_hx (v : Int) (h : 0 ≤ v ∧ v < 16) : hv (hx v) = some v ∧ 0 ≤ hx v ∧ hx v ≤ 255 := by
  obtain ⟨n, rfl⟩ : ∃ n : Nat, v = (n : Int) := ⟨v.toNat, by omega⟩
  exact hx_digits n (by omega)
theorem ne_pct : ne 37 = true := by decide
theorem un_esc1 (c : Int) (h : 0 ≤ c ∧ c ≤ 255) (t : List Int) : un (esc1 c ++ t) = (un t).map fun r => c :: r := by
  unfold esc1
  by_cases hn : ne c = true
  · rw [if_pos hn]
    have h1 := hv_hx (c / 16) (by omega)
    have h2 := hv_hx (c % 16) (by omega)
    show un (37 :: hx (c / 16) :: hx (c % 16) :: t) = _
    rw [un_esc _ _ _ _ t h1.1 h2.1, show c / 16 * 16 + c % 16 = c by omega]
  · rw [if_neg hn]
    exact un_plain c t (by rintro rfl; exact hn ne_pct)
theorem escB_bytes (s : ByteArray) : ∀ i, bytesL (escB s i) := by
  intro i
  induction i with
  | zero => intro x hx; cases hx
  | succ i ih =>
    intro x hx
    rw [escB, List.mem_append] at hx
    rcases hx with hx | hx
    · exact ih x hx
    · have hb := bt_range s (i : Int)
      unfold esc1 at hx
      split at hx
      · have h1 := hv_hx (bt s (i : Int) / 16) (by omega)
        have h2 := hv_hx (bt s (i : Int) % 16) (by omega)
        simp only [List.mem_cons, List.not_mem_nil, or_false] at hx
        rcases hx with rfl | rfl | rfl
        · omega
        · exact h1.2
        · exact h2.2
      · simp only [List.mem_cons, List.not_mem_nil, or_false] at hx
        subst hx; exact hb
theorem un_escB (s : ByteArray) (t : List Int) : ∀ i, i ≤ s.size → un (escB s i ++ t) = (un t).map fun r => (bytesOf s).take i ++ r := by
  intro i
  induction i generalizing t with
  | zero => intro _; cases h : un t <;> simp [escB, h]
  | succ i ih =>
    intro hi
    rw [escB, List.append_assoc, ih _ (by omega), un_esc1 _ (bt_range s (i : Int))]
    have e : (bytesOf s).take (i + 1) = (bytesOf s).take i ++ [bt s (i : Int)] := by
      have hl : i < (bytesOf s).length := by rw [bytesOf_length]; omega
      rw [List.take_add_one, List.getElem?_eq_getElem hl]
      have := rd_bytesOf s (i : Int)
      simp only [rd, Int.toNat_natCast, List.getD_eq_getElem?_getD, List.getElem?_eq_getElem hl, Option.getD_some] at this
      rw [this]; rfl
    cases un t with
    | none => rfl
    | some r => simp [e]
end Go.Proofs.Ythkmgbfobobpdaa.AdPl
