/- A type within arrays and brackets: the plain law. -/
import Derived.Test.YthkblpbabcibcaaPSgx7
import Derived.Test.YthkblpbabcibcaaSgT2
namespace Go.Proofs.Ythkblpbabcibcaa.Pure
open Go.RowKit Go.Proofs.Ythkblpbabcibcaa.PSg Go.Proofs.YthkblpbabcibcaaW.PrintWords Go.Proofs.YthkblpbabcibcaaW.PrintLast Go.Proofs.Ythkblpbabcibcaa.SgT Go.Proofs.Ythkblpbabcibcaa.Pl Go.Proofs.Ythkblpbabcibcaa.By

/-! ### a type in arrays, these in brackets -/
def arrs : Nat → Tr → Tr
  | 0, x => x
  | n + 1, x => .arr (arrs n x)
def strs : Nat → Tr → Tr
  | 0, x => x
  | n + 1, x => .str (.cons (strs n x) .nil)

theorem arrs_wf {x : Tr} (h : wf x true) : ∀ n, wf (arrs n x) true := by
  intro n
  induction n with
  | zero => exact h
  | succ n ih => exact ⟨rfl, ih⟩
theorem strs_wf {x : Tr} (h : wf x true) : ∀ n, wf (strs n x) true := by
  intro n
  induction n with
  | zero => exact h
  | succ n ih =>
    refine ⟨rfl, ?_, rfl, ih, rfl⟩
    intro e
    have := word_len ih
    rw [word] at e
    have := congrArg List.length e
    rw [List.length_append, List.length_nil] at this
    omega
theorem arrs_word (x : Tr) : ∀ n, word (arrs n x) = List.replicate n 97 ++ word x := by
  intro n
  induction n with
  | zero => rfl
  | succ n ih => rw [arrs, word, ih, List.replicate_succ]; rfl
theorem strs_word (x : Tr) : ∀ n, word (strs n x) = List.replicate n 40 ++ word x ++ List.replicate n 41 := by
  intro n
  induction n with
  | zero => simp [strs]
  | succ n ih =>
    rw [strs, word, word, word, ih, List.replicate_succ, List.append_nil, List.cons_append, List.cons_append, List.append_assoc (List.replicate n 40 ++ word x)]
    congr 2
    rw [← List.replicate_succ', List.replicate_succ]

theorem ok_mono {a t d a' t' d' : Int} (h : ok a' t' d' = true) (h1 : a ≤ a') (h2 : t ≤ t') (h3 : d ≤ d') : ok a t d = true := by
  unfold ok at h ⊢
  simp only [Bool.and_eq_true, decide_eq_true_eq] at h ⊢
  omega

theorem arrs_fits {x : Tr} (hx : wf x true) : ∀ (n : Nat) (a t d : Int), fits (arrs n x) a t d = fits x (a + n) t d := by
  intro n
  induction n with
  | zero => intro a t d; simp [arrs]
  | succ n ih =>
    intro a t d
    rw [arrs, fits, ih, show a + 1 + (n : Int) = a + ((n + 1 : Nat) : Int) by omega]
    cases hf : fits x (a + ((n + 1 : Nat) : Int)) t d with
    | false => simp
    | true => rw [ok_mono (fits_ok hx hf) (by omega) (by omega) (by omega)]; rfl
theorem strs_fits {x : Tr} (hx : wf x true) : ∀ (n : Nat) (a t d : Int), fits (strs n x) a t d = fits x a (t + n) d := by
  intro n
  induction n with
  | zero => intro a t d; simp [strs]
  | succ n ih =>
    intro a t d
    rw [strs, fits, fits, fits, ih, Bool.and_true, show t + 1 + (n : Int) = t + ((n + 1 : Nat) : Int) by omega]
    cases hf : fits x a (t + ((n + 1 : Nat) : Int)) d with
    | false => simp
    | true => rw [ok_mono (fits_ok hx hf) (by omega) (by omega) (by omega)]; rfl

theorem repeat_loop (c : UInt8) : ∀ (n : Nat) (acc : ByteArray), n ≤ 1000 → acc.size + n ≤ 1000000 → ∃ J, bytesOf J = bytesOf acc ++ List.replicate n (c.toNat : Int) ∧ Ev (fun k => laws_sgRepeat.l0 k (⟨#[c]⟩ : ByteArray) (n : Int) acc) J := by
  intro n
  induction n with
  | zero =>
    intro acc _ _
    refine ⟨acc, by simp, Ev_up ?_⟩
    simp only [laws_sgRepeat.l0, if_neg (show ¬ (((0 : Nat) : Int) > 0) by decide)]
    exact Ev.now _
  | succ n ih =>
    intro acc hn ha
    have z : (⟨#[c]⟩ : ByteArray).size = 1 := rfl
    have z2 : (acc ++ (⟨#[c]⟩ : ByteArray)).size = acc.size + 1 := by rw [ByteArray.size_append, z]
    obtain ⟨J, hJ, hE⟩ := ih (acc ++ ⟨#[c]⟩) (by omega) (by omega)
    refine ⟨J, ?_, Ev_up ?_⟩
    · rw [hJ, bytesOf_append, List.append_assoc, List.replicate_succ]; rfl
    · have w1 : wrap64 (((n + 1 : Nat) : Int) - 1) = (n : Int) := by rw [w64 (by omega) (by omega)]; omega
      simp only [laws_sgRepeat.l0, if_pos (show (((n + 1 : Nat) : Int) > 0) by omega), if_pos (show acc.size + (⟨#[c]⟩ : ByteArray).size ≤ 9223372036854775807 by omega), w1]
      exact hE
theorem repeat_all (c : UInt8) (n : Nat) (hn : n ≤ 1000) : ∃ J, bytesOf J = List.replicate n (c.toNat : Int) ∧ Ev (fun k => laws_sgRepeat.f k (⟨#[c]⟩ : ByteArray) (n : Int)) J := by
  obtain ⟨J, hJ, hE⟩ := repeat_loop c n ⟨#[]⟩ hn (by show 0 + n ≤ 1000000; omega)
  exact ⟨J, by rw [hJ]; rfl, hE⟩

theorem within_rest (s : ByteArray) (a b : Nat) (ha : a ≤ 40) (hb : b ≤ 40) (hs : s.size ≤ 200) (x : Tr) (hx : SgT.Good x) (e : bytesOf s = word x) : Ev (fun k => laws_FnSgWithin.j0 k s (a : Int) (b : Int) false) true := by
  refine Ev_up ?_
  simp only [laws_FnSgWithin.j0, if_neg (show ¬ (false = true) by decide), w64 (x := (a : Int)) (by omega) (by omega), w64 (x := (b : Int)) (by omega) (by omega), w64 (x := 32 - (a : Int)) (by omega) (by omega), w64 (x := 32 - (b : Int)) (by omega) (by omega)]
  obtain ⟨J1, h1, E1⟩ := repeat_all 40 b (by omega)
  obtain ⟨J2, h2, E2⟩ := repeat_all 97 a (by omega)
  obtain ⟨J3, h3, E3⟩ := repeat_all 41 b (by omega)
  have s1 : J1.size = b := by rw [← bytesOf_length, h1, List.length_replicate]
  have s2 : J2.size = a := by rw [← bytesOf_length, h2, List.length_replicate]
  have s3 : J3.size = b := by rw [← bytesOf_length, h3, List.length_replicate]
  have s12 : (J1 ++ J2).size = b + a := by rw [ByteArray.size_append, s1, s2]
  have s123 : (J1 ++ J2 ++ s).size = b + a + s.size := by rw [ByteArray.size_append, s12]
  have s1234 : (J1 ++ J2 ++ s ++ J3).size = b + a + s.size + b := by rw [ByteArray.size_append, s123, s3]
  refine Ev.bind E1 ?_
  refine Ev.bind E2 ?_
  simp only [if_pos (show J1.size + J2.size ≤ 9223372036854775807 by omega), if_pos (show (J1 ++ J2).size + s.size ≤ 9223372036854775807 by omega)]
  refine Ev.bind E3 ?_
  simp only [if_pos (show (J1 ++ J2 ++ s).size + J3.size ≤ 9223372036854775807 by omega)]
  by_cases hlen : ((J1.size : Int) + (J2.size : Int) + (s.size : Int) + (J3.size : Int)) > 255
  · simp only [if_pos hlen]; exact Ev.now _
  simp only [if_neg hlen]
  have hlx : (word x).length = s.size := by rw [← e, bytesOf_length]
  have hw := word_len hx.1
  have hwhole : bytesOf (J1 ++ J2 ++ s ++ J3) = word (.cons (strs b (arrs a x)) .nil) := by
    rw [bytesOf_append, bytesOf_append, bytesOf_append, h1, h2, h3, e, word, strs_word, arrs_word]
    simp [word]
  have hwf : wf (.cons (strs b (arrs a x)) .nil) false := ⟨rfl, strs_wf (arrs_wf hx.1 a) b, rfl⟩
  have hp := psOk_words hwf hwhole
  rw [decide_eq_true (show (J1 ++ J2 ++ s ++ J3).size ≤ 255 by omega), Bool.true_and, fits, fits, Bool.and_true, strs_fits (arrs_wf hx.1 a), arrs_fits hx.1, Int.zero_add, Int.zero_add] at hp
  have hc := complete_all (s.size + 1) s (32 - (a : Int)) (32 - (b : Int)) 32 (by omega) (by omega) (by omega) (by omega) (by omega) (by omega) (by omega) (by omega)
  have hcw := (cmpL_word x).1 hx.1 (s.size + 1) [] (32 - (a : Int)) (32 - (b : Int)) 32 (by omega)
  rw [List.append_nil, ← e, show 32 - (32 - (a : Int)) = (a : Int) by omega, show 32 - (32 - (b : Int)) = (b : Int) by omega, show (32 : Int) - 32 = 0 from rfl] at hcw
  have hbeg := begin_word hx.1 (rest := []) (by rw [List.append_nil]; exact e) (show s.size ≤ 255 by omega) (a := (a : Int)) (t := (b : Int)) (d := 0) (by omega) (by omega) (by omega)
  have hy := parse_lone 121 (by decide)
  rw [hbeg, hy, Given.SgParse.f, hp]
  have z0 : ((⟨#[]⟩ : ByteArray).toList = ([] : List UInt8)) := Pl.toList_nil.mpr rfl
  refine Ev.bind hc ?_
  rw [hcw]
  cases hF : fits x (a : Int) (b : Int) 0 with
  | true =>
    have q1 : (((bytesOf s).length : Int) == (s.size : Int)) = true := by rw [bytesOf_length, beq_iff_eq]
    simp only [Option.bind_some, if_true, q1, beq_self_eq_true]
    rw [if_pos (show (strOfNums []).toList = ([] : List UInt8) from z0)]
    exact Ev.now _
  | false =>
    have q1 : (((0 : Nat) : Int) == (s.size : Int)) = false := by rw [beq_eq_false_iff_ne]; omega
    simp only [Option.bind_some, if_true, if_neg (show ¬ (false = true) by decide), q1, beq_self_eq_true]
    exact Ev.now _

theorem FnSgWithin : laws_FnSgWithin.Pure := by
  intro s a b hs ha hb
  have ra := u8_range ha
  have rb := u8_range hb
  refine Ev.rounds ?_
  have yes : Ev (fun k => laws_FnSgWithin.j0 k s a b true) true := by
    refine Ev_up ?_
    simp only [laws_FnSgWithin.j0, if_true]; exact Ev.now _
  unfold laws_FnSgWithin.f
  split
  · exact Ev.now _
  split
  · exact yes
  obtain ⟨R, hR, hx⟩ := types_all s
  unfold spec_Single.f
  by_cases h2 : R.2 = true
  case neg =>
    refine Ev.bind (a := false) (Ev.bind hR ?_) ?_
    · simp only [if_neg h2]; exact Ev.now _
    · simp only [if_neg (show ¬ (false = true) by decide)]; exact yes
  obtain ⟨hs2, xs, hg, e, eR⟩ := hx h2
  refine Ev.bind (a := ((R.1.length : Int) == 1)) (Ev.bind hR ?_) ?_
  · simp only [if_pos h2]; exact Ev.now _
  by_cases h1 : ((R.1.length : Int) == 1) = true
  case neg => simp only [if_neg h1]; exact yes
  simp only [if_pos h1]
  have hl1 : xs.length = 1 := by
    rw [beq_iff_eq, eR, texts, List.length_map] at h1; omega
  obtain ⟨x, rfl⟩ := List.length_eq_one_iff.mp hl1
  have e' : bytesOf s = word x := by rw [e]; simp [words]
  by_cases h40 : a > 40
  · simp only [if_pos h40]; exact yes
  simp only [if_neg h40]
  by_cases hb40 : b > 40
  · simp only [decide_eq_true hb40]; exact yes
  simp only [decide_eq_false hb40]
  obtain ⟨a, rfl⟩ : ∃ n : Nat, a = n := ⟨a.toNat, by omega⟩
  obtain ⟨b, rfl⟩ : ∃ n : Nat, b = n := ⟨b.toNat, by omega⟩
  exact within_rest s a b (by omega) (by omega) (by omega) x (hg x (by simp)) e'
end Go.Proofs.Ythkblpbabcibcaa.Pure
