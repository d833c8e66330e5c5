/- The rule of some options and others is that of the ones, a comma, and that of the others: the walk. -/
import Derived.Test.YtdooimdefmegaaaGvRule
namespace Go.Proofs.Ytdooimdefmegaaa.Given
open Go.RowKit Go.Proofs.YtdooimdefmegaaaW.PrintWords Go.Proofs.Ytdooimdefmegaaa.PDr

theorem join_append (sep : List UInt8) : ∀ (xs ys : List (List UInt8)), xs ≠ [] → ys ≠ [] → Lib.join (xs ++ ys) sep = Lib.join xs sep ++ (sep ++ Lib.join ys sep) := by
  intro xs ys hx hy
  cases xs with
  | nil => exact absurd rfl hx
  | cons x r =>
    cases ys with
    | nil => exact absurd rfl hy
    | cons y q =>
      rw [List.cons_append, Lib.join_cons, Lib.join_cons, Lib.join_cons]
      unfold Lib.joinTail
      rw [List.map_append, List.flatten_append, List.map_cons, List.flatten_cons]
      simp
theorem rule_append (a b : List (ByteArray × ByteArray)) (ha : a ≠ []) (hb : b ≠ []) : rule (a ++ b) = (rule a ++ ⟨#[44]⟩) ++ rule b := by
  have e : ∀ x y : ByteArray, x.data.toList = y.data.toList → x = y := fun x y h => by
    cases x; cases y; simp at h; rw [h]
  apply e
  rw [ByteArray.data_append, Array.toList_append, ByteArray.data_append, Array.toList_append]
  unfold rule
  rw [List.map_append, List.map_append]
  rw [join_append _ _ _ (by simpa using ha) (by simpa using hb), List.append_assoc]
theorem rule_size (L : List (ByteArray × ByteArray)) (hl : L.length ≤ 40) (hs : Small L) : (rule L).size ≤ 100000 := by
  show (Lib.join ((L.map item).map (·.data.toList)) ([44] : List UInt8)).toArray.size ≤ 100000
  rw [List.size_toArray]
  cases L with
  | nil => simp [Lib.join_nil]
  | cons p r =>
    rw [List.map_cons, List.map_cons, Lib.join_length]
    have h2 := lens_le (((p :: r).map item).map (·.data.toList)) 603 (fun x hx => by
      simp only [List.map_map, List.mem_map, Function.comp] at hx
      obtain ⟨q, hq, rfl⟩ := hx
      have := hs q hq
      have e := item_size q
      show (item q).data.toList.length ≤ 603
      rw [Array.length_toList]
      show (item q).size ≤ 603
      omega)
    rw [List.length_map, List.length_map] at h2
    simp only [List.map_cons, List.length_map, List.length_cons, List.length_nil] at h2 hl ⊢
    omega

theorem reps_one {L : List (ByteArray × ByteArray)} {inner : List Value} (h : Reps PR 2 L inner) : ∀ u ∈ inner, u.oneCell' = true := by
  intro u hu
  obtain ⟨j, hj⟩ := List.getElem?_of_mem hu
  have hjl := (List.getElem?_eq_some_iff.1 hj).1
  have hl := h.1
  have hi : j / 2 < L.length := by omega
  have hp := h.2 (j / 2) _ (List.getElem?_eq_getElem hi)
  unfold PR at hp
  have e : inner[j]? = ((inner.drop (j / 2 * 2)).take 2)[j - j / 2 * 2]? := by
    rw [List.getElem?_take_of_lt (by omega), List.getElem?_drop]; congr 1; omega
  rw [e, hp] at hj
  rcases (show j - j / 2 * 2 = 0 ∨ j - j / 2 * 2 = 1 by omega) with h0 | h0 <;> (rw [h0] at hj; cases hj; rfl)

theorem pairs_append {ps qs : List (ByteArray × ByteArray)} {cs ds : List Value} (h : Reps PR 2 ps cs) (h' : Reps PR 2 qs ds) : Reps PR 2 (ps ++ qs) (cs ++ ds) := by
  have hl := h.1
  have hl' := h'.1
  refine ⟨by simp only [List.length_append]; omega, fun j p hj => ?_⟩
  by_cases hjl : j < ps.length
  · rw [List.getElem?_append_left hjl] at hj
    have := h.2 j p hj
    rw [List.drop_append_of_le_length (by omega), List.take_append_of_le_length (by rw [List.length_drop]; omega)]
    exact this
  · rw [List.getElem?_append_right (by omega)] at hj
    have := h'.2 (j - ps.length) p hj
    rw [List.drop_append, List.drop_eq_nil_of_le (show cs.length ≤ j * 2 by omega), List.nil_append, show j * 2 - cs.length = (j - ps.length) * 2 by omega]
    exact this
theorem infoArr : (Try.prog.info? 26).map (fun i => (i.zero, i.size, i.bytes)) = some (some (.agg #[.string ⟨#[]⟩, .string ⟨#[]⟩]), 2, 32) := by kernel_rfl
section
variable {ops : Array Oper} {rest : List Oper} {o : Oper} {a : Act} {Q : Exit → Act → World → Prop}
/-- append(v, ys...) of pairs. -/
theorem append_pairs {w0 W : World} (base : Nat) (hgd : o.guard = none) (s x : Operand) (ho : o.op = .call { callee := .builtin .append, args := #[s, x], argTypes := #[22, 22] })
    (v : Value) (ps L : List (ByteArray × ByteArray)) (ad : Addr) (m c : Nat) (hs : a.eval s = v) (hx : a.eval x = .slice (some ad) m c)
    (HO : OwnRow PR 26 2 W base v ps) (HR : ReadsRow PR 2 W (some ad) m L) (HB : Below base w0 W) (hbase : base ≤ W.heap.size) (hl : (ps.length + m) * 32 ≤ 140737488355328)
    (h : ∀ v1 w1, OwnRow PR 26 2 w1 base v1 (ps ++ L) → Below base w0 w1 → wpList Try.prog ops Q rest (a.put o.dst v1) w1) :
    wpList Try.prog ops Q (o :: rest) a W := by
  obtain ⟨i0, hi, hzz⟩ := Option.map_eq_some_iff.1 infoArr
  simp only [Prod.mk.injEq] at hzz
  obtain ⟨hz0, hz1, hz2⟩ := hzz
  obtain ⟨xs, hown, hr⟩ := HO
  have hm : L.length = m := HR.1
  obtain ⟨inner, hri, hci⟩ := HR.inner_
  refine wpList_append_own_at W hgd s x 22 ho base 26 i0 _ 2 32 Try.underlying22 hi hz0 hz1 hz2 rfl (by decide) v ps.length xs hs hown ad m c inner hx (by rw [hri.1, hm]) hci (reps_one hri) (by simp only [maxLen]; omega) hl hbase ?_
  intro v1 w1 hown1 hg _ hat
  refine h v1 w1 ⟨xs ++ inner, by rw [List.length_append, hm]; exact hown1, pairs_append hr hri⟩ (HB.grown hg hbase (own_base hown))
end

/-- The two rows one behind the other, as what MtRule is given. -/
theorem both_row {base : Nat} {v : Value} {w : World} {La Lb : List (ByteArray × ByteArray)} {n m : Nat} (h : OwnRow PR 26 2 w base v (([] ++ La) ++ Lb)) (hn : La.length = n) (hm : Lb.length = m) :
    ∃ A N c, v = .slice A N c ∧ N = n + m ∧ ReadsRow PR 2 w A N (La ++ Lb) := by
  obtain ⟨A, c, hv, hc, hr⟩ := h.reads
  rw [List.nil_append] at hv hr
  refine ⟨A, n + m, c, ?_, rfl, ?_⟩
  · rw [hv, List.length_append, hn, hm]
  · rw [List.length_append, hn, hm] at hr; exact hr
theorem mtRule_both (A : Option Addr) (N c n m : Nat) (La Lb : List (ByteArray × ByteArray)) (w : World) (hN : N = n + m) (hr : ReadsRow PR 2 w A N (La ++ Lb)) (hn : La.length = n) (hm : Lb.length = m) (n1 : 1 ≤ n) (m1 : 1 ≤ m) (n20 : n ≤ 20) (m20 : m ≤ 20) (sa : Small La) (sb : Small Lb) :
    Calls Try.prog 6 #[.slice A N c] w fun e w' => e = .returned (.string ((rule La ++ ⟨#[44]⟩) ++ rule Lb)) ∧ Below w.heap.size w w' := by
  have h := mtRule.calls A N c (La ++ Lb) w hr (fun p hp => by
    rcases List.mem_append.mp hp with h | h
    · exact sa p h
    · exact sb p h) (by omega) (by omega)
  rw [rule_append La Lb (fun e => by rw [e] at hn; simp at hn; omega) (fun e => by rw [e] at hm; simp at hm; omega)] at h
  exact h

theorem of_not {v : Bool} (h : (!v) = false) : v = true := by cases v <;> simp_all

theorem add_44 {x : ByteArray} (h : x.size ≤ 100000) : (x ++ ⟨#[44]⟩).size ≤ 100001 := by rw [ByteArray.size_append]; exact Nat.add_le_add h (Nat.le_refl 1)

theorem own_base_le {R : (ByteArray × ByteArray) → List Value → Prop} {e : TypeId} {size base base' : Nat} {v : Value} {ps : List (ByteArray × ByteArray)} {w : World} (h : OwnRow R e size w base v ps) (hb : base' ≤ base) : OwnRow R e size w base' v ps := h.lower hb

def Huge (L : List (ByteArray × ByteArray)) : Prop := ∀ p ∈ L, p.1.size ≤ 9223372036854775807 ∧ p.2.size ≤ 9223372036854775807

set_option maxRecDepth 100000 in
set_option maxHeartbeats 4000000 in
theorem law.calls (A B : Option Addr) (n m c d : Nat) (La Lb : List (ByteArray × ByteArray)) (w : World) (ha : ReadsRow PR 2 w A n La) (hb : ReadsRow PR 2 w B m Lb) (za : Huge La) (zb : Huge Lb) :
    Calls Try.prog 3 #[.slice A n c, .slice B m d] w fun e w' => e = .returned (.bool true) ∧ Below w.heap.size w w' := by
  have hn := ha.2.1
  have hm := hb.2.1
  have HA := Aside0.mk ha
  have HB := Aside0.mk hb
  have F1 := Aside0.mk fun w1 (h : Below w.heap.size w w1) => fits3.calls A n c La w1 (ha.imp_ h fun _ _ h => h) za
  have F2 := Aside0.mk fun w1 (h : Below w.heap.size w w1) => fits3.calls B m d Lb w1 (hb.imp_ h fun _ _ h => h) zb
  have P1 := Aside0.mk fun w1 (h : Below w.heap.size w w1) => plain.calls A n c La w1 (ha.imp_ h fun _ _ h => h) za
  have P2 := Aside0.mk fun w1 (h : Below w.heap.size w w1) => plain.calls B m d Lb w1 (hb.imp_ h fun _ _ h => h) zb
  clear ha hb za zb
  by_cases n0 : n = 0
  · have g1 : ((n : Int) == 0) = true := by rw [beq_iff_eq]; omega
    clear HA HB P1 P2 hn hm n0
    go_enter Try.func3, Try.ntmps3
    go_wp2_with (first | (go_at_call 4; (with_reducible refine (F1.out _ (Below.refl _ _)).mono ?_); rintro e w1 ⟨v1, rfl, hb1⟩) | (go_at_call 4; (with_reducible refine (F2.out _ ?_).mono ?_); (exact hb1); rintro e w2 ⟨v2, rfl, hb2⟩; have hc2 := hb1.trans (hb2.mono hb1.size)))
    all_goals
      go_ret
      exact ⟨by first | rfl | simp, by first | exact hc2 | exact hb1⟩
  by_cases m0 : m = 0
  · have g1 : ((n : Int) == 0) = false := by rw [beq_eq_false_iff_ne]; omega
    have g2 : ((m : Int) == 0) = true := by rw [beq_iff_eq]; omega
    clear HA HB P1 P2 hn hm n0 m0
    go_enter Try.func3, Try.ntmps3
    go_wp2_with (first | (go_at_call 4; (with_reducible refine (F1.out _ (Below.refl _ _)).mono ?_); rintro e w1 ⟨v1, rfl, hb1⟩) | (go_at_call 4; (with_reducible refine (F2.out _ ?_).mono ?_); (exact hb1); rintro e w2 ⟨v2, rfl, hb2⟩; have hc2 := hb1.trans (hb2.mono hb1.size)))
    all_goals
      go_ret
      exact ⟨by first | rfl | simp, by first | exact hc2 | exact hb1⟩
  by_cases n20 : 20 < n
  · have g1 : ((n : Int) == 0) = false := by rw [beq_eq_false_iff_ne]; omega
    have g2 : ((m : Int) == 0) = false := by rw [beq_eq_false_iff_ne]; omega
    have g3 : (20 < (n : Int)) = True := eq_true (by omega)
    clear HA HB P1 P2 hn hm n0 m0 n20
    go_enter Try.func3, Try.ntmps3
    go_wp2_with (first | (go_at_call 4; (with_reducible refine (F1.out _ (Below.refl _ _)).mono ?_); rintro e w1 ⟨v1, rfl, hb1⟩) | (go_at_call 4; (with_reducible refine (F2.out _ ?_).mono ?_); (exact hb1); rintro e w2 ⟨v2, rfl, hb2⟩; have hc2 := hb1.trans (hb2.mono hb1.size)))
    all_goals
      go_ret
      exact ⟨by first | rfl | simp, by first | exact hc2 | exact hb1⟩
  by_cases m20 : 20 < m
  · have g1 : ((n : Int) == 0) = false := by rw [beq_eq_false_iff_ne]; omega
    have g2 : ((m : Int) == 0) = false := by rw [beq_eq_false_iff_ne]; omega
    have g3 : (20 < (n : Int)) = False := eq_false (by omega)
    have g4 : (20 < (m : Int)) = True := eq_true (by omega)
    clear HA HB P1 P2 hn hm n0 m0 n20 m20
    go_enter Try.func3, Try.ntmps3
    go_wp2_with (first | (go_at_call 4; (with_reducible refine (F1.out _ (Below.refl _ _)).mono ?_); rintro e w1 ⟨v1, rfl, hb1⟩) | (go_at_call 4; (with_reducible refine (F2.out _ ?_).mono ?_); (exact hb1); rintro e w2 ⟨v2, rfl, hb2⟩; have hc2 := hb1.trans (hb2.mono hb1.size)))
    all_goals
      go_ret
      exact ⟨by first | rfl | simp, by first | exact hc2 | exact hb1⟩
  obtain ⟨ad, rfl, hca⟩ := (HA.out).2.2 (by omega)
  obtain ⟨bd, rfl, hcb⟩ := (HB.out).2.2 (by omega)
  clear hca hcb
  have g1 : ((n : Int) == 0) = false := by rw [beq_eq_false_iff_ne]; omega
  have g2 : ((m : Int) == 0) = false := by rw [beq_eq_false_iff_ne]; omega
  have g3 : (20 < (n : Int)) = False := eq_false (by omega)
  have g4 : (20 < (m : Int)) = False := eq_false (by omega)
  go_enter Try.func3, Try.ntmps3
  have HE : ∀ w0 : World, OwnRow PR 26 2 (w0.alloc (.cells #[] 26)) w0.heap.size (.slice (some ⟨w0.heap.size, 0, none⟩) 0 0) [] := fun w0 => OwnRow.lit w0 w0.heap.size (Reps.none PR 2) (Nat.le_refl _) (by simp)
  have HE := Aside0.mk HE
  go_wp2_with (first | (go_at_call 4; (with_reducible refine (F1.out _ (Below.refl _ _)).mono ?_); rintro e w1 ⟨v1, rfl, hb1⟩) | (go_at_call 4; (with_reducible refine (F2.out _ ?_).mono ?_); (exact hb1); rintro e w2 ⟨v2, rfl, hb2⟩; have hc2 := hb1.trans (hb2.mono hb1.size)) | (go_at_call 5; (with_reducible refine (P1.out _ ?_).mono ?_); (exact hc2); rintro e w3 ⟨v3, rfl, hv3, hb3⟩; have hc3 := hc2.trans (hb3.mono hc2.size)) | (go_at_call 5; (with_reducible refine (P2.out _ ?_).mono ?_); (exact hc3); rintro e w4 ⟨v4, rfl, hv4, hb4⟩; have hc4 := hc3.trans (hb4.mono hc3.size)) | ((with_reducible refine gate_builtin (b := .append) (xs := #[.tmp 41, .tmp 42]) rfl ?_); at_builtin; go_must (refine append_pairs (w0 := w) w.heap.size rfl (.tmp 41) (.tmp 42) rfl _ [] La ad n c rfl rfl (own_base_le (HE.out _) hc4.size) (HA.out.imp_ (hc4.alloc hc4.size _) fun _ _ h => h) (hc4.alloc hc4.size _) (below_alloc hc4 _).size (by simp; omega) ?_); intro v5 w5 ho5 hb5) | ((with_reducible refine gate_builtin (b := .append) (xs := #[.tmp 43, .tmp 44]) rfl ?_); at_builtin; go_must (refine append_pairs (w0 := w) w.heap.size rfl (.tmp 43) (.tmp 44) rfl _ ([] ++ La) Lb bd m d rfl rfl ho5 (HB.out.imp_ hb5 fun _ _ h => h) hb5 hb5.size (by rw [List.nil_append, HA.out.1]; omega) ?_); intro v6 w6 ho6 hb6; obtain ⟨A6, N6, c6, rfl, hN6, hr6⟩ := both_row ho6 HA.out.1 HB.out.1; have M6 := Aside0.mk (mtRule_both A6 N6 c6 n m La Lb w6 hN6 hr6 HA.out.1 HB.out.1 (by omega) (by omega) (by omega) (by omega) (hv3 (by assumption)).2 (hv4 (of_not (by assumption))).2); have SA := Aside0.mk (hv3 (by assumption)).2; have SB := Aside0.mk (hv4 (of_not (by assumption))).2; have zA := rule_size La (by rw [HA.out.1]; omega) SA.out; have zB := rule_size Lb (by rw [HB.out.1]; omega) SB.out; have zC := add_44 zA; clear ho6 hr6 hN6) | (go_at_call 6; (with_reducible refine (M6.out).mono ?_); rintro e w7 ⟨rfl, hb7⟩; have hc7 := hb6.trans (hb7.mono hb6.size); have M7 := Aside0.mk (mtRule.calls (some ad) n c La w7 (HA.out.imp_ hc7 fun _ _ h => h) SA.out (by omega) (by omega))) | (go_at_call 6; (with_reducible refine (M7.out).mono ?_); rintro e w8 ⟨rfl, hb8⟩; have hc8 := hc7.trans (hb8.mono hc7.size); have M8 := Aside0.mk (mtRule.calls (some bd) m d Lb w8 (HB.out.imp_ hc8 fun _ _ h => h) SB.out (by omega) (by omega))) | (go_at_call 6; (with_reducible refine (M8.out).mono ?_); rintro e w9 ⟨rfl, hb9⟩; have hc9 := hc8.trans (hb9.mono hc8.size)))
  all_goals
    go_ret
    exact ⟨by first | rfl | simp, by first | exact hc9 | exact hc4 | exact hc3 | exact hc2 | exact hb1⟩
end Go.Proofs.Ytdooimdefmegaaa.Given
