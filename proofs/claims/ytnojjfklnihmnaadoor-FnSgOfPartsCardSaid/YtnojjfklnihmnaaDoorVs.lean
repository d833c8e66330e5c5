/- Part of the proof of LawFnSgOfParts. -/
import Derived.Test.YtnojjfklnihmnaaDoorPFnSgOfPartsx1
import Derived.Test.YtnojjfklnihmnaaDoorPFnSgOfPartsx5
import Derived.Test.YtnojjfklnihmnaaDoorGvBd
set_option linter.unusedVariables false
set_option linter.unusedSimpArgs false
section
namespace Go.Proofs.YtnojjfklnihmnaaDoor.Cv
open Go.RowKit Go.Proofs.YtnojjfklnihmnaaDoorW.PrintWords Go.Proofs.YtnojjfklnihmnaaDoor.Pl Go.Proofs.YtnojjfklnihmnaaDoor.PFnSgOfParts
inductive KOk : S25 → Prop
  | mk (v : S25) : (v.f0 = 97 → ∀ i : Nat, i + 1 < v.f2.size → bt v.f2 (i : Int) = 123 → bt v.f2 ((i + 1 : Nat) : Int) ≠ 98 ∧ bt v.f2 ((i + 1 : Nat) : Int) ≠ 103) → (∀ x ∈ v.f3, KOk x) → KOk v
theorem keys_kids (l : List S25) (hl : l.length ≤ 1000000) (ih : ∀ x ∈ l, ∃ r, Ev (fun k => laws_sgKeys.f k x.f0 x.f1 x.f2 x.f3) r ∧ (r = true → KOk x)) :
    ∀ (d i : Nat), i + d = l.length → ∃ r, Ev (fun k => laws_sgKeys.l1 k l (l.length : Int) (i : Int)) r ∧ (r = true → ∀ x ∈ l.drop i, KOk x) := by
  intro d
  induction d with
  | zero =>
    intro i hi
    have q : ¬ (i : Int) < (l.length : Int) := by omega
    refine ⟨true, Ev_up ?_, fun _ x hx => by rw [List.drop_eq_nil_of_le (by omega)] at hx; cases hx⟩
    simp only [laws_sgKeys.l1, if_neg q]
    exact Ev_some rfl
  | succ d ihd =>
    intro i hi
    have q : (i : Int) < (l.length : Int) := by omega
    have q0 : (0 : Int) ≤ (i : Int) := by omega
    have hlt : i < l.length := by omega
    have hx : rd_T25 l (i : Int) = l[i] := by
      unfold rd_T25
      rw [Int.toNat_natCast, List.getD_eq_getElem?_getD, List.getElem?_eq_getElem hlt]; rfl
    obtain ⟨r, hr, hk⟩ := ih _ (List.getElem_mem hlt)
    cases r with
    | false =>
      refine ⟨false, Ev_up ?_, fun h => by cases h⟩
      simp only [laws_sgKeys.l1, if_pos q, if_pos q0, hx]
      refine Ev.bind hr ?_
      exact Ev_some (by simp)
    | true =>
      obtain ⟨r2, hr2, hk2⟩ := ihd (i + 1) (by omega)
      refine ⟨r2, Ev_up ?_, fun h x hx2 => ?_⟩
      · simp only [laws_sgKeys.l1, if_pos q, if_pos q0, hx]
        refine Ev.bind hr ?_
        simp only [if_true]
        rw [show wrap64 ((i : Int) + 1) = ((i + 1 : Nat) : Int) by rw [w64 (by omega) (by omega)]; omega]
        exact hr2
      · rw [List.drop_eq_getElem_cons hlt] at hx2
        rcases List.mem_cons.1 hx2 with rfl | hx2
        · exact hk rfl
        · exact hk2 h x hx2
theorem keys_from (v : S25) (hs : v.f2.size ≤ 1000000000) (hl : v.f3.length ≤ 1000000) (ih : ∀ x ∈ v.f3, ∃ r, Ev (fun k => laws_sgKeys.f k x.f0 x.f1 x.f2 x.f3) r ∧ (r = true → KOk x)) :
    ∀ (d i : Nat), i + d = v.f2.size → ∃ r, Ev (fun k => laws_sgKeys.l0 k (i : Int) v.f0 v.f1 v.f2 v.f3) r ∧ (r = true → (v.f0 = 97 → ∀ j : Nat, i ≤ j → j + 1 < v.f2.size → bt v.f2 (j : Int) = 123 → bt v.f2 ((j + 1 : Nat) : Int) ≠ 98 ∧ bt v.f2 ((j + 1 : Nat) : Int) ≠ 103) ∧ ∀ x ∈ v.f3, KOk x) := by
  intro d
  obtain ⟨rk, hrk, hkk⟩ := keys_kids v.f3 hl ih v.f3.length 0 (by omega)
  have stop : ∀ i : Nat, i ≤ v.f2.size → (v.f0 = 97 → ¬ i + 1 < v.f2.size) → Ev (fun k => laws_sgKeys.l0 k (i : Int) v.f0 v.f1 v.f2 v.f3) rk := fun i hi hn => by
    refine Ev_up ?_
    have ew : wrap64 ((i : Int) + 1) = ((i + 1 : Nat) : Int) := by rw [w64 (by omega) (by omega)]; omega
    by_cases h97 : v.f0 = 97
    · have hd : decide (((i + 1 : Nat) : Int) < (v.f2.size : Int)) = false := decide_eq_false (by have := hn h97; omega)
      simp only [laws_sgKeys.l0, if_pos h97, ew, hd]
      refine Ev_up ?_
      simp only [laws_sgKeys.j1, Bool.false_eq_true, if_false]
      exact hrk
    · simp only [laws_sgKeys.l0, if_neg h97]
      refine Ev_up ?_
      simp only [laws_sgKeys.j1, Bool.false_eq_true, if_false]
      exact hrk
  induction d with
  | zero =>
    intro i hi
    exact ⟨rk, stop i (by omega) (by omega), fun h => ⟨fun _ j h1 h2 => by omega, fun x hx => hkk h x (by rw [List.drop_zero]; exact hx)⟩⟩
  | succ d ihd =>
    intro i hi
    by_cases hgo : v.f0 = 97 ∧ i + 1 < v.f2.size
    · obtain ⟨h97, hlt⟩ := hgo
      have ew : wrap64 ((i : Int) + 1) = ((i + 1 : Nat) : Int) := by rw [w64 (by omega) (by omega)]; omega
      have hd : decide (((i + 1 : Nat) : Int) < (v.f2.size : Int)) = true := decide_eq_true (by omega)
      have q0 : (0 : Int) ≤ (i : Int) := by omega
      have q1 : (i : Int) < (v.f2.size : Int) := by omega
      have q2 : (0 : Int) ≤ ((i + 1 : Nat) : Int) := by omega
      have q3 : ((i + 1 : Nat) : Int) < (v.f2.size : Int) := by omega
      obtain ⟨r2, hr2, hk2⟩ := ihd (i + 1) (by omega)
      have next : ∀ (g : Nat → Option Bool) (r : Bool), Ev g r → True := fun _ _ _ => trivial
      by_cases hb : bt v.f2 (i : Int) = 123
      · by_cases h98 : bt v.f2 ((i + 1 : Nat) : Int) = 98
        · refine ⟨false, Ev_up ?_, fun h => by cases h⟩
          simp only [laws_sgKeys.l0, if_pos h97, ew, hd]
          refine Ev_up ?_
          simp only [laws_sgKeys.j1, if_true, if_pos q0, if_pos q1, if_pos hb, ew, if_pos q2, if_pos q3, if_pos h98]
          exact Ev_some rfl
        · by_cases h103 : bt v.f2 ((i + 1 : Nat) : Int) = 103
          · refine ⟨false, Ev_up ?_, fun h => by cases h⟩
            simp only [laws_sgKeys.l0, if_pos h97, ew, hd]
            refine Ev_up ?_
            simp only [laws_sgKeys.j1, if_true, if_pos q0, if_pos q1, if_pos hb, ew, if_pos q2, if_pos q3, if_neg h98, if_pos h103]
            exact Ev_some rfl
          · refine ⟨r2, Ev_up ?_, fun h => ⟨fun ha j h1 h2 h3 => ?_, (hk2 h).2⟩⟩
            · simp only [laws_sgKeys.l0, if_pos h97, ew, hd]
              refine Ev_up ?_
              simp only [laws_sgKeys.j1, if_true, if_pos q0, if_pos q1, if_pos hb, ew, if_pos q2, if_pos q3, if_neg h98, if_neg h103]
              exact hr2
            · by_cases hji : j = i
              · subst hji; exact ⟨h98, h103⟩
              · exact (hk2 h).1 ha j (by omega) h2 h3
      · refine ⟨r2, Ev_up ?_, fun h => ⟨fun ha j h1 h2 h3 => ?_, (hk2 h).2⟩⟩
        · simp only [laws_sgKeys.l0, if_pos h97, ew, hd]
          refine Ev_up ?_
          simp only [laws_sgKeys.j1, if_true, if_pos q0, if_pos q1, if_neg hb, ew]
          exact hr2
        · by_cases hji : j = i
          · subst hji; exact absurd h3 hb
          · exact (hk2 h).1 ha j (by omega) h2 h3
    · refine ⟨rk, stop i (by omega) (fun h1 h2 => hgo ⟨h1, h2⟩), fun h => ⟨fun ha j h1 h2 => absurd ⟨ha, by omega⟩ hgo, fun x hx => hkk h x (by rw [List.drop_zero]; exact hx)⟩⟩
theorem keys_all : ∀ (n : Nat) (v : S25), cnt v ≤ n → n ≤ 1000000 → byt v ≤ 100000000 → ∃ r, Ev (fun k => laws_sgKeys.f k v.f0 v.f1 v.f2 v.f3) r ∧ (r = true → KOk v) := by
  intro n
  induction n with
  | zero => intro v h; rw [cnt_eq] at h; omega
  | succ n ih =>
    intro v h hn hb
    rw [cnt_eq] at h
    rw [byt_eq] at hb
    have hlen := cnt_len v.f3
    obtain ⟨r, hr, hk⟩ := keys_from v (by omega) (by omega) (fun x hx => ih x (by have := cnt_mem hx; omega) (by omega) (by have := byt_mem hx; omega)) v.f2.size 0 (by omega)
    refine ⟨r, Ev_up ?_, fun h => .mk v (fun ha i h1 h2 => (hk h).1 ha i (Nat.zero_le _) h1 h2) (hk h).2⟩
    simp only [laws_sgKeys.f]
    exact hr
end Go.Proofs.YtnojjfklnihmnaaDoor.Cv
end
section
namespace Go.Proofs.YtnojjfklnihmnaaDoor.PSp
open Go.RowKit Go.Proofs.YtnojjfklnihmnaaDoorW.PrintWords Go.Proofs.YtnojjfklnihmnaaDoorW.PrintLast Go.Proofs.YtnojjfklnihmnaaDoorW.PrintMore Go.Proofs.YtnojjfklnihmnaaDoor.PFnSgOfParts
attribute [local go_sem] max2_int min2_int max_two min_two max_three min_three max_four min_four
set_option linter.unusedVariables false
set_option linter.unusedSimpArgs false
def spec_ValidString.l0 : Nat → ByteArray → Int → Option (Bool)
  | 0, _, _ => none
  | k + 1, x0, x3 => if x3 < (x0.size : Int) then (if 0 ≤ x3 then (if (bt x0 x3) = 0 then (some false) else (spec_ValidString.l0 k x0 (wrap64 (x3 + 1)))) else (none)) else ((Given.vstr.f x0).bind fun t144 => (some t144))
def spec_ValidString.f (k : Nat) (a0 : ByteArray) : Option (Bool) := spec_ValidString.l0 k a0 0
set_option maxHeartbeats 8000000 in
set_option maxRecDepth 100000 in
theorem spec_ValidString.calls (k : Nat) (a0 : ByteArray) (r : Bool) (w : World) (hG : Given.Tabs w) (h : spec_ValidString.f k a0 = some r) :
    Calls Tryd.prog 23 #[.string a0] w fun e w' => e = .returned (.bool r) ∧ Below w.heap.size w w' := by
  have HG := Aside0.mk hG
  clear hG
  have HB := Aside0.mk (Below.refl w.heap.size w)
  have H : (spec_ValidString.l0 k a0 0) = some r := h
  clear h
  have H' := Aside0.mk H
  clear H
  go_enter Tryd.func23, Tryd.ntmps23
  go_wp2
  go_loopg [3] k (fun kq v3 w' => ∃ (x3_1 : Int), v3 = .int .i64 x3_1 ∧ Aside0 (spec_ValidString.l0 kq a0 x3_1 = some r) ∧ Aside0 (kq ≤ k) ∧ Aside0 (Below w.heap.size w w'))
  case atStart => exact ⟨(0), (by first | rfl | (simp; done) | (simp [*]; done)), H', ⟨Nat.le_refl _⟩, ⟨by repeat (first | (with_reducible first | exact HB.out | apply below_alloc | apply pw_below_drewN | apply below_drew1) | exact HB.out)⟩⟩
  case round =>
    clear H'
    obtain ⟨x3_1, rfl, HA, HK1, HB⟩ := hrel
    cases gk with
    | zero => exact absurd HA.out (by simp [spec_ValidString.l0])
    | succ k1 =>
      have H := HA.out
      clear HA
      simp only [spec_ValidString.l0] at H
      by_cases c2 : x3_1 < (a0.size : Int)
      · rw [if_pos c2] at H
        have c2b0 : decide (x3_1 < (a0.size : Int)) = true := decide_eq_true c2
        clear c2
        by_cases c3 : 0 ≤ x3_1
        · rw [if_pos c3] at H
          have c3b0 : decide (0 ≤ x3_1) = true := decide_eq_true c3
          clear c3
          by_cases c5 : (bt a0 x3_1) = 0
          · rw [if_pos c5] at H
            have c5b0 : ((bt a0 x3_1) == 0) = true := beq_iff_eq.mpr c5
            have c5b1 : ((bt a0 x3_1) != 0) = false := bne_eq_false_iff_eq.mpr c5
            clear c5
            obtain rfl := Option.some.inj H
            have p4 : 0 ≤ (x3_1 : Int) := of_decide_eq_true (by first | (with_reducible assumption) | assumption)
            have q4 : x3_1 < (a0.size : Int) := of_decide_eq_true (by first | (with_reducible assumption) | assumption)
            have hx4 := bt_at a0 x3_1
            replace p4 := eq_true p4
            replace q4 := eq_true q4
            go_wp2
            go_ret
            exact ⟨by first | rfl | (simp [errW_none, errW_some] <;> rfl) | (simp [*, errW_none, errW_some] <;> rfl), by repeat (first | (with_reducible first | exact HB.out | apply below_alloc | apply pw_below_drewN | apply below_drew1) | exact HB.out)⟩
          · rw [if_neg c5] at H
            have c5b0 : ((bt a0 x3_1) == 0) = false := beq_eq_false_iff_ne.mpr c5
            have c5b1 : ((bt a0 x3_1) != 0) = true := bne_iff_ne.mpr c5
            have H' := Aside0.mk H
            clear H
            have p4 : 0 ≤ (x3_1 : Int) := of_decide_eq_true (by first | (with_reducible assumption) | assumption)
            have q4 : x3_1 < (a0.size : Int) := of_decide_eq_true (by first | (with_reducible assumption) | assumption)
            have hx4 := bt_at a0 x3_1
            replace p4 := eq_true p4
            replace q4 := eq_true q4
            go_wp2
            go_roundg k1
            case measure => have := HK1.out; omega
            case rel => exact ⟨(wrap64 (x3_1 + 1)), (by first | rfl | (simp; done) | (simp [*]; done)), H', ⟨by have := HK1.out; omega⟩, ⟨by repeat (first | (with_reducible first | exact HB.out | apply below_alloc | apply pw_below_drewN | apply below_drew1) | exact HB.out)⟩⟩
        · rw [if_neg c3] at H
          exact absurd H (by simp)
      · rw [if_neg c2] at H
        have c2b0 : decide (x3_1 < (a0.size : Int)) = false := decide_eq_false c2
        clear c2
        replace H := Option.bind_eq_some_iff.mp H
        obtain ⟨t144, A60, H⟩ := H
        replace H : (some t144) = some r := H
        have A6 := Aside0.mk A60
        clear A60
        obtain rfl := Option.some.inj H
        go_wp2_with (first | ((with_reducible refine gate_callee (f := 31) rfl ?_); refine goesL_ (some 15) rfl rfl Tryd.func31 (by kernel_rfl) rfl #[.string a0] rfl (by (try simp only [List.map_toArray, List.map_cons, List.map_nil]); first | done | rfl | (simp only [List.length_drop, List.length_take]; rfl)) ?_; (with_reducible refine (Given.vstr.calls a0 t144 _ (Given.Tabs.below HG.out (by repeat (first | (with_reducible first | exact HB.out | apply below_alloc | apply pw_below_drewN | apply below_drew1) | exact HB.out)) (Nat.le_refl _)) A6.out).mono ?_); rintro e w7 ⟨rfl, hb⟩; refine ⟨_, rfl, ?_⟩; have n0_ := Aside0.mk (below_step (by repeat (first | (with_reducible first | exact HB.out | apply below_alloc | apply pw_below_drewN | apply below_drew1) | exact HB.out)) hb); clear HB; have HB := n0_; clear n0_; (try clear hb); (try clear hb2); (try clear hk); (try clear hi)))
        go_ret
        exact ⟨by first | rfl | (simp [errW_none, errW_some] <;> rfl) | (simp [*, errW_none, errW_some] <;> rfl), by repeat (first | (with_reducible first | exact HB.out | apply below_alloc | apply pw_below_drewN | apply below_drew1) | exact HB.out)⟩
end Go.Proofs.YtnojjfklnihmnaaDoor.PSp
end
