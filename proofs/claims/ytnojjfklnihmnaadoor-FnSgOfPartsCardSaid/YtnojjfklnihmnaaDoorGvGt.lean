/- Part of the proof of LawFnSgOfParts. -/
import Derived.Test.YtnojjfklnihmnaaDoorGvGa
set_option linter.unusedVariables false
set_option linter.unusedSimpArgs false
section
namespace Go.Proofs.YtnojjfklnihmnaaDoor.Given
open Go.RowKit Go.Proofs.YtnojjfklnihmnaaDoorW.PrintWords Go.Proofs.YtnojjfklnihmnaaDoorW.PrintLast Go.Proofs.YtnojjfklnihmnaaDoor.Pl Go.Proofs.YtnojjfklnihmnaaDoor.Utf Go.Proofs.YtnojjfklnihmnaaDoor.Bm Go.Proofs.YtnojjfklnihmnaaDoor.By Go.Proofs.YtnojjfklnihmnaaDoor.SgT Go.Proofs.YtnojjfklnihmnaaDoor.PFnSgOfParts
set_option linter.unusedVariables false
def f27_57.T : Bool × List (List Nat × List Nat) := (true, [([], []), ([0], [0]), ([], []), ([2], [2]), ([3], [3]), ([4, 1], [4]), ([5], [5]), ([6], [6]), ([7, 5], [7]), ([1, 8, 8], [1, 8]), ([9], [9]), ([], []), ([11, 9], [11]), ([], []), ([13], [13]), ([14], [14]), ([15, 12], [15]), ([16], [16]), ([17], [17]), ([18, 16], [18]), ([12, 19, 19], [12, 19]), ([10, 20], [10, 20]), ([21], [21]), ([22, 20, 0, 1, 2, 3, 4, 5, 6, 7, 8, 9, 10, 11, 12, 13, 14, 15, 16, 17, 18, 19, 20, 21, 22], [22])])
def f27_57.B : List Nat := [0, 1, 0, 4, 12, 31, 63, 127, 255, 511, 1023, 0, 3071, 0, 8192, 24576, 64511, 130047, 261119, 523263, 1047551, 2097151, 4194303, 8388607]
theorem f27_57.tab : rtab .any (opsOf Tryd.f27 57) = f27_57.T := by kernel_rfl
theorem f27_57.bits : waitsOk f27_57.T.2 f27_57.B = true := by kernel_rfl
def Gh (w' : World) (b : Nat) (a t d : Int) (x : Nat) : Prop := w'.cell? ⟨b, 0, none⟩ = some (.int .i64 a) ∧ w'.cell? ⟨b, 1, none⟩ = some (.int .i64 t) ∧ w'.cell? ⟨b, 2, none⟩ = some (.int .i64 d) ∧ w'.cell? ⟨x, 0, none⟩ = some (.string ⟨#[]⟩) ∧ w'.frozen? ⟨x, 0, none⟩ = false
theorem Gh.step {W W' : World} {b : Nat} {a t d : Int} {x : Nat} (h : Gh W b a t d x) (hb : Below W.heap.size W W') : Gh W' b a t d x := by
  obtain ⟨h0, h1, h2, h3, h4⟩ := h
  have l0 := block_lt_of_cell h0
  have l3 := block_lt_of_cell h3
  exact ⟨(hb.cell (p := ⟨b, 0, none⟩) l0).trans h0, (hb.cell (p := ⟨b, 1, none⟩) l0).trans h1, (hb.cell (p := ⟨b, 2, none⟩) l0).trans h2, (hb.cell (p := ⟨x, 0, none⟩) l3).trans h3, (hb.frozen (p := ⟨x, 0, none⟩) l3).trans h4⟩
theorem gd_step {w W W' : World} {x : Nat} (hx : w.heap.size = x) (h : Below x w W) (hb : Below W.heap.size W W') : Below x w W' := h.trans (hb.mono (by have := h.size; omega))
theorem Gh.drew {W : World} {b : Nat} {a t d : Int} {x : Nat} (h : Gh W b a t d x) : Gh W.drew b a t d x := h.step (Below.refl _ _).drew
set_option maxRecDepth 100000 in
set_option maxHeartbeats 16000000 in
theorem gs_dict (S T : ByteArray) (key : Int) (hS : bytesOf S = 123 :: key :: bytesOf T) (hkey : keyed key = true) (W : ByteArray) (hW : W.size ≤ 251) (b : Nat) (a t d : Int) (w : World) (hok : ok a t d = true) (ha : -9223372036854775808 ≤ a) (hd : -9223372036854775808 ≤ d) (hc : Dc w b a t d)
    (ihk : ∀ (b : Nat) (w : World), Dc w b (a + 1) t (d + 1) → Calls Tryd.prog 27 #[.string (strOfNums [key]), .pointer (some ⟨b, 0, none⟩)] w fun r w' => r = .returned (.string (strOfNums [key])) ∧ Below w.heap.size w w')
    (ih : ∀ (b : Nat) (w : World), Dc w b (a + 1) t (d + 1) → Calls Tryd.prog 27 #[.string T, .pointer (some ⟨b, 0, none⟩)] w fun r w' => r = .returned (.string W) ∧ Below w.heap.size w w') :
    Calls Tryd.prog 27 #[.string S, .pointer (some ⟨b, 0, none⟩)] w fun r w' => r = .returned (.string (((⟨#[97, 123]⟩ ++ strOfNums [key]) ++ W) ++ ⟨#[125]⟩)) ∧ Below w.heap.size w w' := by
  have hmf : ∀ (fn : Fn) (first cap : Array Value) (w : World), (Instr.makeFunc fn first cap).run Tryd.prog w = .ok (.func fn first cap) w := fun _ _ _ _ => rfl
  obtain ⟨h0, h1, h2⟩ := at_zero hS
  obtain ⟨h4, h5, h6⟩ := at_drop (p := 1) h2
  have hel : ∀ w : World, Calls Tryd.prog 36 #[.string S] w fun e w' => e = .returned (.string T) ∧ Drawn0 w w' := fun w => dbus_zzType_Elem.calls 5 S T w (by
    unfold dbus_zzType_Elem.f
    rw [kind_is h0 h1 (k := 14) (by decide), Option.bind_some, if_pos rfl, if_pos (by omega)]
    congr 1
    apply bytesOf_inj
    rw [bytesOf_from]
    exact h6)
  have hky : ∀ w : World, Calls Tryd.prog 43 #[.string S] w fun e w' => e = .returned (.string (strOfNums [key])) ∧ Drawn0 w w' := fun w => dbus_zzType_Key.calls S (strOfNums [key]) w (by
    unfold dbus_zzType_Key.f
    rw [if_pos (by decide), if_pos (by omega)]
    congr 1
    rw [← str_bytes (S.extract 1 2), bytesOf_extract, hS]
    rfl)
  have hik : ∀ w : World, Calls Tryd.prog 42 #[.string (strOfNums [key])] w fun e w' => e = .returned (.bool true) ∧ Drawn0 w w' := fun w => dbus_isKeyType.calls 5 _ _ w (key_is hkey)
  have hk := gsKind_of h0 h1 (k := 14) (by decide)
  have ha2 : a ≤ 32 ∧ d ≤ 32 := by unfold ok at hok; simp only [Bool.and_eq_true, decide_eq_true_eq] at hok; exact ⟨hok.1.1, hok.2⟩
  have HX := Aside0.mk (hc.kept ((Below.refl _ w).alloc (Nat.le_refl _) (.cells #[.string ⟨#[]⟩] 9)) hc.lt)
  have HL := Aside0.mk hc.lt
  have HK := Aside0.mk hk
  have HE := Aside0.mk hel
  have HKy := Aside0.mk hky
  have HKt := Aside0.mk hik
  have HO := Aside0.mk hok
  have HI := Aside0.mk ih
  have HIk := Aside0.mk ihk
  have HA := Aside0.mk (fun w => EnterArray.calls a t d w ha ha2.1)
  have HD := Aside0.mk (fun w => EnterDictEntry.calls (a + 1) t d w hd ha2.2)
  have HW := Aside0.mk hW
  clear hc hk hok hel ih ihk hky hik hW hS h0 h1 h2 h4 h5 h6 ha ha2 hd hkey
  go_enter_defers Tryd.func27, Tryd.ntmps27
  go_wp2_with (first | (go_at_call 33; refine (Valid.calls b a t d true _ HX.out HO.out).mono ?_; rintro r w1 ⟨rfl, rfl⟩) | (go_at_call 35; refine (HK.out _).mono ?_; rintro r w2 ⟨rfl, hd2⟩; obtain ⟨m2, rfl⟩ := hd2.out) | (go_at_call 43; refine (HKy.out _).mono ?_; rintro r w3 ⟨rfl, hd3⟩; obtain ⟨m3, rfl⟩ := hd3.out) | (go_at_call 42; refine (HKt.out _).mono ?_; rintro r w4 ⟨rfl, hd4⟩; obtain ⟨m4, rfl⟩ := hd4.out))
  obtain ⟨w1, hw1⟩ : ∃ w1, (w.alloc (.cells #[.string ⟨#[]⟩] 9)).drewN (m2 + m3 + m4) = w1 := ⟨_, rfl⟩
  have hdc : Dc w1 b a t d := hw1 ▸ HX.out.kept (pw_below_drewN (Below.refl _ _) _) (by have := HL.out; simp; omega)
  obtain ⟨x, hx⟩ : ∃ x, w.heap.size = x := ⟨_, rfl⟩
  have HB : Aside0 (Below x w w1) := ⟨hx ▸ hw1 ▸ gs_newB w _⟩
  have HG : Aside0 (Gh w1 b a t d x) := ⟨⟨hdc.c0, hdc.c1, hdc.c2, hx ▸ hw1 ▸ gs_new w _, hx ▸ hw1 ▸ (by simp)⟩⟩
  rw [hx, hw1]
  clear hw1 HX HL HK HO hdc
  have hz0 : (strOfNums [key]).size = 1 := rfl
  have hz2 : ¬ 9223372036854775807 < 2 + (strOfNums [key]).size := by omega
  have hz3 : ¬ 9223372036854775807 < 2 + (strOfNums [key]).size + W.size := by have := HW.out; omega
  have hz4 : ¬ 9223372036854775807 < 2 + (strOfNums [key]).size + W.size + 1 := by have := HW.out; omega
  clear hz0
  refine Code.wp_mono NoPanic.le ?_
  refine start_ (n := 24) (S := fun w' => w'.cell? ⟨b, 0, none⟩ = some (.int .i64 a) ∧ w'.cell? ⟨b, 1, none⟩ = some (.int .i64 t) ∧ w'.cell? ⟨b, 2, none⟩ = some (.int .i64 d) ∧ w'.cell? ⟨x, 0, none⟩ = some (.string ⟨#[]⟩) ∧ w'.frozen? ⟨x, 0, none⟩ = false) (ds := [23]) #[false, false, false, false, false, false, false, false, false, false, false, false, false, false, false, false, false, false, false, false, false, false, false, false] (by kernel_rfl) rfl rfl HG.out.drew (fun hHeld => ?_)
  refine with_tabW f27_57.tab f27_57.bits (fun HT_ HW_ => ?_)
  have HB : Aside0 (Below x w w1.drew) := ⟨HB.out.drew⟩
  have HG : Aside0 (Gh w1.drew b a t d x) := ⟨HG.out.drew⟩
  generalize w1.drew = w2 at HB HG hHeld ⊢
  refine pure_ (i := 0) (N := some 114) (v := ?_) (a' := ?_) #[true, false, false, false, false, false, false, false, false, false, false, false, false, false, false, false, false, false, false, false, false, false, false, false] rfl rfl (any_of HT_.out (by kernel_rfl)) (fun _ _ _ h => h) (Or.inl ⟨by rfl, ?_⟩) ?_ ?_
  rotate_left
  · intro w'
    go_simp
    with_reducible rfl
  rotate_left
  · simp only [Act.put, List.setIfInBounds_toArray, List.set_cons_zero, List.set_cons_succ]
    rfl
  refine pure_ (i := 2) (N := some 116) (v := ?_) (a' := ?_) #[true, false, true, false, false, false, false, false, false, false, false, false, false, false, false, false, false, false, false, false, false, false, false, false] rfl rfl (any_of HT_.out (by kernel_rfl)) (fun _ _ _ h => h) (Or.inl ⟨by rfl, ?_⟩) ?_ ?_
  rotate_left
  · intro w'
    go_simp
    with_reducible rfl
  rotate_left
  · simp only [Act.put, List.setIfInBounds_toArray, List.set_cons_zero, List.set_cons_succ]
    rfl
  refine pure_ (i := 3) (N := some 117) (v := ?_) (a' := ?_) #[true, false, true, true, false, false, false, false, false, false, false, false, false, false, false, false, false, false, false, false, false, false, false, false] rfl rfl (any_of HT_.out (by kernel_rfl)) (fun _ _ _ h => h) (Or.inl ⟨by rfl, ?_⟩) ?_ ?_
  rotate_left
  · intro w'
    go_simp
    with_reducible rfl
  rotate_left
  · simp only [Act.put, List.setIfInBounds_toArray, List.set_cons_zero, List.set_cons_succ]
    rfl
  refine take_ (i := 4) (N := some 118) (v := ?_) (a' := ?_) #[true, false, true, true, true, false, false, false, false, false, false, false, false, false, false, false, false, false, false, false, false, false, false, false] rfl rfl (take_ofW HT_.out HW_.out (by kernel_rfl)) (fun _ _ _ h => h) (Or.inl ⟨by rfl, ?_⟩) hHeld ?_ ?_
  rotate_left
  · rintro w' ⟨s0, s1, s2, s3, s4⟩
    go_simp
    with_reducible rfl
  rotate_left
  · simp only [Act.put, List.setIfInBounds_toArray, List.set_cons_zero, List.set_cons_succ]
    rfl
  refine pure_ (i := 11) (N := some 125) (v := ?_) (a' := ?_) #[true, false, true, true, true, false, false, false, false, false, false, true, false, false, false, false, false, false, false, false, false, false, false, false] rfl rfl (any_of HT_.out (by kernel_rfl)) (fun _ _ _ h => h) (Or.inl ⟨by rfl, ?_⟩) ?_ ?_
  rotate_left
  · intro w'
    go_simp
    with_reducible rfl
  rotate_left
  · simp only [Act.put, List.setIfInBounds_toArray, List.set_cons_zero, List.set_cons_succ]
    rfl
  refine pure_ (i := 13) (N := some 127) (v := ?_) (a' := ?_) #[true, false, true, true, true, false, false, false, false, false, false, true, false, true, false, false, false, false, false, false, false, false, false, false] rfl rfl (any_of HT_.out (by kernel_rfl)) (fun _ _ _ h => h) (Or.inl ⟨by rfl, ?_⟩) ?_ ?_
  rotate_left
  · intro w'
    go_simp
    with_reducible rfl
  rotate_left
  · simp only [Act.put, List.setIfInBounds_toArray, List.set_cons_zero, List.set_cons_succ]
    rfl
  refine pure_ (i := 14) (N := some 128) (v := ?_) (a' := ?_) #[true, false, true, true, true, false, false, false, false, false, false, true, false, true, true, false, false, false, false, false, false, false, false, false] rfl rfl (any_of HT_.out (by kernel_rfl)) (fun _ _ _ h => h) (Or.inl ⟨by rfl, ?_⟩) ?_ ?_
  rotate_left
  · intro w'
    go_simp
    with_reducible rfl
  rotate_left
  · simp only [Act.put, List.setIfInBounds_toArray, List.set_cons_zero, List.set_cons_succ]
    rfl
  refine take_ (i := 15) (N := some 129) (v := ?_) (a' := ?_) #[true, false, true, true, true, false, false, false, false, false, false, true, false, true, true, true, false, false, false, false, false, false, false, false] rfl rfl (take_ofW HT_.out HW_.out (by kernel_rfl)) (fun _ _ _ h => h) (Or.inl ⟨by rfl, ?_⟩) hHeld ?_ ?_
  rotate_left
  · rintro w' ⟨s0, s1, s2, s3, s4⟩
    go_simp
    with_reducible rfl
  rotate_left
  · simp only [Act.put, List.setIfInBounds_toArray, List.set_cons_zero, List.set_cons_succ]
    rfl
  refine one_ (i := 1) (N := some 115) #[true, true, true, true, true, false, false, false, false, false, false, true, false, true, true, true, false, false, false, false, false, false, false, false] rfl rfl (one_of HT_.out (by kernel_rfl)) (by decide) (fun K hK => ?_)
  refine goes_ Tryd.func43 (by kernel_rfl) rfl #[.string S] (by rfl) rfl rfl (by (try simp only [List.map_toArray, List.map_cons, List.map_nil]); first | done | rfl) ?_
  refine (HKy.out _).mono ?_
  rintro e w3 ⟨rfl, hd⟩
  refine ⟨_, rfl, ?_⟩
  have HB := Aside0.mk (gd_step hx HB.out hd.below)
  have HG := Aside0.mk (HG.out.step hd.below)
  clear hd
  refine hK.out _ _ HG.out (fun hHeld => ?_)
  clear hK K
  refine norm_ (a' := ?_) ?_ ?_
  rotate_left
  · show Act.put _ (some 115) _ = _
    simp only [Act.put, List.setIfInBounds_toArray, List.set_cons_zero, List.set_cons_succ]
    rfl
  refine one_ (i := 5) (N := some 119) #[true, true, true, true, true, true, false, false, false, false, false, true, false, true, true, true, false, false, false, false, false, false, false, false] rfl rfl (one_of HT_.out (by kernel_rfl)) (by decide) (fun K hK => ?_)
  refine goes_ Tryd.func41 (by kernel_rfl) rfl #[.agg #[.int .i64 a, .int .i64 t, .int .i64 d]] (by rfl) rfl rfl (by (try simp only [List.map_toArray, List.map_cons, List.map_nil]); first | done | rfl) ?_
  refine (HA.out _).mono ?_
  rintro e w4 ⟨rfl, he⟩
  refine ⟨_, rfl, ?_⟩
  have hb : Below w3.heap.size w3 w4 := he ▸ (Below.refl _ _).alloc (Nat.le_refl _) _
  have HB := Aside0.mk (gd_step hx HB.out hb)
  have HG := Aside0.mk (HG.out.step hb)
  have hdn : Dc w4 w3.heap.size (a + 1) t d := he ▸ Dc.fresh _ _ _ _ _
  obtain ⟨z4, hz4⟩ : ∃ z, w3.heap.size = z := ⟨_, rfl⟩
  rw [hz4] at hdn ⊢
  clear hb he hz4
  refine hK.out _ _ HG.out (fun hHeld => ?_)
  clear hK K
  refine norm_ (a' := ?_) ?_ ?_
  rotate_left
  · show Act.put _ (some 119) _ = _
    simp only [Act.put, List.setIfInBounds_toArray, List.set_cons_zero, List.set_cons_succ]
    rfl
  refine pure_ (i := 6) (N := some 120) (v := ?_) (a' := ?_) #[true, true, true, true, true, true, true, false, false, false, false, true, false, true, true, true, false, false, false, false, false, false, false, false] rfl rfl (any_of HT_.out (by kernel_rfl)) (fun _ _ _ h => h) (Or.inl ⟨by rfl, ?_⟩) ?_ ?_
  rotate_left
  · intro w'
    go_simp
    with_reducible rfl
  rotate_left
  · simp only [Act.put, List.setIfInBounds_toArray, List.set_cons_zero, List.set_cons_succ]
    rfl
  refine one_ (i := 7) (N := some 121) #[true, true, true, true, true, true, true, true, false, false, false, true, false, true, true, true, false, false, false, false, false, false, false, false] rfl rfl (one_of HT_.out (by kernel_rfl)) (by decide) (fun K hK => ?_)
  obtain ⟨g0, g1, g2⟩ := hdn
  refine value_ (w1 := ?_) (v := ?_) (by rfl) rfl ?_ ?_
  rotate_left 2
  · go_simp
    constructor
    · rfl
    · rfl
  clear g0 g1 g2
  refine hK.out _ _ HG.out (fun hHeld => ?_)
  clear hK K
  refine norm_ (a' := ?_) ?_ ?_
  rotate_left
  · show Act.put _ (some 121) _ = _
    simp only [Act.put, List.setIfInBounds_toArray, List.set_cons_zero, List.set_cons_succ]
    rfl
  refine one_ (i := 8) (N := some 122) #[true, true, true, true, true, true, true, true, true, false, false, true, false, true, true, true, false, false, false, false, false, false, false, false] rfl rfl (one_of HT_.out (by kernel_rfl)) (by decide) (fun K hK => ?_)
  refine goes_ Tryd.func44 (by kernel_rfl) rfl #[.agg #[.int .i64 (a + 1), .int .i64 t, .int .i64 d]] (by rfl) rfl rfl (by (try simp only [List.map_toArray, List.map_cons, List.map_nil]); first | done | rfl) ?_
  refine (HD.out _).mono ?_
  rintro e w5 ⟨rfl, he⟩
  refine ⟨_, rfl, ?_⟩
  have hb : Below w4.heap.size w4 w5 := he ▸ (Below.refl _ _).alloc (Nat.le_refl _) _
  have HB := Aside0.mk (gd_step hx HB.out hb)
  have HG := Aside0.mk (HG.out.step hb)
  have hdn : Dc w5 w4.heap.size (a + 1) t (d + 1) := he ▸ Dc.fresh _ _ _ _ _
  obtain ⟨z5, hz5⟩ : ∃ z, w4.heap.size = z := ⟨_, rfl⟩
  rw [hz5] at hdn ⊢
  clear hb he hz5
  refine hK.out _ _ HG.out (fun hHeld => ?_)
  clear hK K
  refine norm_ (a' := ?_) ?_ ?_
  rotate_left
  · show Act.put _ (some 122) _ = _
    simp only [Act.put, List.setIfInBounds_toArray, List.set_cons_zero, List.set_cons_succ]
    rfl
  refine one_ (i := 9) (N := some 123) #[true, true, true, true, true, true, true, true, true, true, false, true, false, true, true, true, false, false, false, false, false, false, false, false] rfl rfl (one_of HT_.out (by kernel_rfl)) (by decide) (fun K hK => ?_)
  refine goes_ Tryd.func27 (by kernel_rfl) rfl #[.string (strOfNums [key]), .pointer (some ⟨z5, 0, none⟩)] (by rfl) rfl rfl (by (try simp only [List.map_toArray, List.map_cons, List.map_nil]); first | done | rfl) ?_
  refine (HIk.out _ _ hdn).mono ?_
  rintro e w6 ⟨rfl, hb⟩
  refine ⟨_, rfl, ?_⟩
  have HB := Aside0.mk (gd_step hx HB.out hb)
  have HG := Aside0.mk (HG.out.step hb)
  clear hb hdn
  refine hK.out _ _ HG.out (fun hHeld => ?_)
  clear hK K
  refine norm_ (a' := ?_) ?_ ?_
  rotate_left
  · show Act.put _ (some 123) _ = _
    simp only [Act.put, List.setIfInBounds_toArray, List.set_cons_zero, List.set_cons_succ]
    rfl
  refine pure_ (i := 10) (N := some 124) (v := ?_) (a' := ?_) #[true, true, true, true, true, true, true, true, true, true, true, true, false, true, true, true, false, false, false, false, false, false, false, false] rfl rfl (any_of HT_.out (by kernel_rfl)) (fun _ _ _ h => h) (Or.inl ⟨by rfl, ?_⟩) ?_ ?_
  rotate_left
  · intro w'
    go_simp
    with_reducible rfl
  rotate_left
  · simp only [Act.put, List.setIfInBounds_toArray, List.set_cons_zero, List.set_cons_succ]
    rfl
  refine one_ (i := 12) (N := some 126) #[true, true, true, true, true, true, true, true, true, true, true, true, true, true, true, true, false, false, false, false, false, false, false, false] rfl rfl (one_of HT_.out (by kernel_rfl)) (by decide) (fun K hK => ?_)
  refine goes_ Tryd.func36 (by kernel_rfl) rfl #[.string S] (by rfl) rfl rfl (by (try simp only [List.map_toArray, List.map_cons, List.map_nil]); first | done | rfl) ?_
  refine (HE.out _).mono ?_
  rintro e w7 ⟨rfl, hd⟩
  refine ⟨_, rfl, ?_⟩
  have HB := Aside0.mk (gd_step hx HB.out hd.below)
  have HG := Aside0.mk (HG.out.step hd.below)
  clear hd
  refine hK.out _ _ HG.out (fun hHeld => ?_)
  clear hK K
  refine norm_ (a' := ?_) ?_ ?_
  rotate_left
  · show Act.put _ (some 126) _ = _
    simp only [Act.put, List.setIfInBounds_toArray, List.set_cons_zero, List.set_cons_succ]
    rfl
  refine one_ (i := 16) (N := some 130) #[true, true, true, true, true, true, true, true, true, true, true, true, true, true, true, true, true, false, false, false, false, false, false, false] rfl rfl (one_of HT_.out (by kernel_rfl)) (by decide) (fun K hK => ?_)
  refine goes_ Tryd.func41 (by kernel_rfl) rfl #[.agg #[.int .i64 a, .int .i64 t, .int .i64 d]] (by rfl) rfl rfl (by (try simp only [List.map_toArray, List.map_cons, List.map_nil]); first | done | rfl) ?_
  refine (HA.out _).mono ?_
  rintro e w8 ⟨rfl, he⟩
  refine ⟨_, rfl, ?_⟩
  have hb : Below w7.heap.size w7 w8 := he ▸ (Below.refl _ _).alloc (Nat.le_refl _) _
  have HB := Aside0.mk (gd_step hx HB.out hb)
  have HG := Aside0.mk (HG.out.step hb)
  have hdn : Dc w8 w7.heap.size (a + 1) t d := he ▸ Dc.fresh _ _ _ _ _
  obtain ⟨z8, hz8⟩ : ∃ z, w7.heap.size = z := ⟨_, rfl⟩
  rw [hz8] at hdn ⊢
  clear hb he hz8
  refine hK.out _ _ HG.out (fun hHeld => ?_)
  clear hK K
  refine norm_ (a' := ?_) ?_ ?_
  rotate_left
  · show Act.put _ (some 130) _ = _
    simp only [Act.put, List.setIfInBounds_toArray, List.set_cons_zero, List.set_cons_succ]
    rfl
  refine pure_ (i := 17) (N := some 131) (v := ?_) (a' := ?_) #[true, true, true, true, true, true, true, true, true, true, true, true, true, true, true, true, true, true, false, false, false, false, false, false] rfl rfl (any_of HT_.out (by kernel_rfl)) (fun _ _ _ h => h) (Or.inl ⟨by rfl, ?_⟩) ?_ ?_
  rotate_left
  · intro w'
    go_simp
    with_reducible rfl
  rotate_left
  · simp only [Act.put, List.setIfInBounds_toArray, List.set_cons_zero, List.set_cons_succ]
    rfl
  refine one_ (i := 18) (N := some 132) #[true, true, true, true, true, true, true, true, true, true, true, true, true, true, true, true, true, true, true, false, false, false, false, false] rfl rfl (one_of HT_.out (by kernel_rfl)) (by decide) (fun K hK => ?_)
  obtain ⟨g0, g1, g2⟩ := hdn
  refine value_ (w1 := ?_) (v := ?_) (by rfl) rfl ?_ ?_
  rotate_left 2
  · go_simp
    constructor
    · rfl
    · rfl
  clear g0 g1 g2
  refine hK.out _ _ HG.out (fun hHeld => ?_)
  clear hK K
  refine norm_ (a' := ?_) ?_ ?_
  rotate_left
  · show Act.put _ (some 132) _ = _
    simp only [Act.put, List.setIfInBounds_toArray, List.set_cons_zero, List.set_cons_succ]
    rfl
  refine one_ (i := 19) (N := some 133) #[true, true, true, true, true, true, true, true, true, true, true, true, true, true, true, true, true, true, true, true, false, false, false, false] rfl rfl (one_of HT_.out (by kernel_rfl)) (by decide) (fun K hK => ?_)
  refine goes_ Tryd.func44 (by kernel_rfl) rfl #[.agg #[.int .i64 (a + 1), .int .i64 t, .int .i64 d]] (by rfl) rfl rfl (by (try simp only [List.map_toArray, List.map_cons, List.map_nil]); first | done | rfl) ?_
  refine (HD.out _).mono ?_
  rintro e w9 ⟨rfl, he⟩
  refine ⟨_, rfl, ?_⟩
  have hb : Below w8.heap.size w8 w9 := he ▸ (Below.refl _ _).alloc (Nat.le_refl _) _
  have HB := Aside0.mk (gd_step hx HB.out hb)
  have HG := Aside0.mk (HG.out.step hb)
  have hdn : Dc w9 w8.heap.size (a + 1) t (d + 1) := he ▸ Dc.fresh _ _ _ _ _
  obtain ⟨z9, hz9⟩ : ∃ z, w8.heap.size = z := ⟨_, rfl⟩
  rw [hz9] at hdn ⊢
  clear hb he hz9
  refine hK.out _ _ HG.out (fun hHeld => ?_)
  clear hK K
  refine norm_ (a' := ?_) ?_ ?_
  rotate_left
  · show Act.put _ (some 133) _ = _
    simp only [Act.put, List.setIfInBounds_toArray, List.set_cons_zero, List.set_cons_succ]
    rfl
  refine one_ (i := 20) (N := some 134) #[true, true, true, true, true, true, true, true, true, true, true, true, true, true, true, true, true, true, true, true, true, false, false, false] rfl rfl (one_of HT_.out (by kernel_rfl)) (by decide) (fun K hK => ?_)
  refine goes_ Tryd.func27 (by kernel_rfl) rfl #[.string T, .pointer (some ⟨z9, 0, none⟩)] (by rfl) rfl rfl (by (try simp only [List.map_toArray, List.map_cons, List.map_nil]); first | done | rfl) ?_
  refine (HI.out _ _ hdn).mono ?_
  rintro e w10 ⟨rfl, hb⟩
  refine ⟨_, rfl, ?_⟩
  have HB := Aside0.mk (gd_step hx HB.out hb)
  have HG := Aside0.mk (HG.out.step hb)
  clear hb hdn
  refine hK.out _ _ HG.out (fun hHeld => ?_)
  clear hK K
  refine norm_ (a' := ?_) ?_ ?_
  rotate_left
  · show Act.put _ (some 134) _ = _
    simp only [Act.put, List.setIfInBounds_toArray, List.set_cons_zero, List.set_cons_succ]
    rfl
  refine pure_ (i := 21) (N := some 135) (v := ?_) (a' := ?_) #[true, true, true, true, true, true, true, true, true, true, true, true, true, true, true, true, true, true, true, true, true, true, false, false] rfl rfl (any_of HT_.out (by kernel_rfl)) (fun _ _ _ h => h) (Or.inl ⟨by rfl, ?_⟩) ?_ ?_
  rotate_left
  · intro w'
    go_simp
    with_reducible rfl
  rotate_left
  · simp only [Act.put, List.setIfInBounds_toArray, List.set_cons_zero, List.set_cons_succ]
    rfl
  refine pure_ (i := 22) (N := some 136) (v := ?_) (a' := ?_) #[true, true, true, true, true, true, true, true, true, true, true, true, true, true, true, true, true, true, true, true, true, true, true, false] rfl rfl (any_of HT_.out (by kernel_rfl)) (fun _ _ _ h => h) (Or.inl ⟨by rfl, ?_⟩) ?_ ?_
  rotate_left
  · intro w'
    go_simp
    with_reducible rfl
  rotate_left
  · simp only [Act.put, List.setIfInBounds_toArray, List.set_cons_zero, List.set_cons_succ]
    rfl
  refine last_ (i := 23) (N := none) #[true, true, true, true, true, true, true, true, true, true, true, true, true, true, true, true, true, true, true, true, true, true, true, true] rfl rfl (one_of HT_.out (by kernel_rfl)) (by decide) (fun K hK => ?_)
  obtain ⟨-, -, -, c5, f5⟩ := HG.out
  refine skip_ (w1 := ?_) (by rfl) rfl ?_ ?_
  rotate_left
  · go_simp
    rfl
  refine hK.out _ _ ?_
  clear hK K
  refine done_ (done_of HT_.out (by kernel_rfl)) ?_
  refine NoPanic.normal ?_
  go_wp2_with fail
  have e1 : (w10.setCell ⟨x, 0, none⟩ (.string (((⟨#[97, 123]⟩ ++ strOfNums [key]) ++ W) ++ ⟨#[125]⟩))).cell? ⟨x, 0, none⟩ = some (.string (((⟨#[97, 123]⟩ ++ strOfNums [key]) ++ W) ++ ⟨#[125]⟩)) := World.cell?_setCell_same _ _ _ c5
  have hB := HB.out.setCell (p := ⟨x, 0, none⟩) (Nat.le_refl _) (.string (((⟨#[97, 123]⟩ ++ strOfNums [key]) ++ W) ++ ⟨#[125]⟩))
  refine leaves_cons (f := 34) (args := #[.pointer (some ⟨x, 0, none⟩)]) (by simp) (by simp [go_sem]) ?_
  refine (gs_idle x (((⟨#[97, 123]⟩ ++ strOfNums [key]) ++ W) ++ ⟨#[125]⟩) (by rw [ByteArray.size_append, ByteArray.size_append, ByteArray.size_append]; have := HW.out; show 2 + 1 + W.size + 1 ≤ 255; omega) _ e1).mono ?_
  rintro r u' w'' ⟨rfl, rfl, rfl⟩
  simp [Leaves, settle, results, Tryd.results27, go_sem, e1]
  exact hx ▸ hB
end Go.Proofs.YtnojjfklnihmnaaDoor.Given
end
section
namespace Go.Proofs.YtnojjfklnihmnaaDoor.Given
open Go.RowKit Go.Proofs.YtnojjfklnihmnaaDoorW.PrintWords Go.Proofs.YtnojjfklnihmnaaDoorW.PrintLast Go.Proofs.YtnojjfklnihmnaaDoor.Pl Go.Proofs.YtnojjfklnihmnaaDoor.Utf Go.Proofs.YtnojjfklnihmnaaDoor.Bm Go.Proofs.YtnojjfklnihmnaaDoor.By Go.Proofs.YtnojjfklnihmnaaDoor.SgT Go.Proofs.YtnojjfklnihmnaaDoor.PFnSgOfParts
set_option linter.unusedVariables false
def f27_47.T : Bool × List (List Nat × List Nat) := (true, [([], []), ([], []), ([], []), ([1, 2], [1, 2]), ([3], [3]), ([], []), ([5], [5]), ([6], [6]), ([7, 3], [7]), ([4, 8, 8], [4, 8]), ([0, 9], [0, 9]), ([10, 9, 0, 1, 2, 3, 4, 5, 6, 7, 8, 9, 10], [0, 10])])
def f27_47.B : List Nat := [0, 0, 0, 6, 14, 0, 32, 96, 238, 510, 1023, 2047]
theorem f27_47.tab : rtab .any (opsOf Tryd.f27 47) = f27_47.T := by kernel_rfl
theorem f27_47.bits : waitsOk f27_47.T.2 f27_47.B = true := by kernel_rfl
theorem field72 (a b c : Value) (w : World) : (Instr.field 72 (.agg #[a, b, c]) 0).run Tryd.prog w = .ok a w := by kernel_rfl
theorem field42 (a : Value) (w : World) : (Instr.field 42 (.agg #[a]) 0).run Tryd.prog w = .ok a w := by kernel_rfl
attribute [local go_sem] field72
def cat : List ByteArray → ByteArray
  | [] => ⟨#[]⟩
  | s :: l => s ++ cat l
theorem cat_append (l m : List ByteArray) : cat (l ++ m) = cat l ++ cat m := by
  induction l with
  | nil => show cat m = ⟨#[]⟩ ++ cat m; exact (ByteArray.empty_append).symm
  | cons s l ih => show s ++ cat (l ++ m) = (s ++ cat l) ++ cat m; rw [ih, ByteArray.append_assoc]
theorem cat_take {l : List ByteArray} {i : Nat} {s : ByteArray} (h : l[i]? = some s) : cat (l.take (i + 1)) = cat (l.take i) ++ s := by
  obtain ⟨hi, he⟩ := List.getElem?_eq_some_iff.1 h
  rw [List.take_succ_eq_append_getElem hi, he, cat_append]
  congr 1
  show s ++ ⟨#[]⟩ = s
  exact ByteArray.append_empty
theorem cat_le : ∀ (l : List ByteArray) (i : Nat), (cat (l.take i)).size ≤ (cat l).size
  | [], i => by simp
  | s :: l, 0 => by show (0 : Nat) ≤ _; exact Nat.zero_le _
  | s :: l, i + 1 => by
    have := cat_le l i
    show (s ++ cat (l.take i)).size ≤ (s ++ cat l).size
    rw [ByteArray.size_append, ByteArray.size_append]; omega
set_option maxRecDepth 100000 in
set_option maxHeartbeats 16000000 in
theorem gs_str (S : ByteArray) (Ts Ws : List ByteArray) (hlen : Ts.length = Ws.length) (hk : gsKind S 18) (n118 : (S.toList == [118]) = false) (n103 : (S.toList == [103]) = false)
    (hnum : ∀ w : World, Calls Tryd.prog 37 #[.string S] w fun e w' => e = .returned (.int .i64 Ts.length) ∧ Below w.heap.size w w')
    (hfld : ∀ (i : Nat) (T : ByteArray), Ts[i]? = some T → ∀ w : World, Calls Tryd.prog 38 #[.string S, .int .i64 i] w fun e w' => e = .returned (.agg #[.string T, .string ⟨#[]⟩, .string ⟨#[]⟩]) ∧ Below w.heap.size w w')
    (hW : (cat Ws).size ≤ 253) (hW0 : 0 < (cat Ws).size) (hn : Ts.length ≤ 1000000) (b : Nat) (a t d : Int) (w : World) (hok : ok a t d = true) (ht : -9223372036854775808 ≤ t) (hc : Dc w b a t d)
    (ih : ∀ (i : Nat) (T W : ByteArray), Ts[i]? = some T → Ws[i]? = some W → ∀ (b : Nat) (w : World), Dc w b a (t + 1) d → Calls Tryd.prog 27 #[.string T, .pointer (some ⟨b, 0, none⟩)] w fun r w' => r = .returned (.string W) ∧ Below w.heap.size w w') :
    Calls Tryd.prog 27 #[.string S, .pointer (some ⟨b, 0, none⟩)] w fun r w' => r = .returned (.string ((⟨#[40]⟩ ++ cat Ws) ++ ⟨#[41]⟩)) ∧ Below w.heap.size w w' := by
  have hmf : ∀ (fn : Fn) (first cap : Array Value) (w : World), (Instr.makeFunc fn first cap).run Tryd.prog w = .ok (.func fn first cap) w := fun _ _ _ _ => rfl
  have ht2 : t ≤ 32 := by unfold ok at hok; simp only [Bool.and_eq_true, decide_eq_true_eq] at hok; exact hok.1.2
  have HX := Aside0.mk (hc.kept ((Below.refl _ w).alloc (Nat.le_refl _) (.cells #[.string ⟨#[]⟩] 9)) hc.lt)
  have HL := Aside0.mk hc.lt
  have HK := Aside0.mk hk
  have HO := Aside0.mk hok
  have HI := Aside0.mk ih
  have HN := Aside0.mk hnum
  have HF := Aside0.mk hfld
  have HA := Aside0.mk (fun w => EnterStruct.calls a t d w ht ht2)
  have HW := Aside0.mk (And.intro hW hW0)
  have HTG := Aside0.mk (fun w => dbus_zzTag_Get.calls ⟨#[]⟩ ⟨#[100, 98, 117, 115]⟩ ⟨#[]⟩ w rfl)
  have HLEN := Aside0.mk hlen
  clear hc hk hok ih hW hW0 hnum hfld ht ht2 hlen
  go_enter_defers Tryd.func27, Tryd.ntmps27
  go_wp2_with (first | (go_at_call 33; refine (Valid.calls b a t d true _ HX.out HO.out).mono ?_; rintro r w1 ⟨rfl, rfl⟩) | (go_at_call 35; refine (HK.out _).mono ?_; rintro r w2 ⟨rfl, hd2⟩; obtain ⟨m2, rfl⟩ := hd2.out))
  obtain ⟨w1, hw1⟩ : ∃ w1, (w.alloc (.cells #[.string ⟨#[]⟩] 9)).drewN m2 = w1 := ⟨_, rfl⟩
  have hdc : Dc w1 b a t d := hw1 ▸ HX.out.kept (pw_below_drewN (Below.refl _ _) _) (by have := HL.out; simp; omega)
  obtain ⟨x, hx⟩ : ∃ x, w.heap.size = x := ⟨_, rfl⟩
  have HB : Aside0 (Below x w w1) := ⟨hx ▸ hw1 ▸ gs_newB w _⟩
  have HG : Aside0 (Gh w1 b a t d x) := ⟨⟨hdc.c0, hdc.c1, hdc.c2, hx ▸ hw1 ▸ gs_new w _, hx ▸ hw1 ▸ (by simp)⟩⟩
  rw [hx, hw1]
  clear hw1 HX HL HK HO hdc hd2
  go_loopw [5, 6] (fun s i wr => ∃ j : Nat, j ≤ Ts.length ∧ i = .int .i64 j ∧ s = .string (cat (Ws.take j)) ∧ Aside0 (Below x w wr) ∧ Aside0 (Gh wr b a t d x)) (fun _ i _ => Ts.length - (intOf i).toNat)
  case atStart => exact ⟨0, Nat.zero_le _, rfl, rfl, HB, HG⟩
  case round =>
    clear HB HG
    obtain ⟨j, hj, rfl, rfl, HB, HG⟩ := hrel
    by_cases hlt : j < Ts.length
    · obtain ⟨T, hT⟩ : ∃ T, Ts[j]? = some T := ⟨_, List.getElem?_eq_getElem hlt⟩
      obtain ⟨W, hWj⟩ : ∃ W, Ws[j]? = some W := ⟨_, List.getElem?_eq_getElem (by have := HLEN.out; omega)⟩
      have HFj := Aside0.mk (HF.out j T hT)
      have HIj := Aside0.mk (HI.out j T W hT hWj)
      have HCT := Aside0.mk (cat_take hWj)
      have hle : (cat (Ws.take j)).size + W.size ≤ 253 := by
        have h1 := cat_le Ws (j + 1)
        rw [cat_take hWj, ByteArray.size_append] at h1
        have := HW.out.1
        omega
      have hz1 : ¬ 9223372036854775807 < (cat (Ws.take j)).size + W.size := by omega
      clear hT hWj hle
      go_wp2_with fail
      refine (HN.out _).mono ?_
      rintro r w3 ⟨rfl, hb3⟩
      have HB := Aside0.mk (gd_step hx HB.out hb3)
      have HG := Aside0.mk (HG.out.step hb3)
      clear hb3
      go_wp2_with fail
      refine (HFj.out _).mono ?_
      rintro r w4 ⟨rfl, hb4⟩
      have HB := Aside0.mk (gd_step hx HB.out hb4)
      have HG := Aside0.mk (HG.out.step hb4)
      clear hb4
      have HB := Aside0.mk (gd_step hx HB.out ((Below.refl _ _).alloc (Nat.le_refl _) (.cells #[.string T, .string ⟨#[]⟩, .string ⟨#[]⟩] 72)))
      have HG := Aside0.mk (HG.out.step ((Below.refl _ _).alloc (Nat.le_refl _) (.cells #[.string T, .string ⟨#[]⟩, .string ⟨#[]⟩] 72)))
      go_wp2_with (first | (go_at_call 39; refine (HTG.out _).mono ?_; rintro r w5 ⟨rfl, hd5⟩; obtain ⟨m5, rfl⟩ := hd5.out))
      obtain ⟨w6, hw6⟩ : ∃ w6, (w4.alloc (.cells #[.string T, .string ⟨#[]⟩, .string ⟨#[]⟩] 72)).drewN m5 = w6 := ⟨_, rfl⟩
      have HB : Aside0 (Below x w w6) := ⟨hw6 ▸ pw_below_drewN HB.out m5⟩
      have HG : Aside0 (Gh w6 b a t d x) := ⟨hw6 ▸ HG.out.step (pw_below_drewN (Below.refl _ _) m5)⟩
      rw [hw6]
      clear hw6 hd5
      generalize w4.heap.size = z7
      refine Code.wp_mono NoPanic.le ?_
      refine start_ (n := 12) (S := fun w' => w'.cell? ⟨b, 0, none⟩ = some (.int .i64 a) ∧ w'.cell? ⟨b, 1, none⟩ = some (.int .i64 t) ∧ w'.cell? ⟨b, 2, none⟩ = some (.int .i64 d) ∧ w'.cell? ⟨x, 0, none⟩ = some (.string ⟨#[]⟩) ∧ w'.frozen? ⟨x, 0, none⟩ = false) (ds := [11]) #[false, false, false, false, false, false, false, false, false, false, false, false] (by kernel_rfl) rfl rfl HG.out.drew (fun hHeld => ?_)
      refine with_tabW f27_47.tab f27_47.bits (fun HT_ HW_ => ?_)
      have HB : Aside0 (Below x w w6.drew) := ⟨HB.out.drew⟩
      have HG : Aside0 (Gh w6.drew b a t d x) := ⟨HG.out.drew⟩
      generalize w6.drew = w7 at HB HG hHeld ⊢
      refine pure_ (i := 0) (N := some 74) (v := ?_) (a' := ?_) #[true, false, false, false, false, false, false, false, false, false, false, false] rfl rfl (any_of HT_.out (by kernel_rfl)) (fun _ _ _ h => h) (Or.inl ⟨by rfl, ?_⟩) ?_ ?_
      rotate_left
      · intro w'
        go_simp
        with_reducible rfl
      rotate_left
      · simp only [Act.put, List.setIfInBounds_toArray, List.set_cons_zero, List.set_cons_succ]
        rfl
      refine pure_ (i := 1) (N := some 75) (v := ?_) (a' := ?_) #[true, true, false, false, false, false, false, false, false, false, false, false] rfl rfl (any_of HT_.out (by kernel_rfl)) (fun _ _ _ h => h) (Or.inl ⟨by rfl, ?_⟩) ?_ ?_
      rotate_left
      · intro w'
        go_simp
        with_reducible rfl
      rotate_left
      · simp only [Act.put, List.setIfInBounds_toArray, List.set_cons_zero, List.set_cons_succ]
        rfl
      refine pure_ (i := 2) (N := some 76) (v := ?_) (a' := ?_) #[true, true, true, false, false, false, false, false, false, false, false, false] rfl rfl (any_of HT_.out (by kernel_rfl)) (fun _ _ _ h => h) (Or.inl ⟨by rfl, ?_⟩) ?_ ?_
      rotate_left
      · intro w'
        go_simp
        with_reducible rfl
      rotate_left
      · simp only [Act.put, List.setIfInBounds_toArray, List.set_cons_zero, List.set_cons_succ]
        rfl
      refine pure_ (i := 5) (N := some 79) (v := ?_) (a' := ?_) #[true, true, true, false, false, true, false, false, false, false, false, false] rfl rfl (any_of HT_.out (by kernel_rfl)) (fun _ _ _ h => h) (Or.inl ⟨by rfl, ?_⟩) ?_ ?_
      rotate_left
      · intro w'
        go_simp
        with_reducible rfl
      rotate_left
      · simp only [Act.put, List.setIfInBounds_toArray, List.set_cons_zero, List.set_cons_succ]
        rfl
      refine pure_ (i := 6) (N := some 80) (v := ?_) (a' := ?_) #[true, true, true, false, false, true, true, false, false, false, false, false] rfl rfl (any_of HT_.out (by kernel_rfl)) (fun _ _ _ h => h) (Or.inl ⟨by rfl, ?_⟩) ?_ ?_
      rotate_left
      · intro w'
        go_simp
        with_reducible rfl
      rotate_left
      · simp only [Act.put, List.setIfInBounds_toArray, List.set_cons_zero, List.set_cons_succ]
        rfl
      refine take_ (i := 7) (N := some 81) (v := ?_) (a' := ?_) #[true, true, true, false, false, true, true, true, false, false, false, false] rfl rfl (take_ofW HT_.out HW_.out (by kernel_rfl)) (fun _ _ _ h => h) (Or.inl ⟨by rfl, ?_⟩) hHeld ?_ ?_
      rotate_left
      · rintro w' ⟨s0, s1, s2, s3, s4⟩
        go_simp
        with_reducible rfl
      rotate_left
      · simp only [Act.put, List.setIfInBounds_toArray, List.set_cons_zero, List.set_cons_succ]
        rfl
      refine one_ (i := 3) (N := some 77) #[true, true, true, true, false, true, true, true, false, false, false, false] rfl rfl (one_of HT_.out (by kernel_rfl)) (by decide) (fun K hK => ?_)
      refine goes_ Tryd.func38 (by kernel_rfl) rfl #[.string S, .int .i64 j] (by rfl) rfl rfl (by (try simp only [List.map_toArray, List.map_cons, List.map_nil]); first | done | rfl) ?_
      refine (HFj.out _).mono ?_
      rintro e w8 ⟨rfl, hb⟩
      refine ⟨_, rfl, ?_⟩
      have HB := Aside0.mk (gd_step hx HB.out hb)
      have HG := Aside0.mk (HG.out.step hb)
      clear hb
      refine hK.out _ _ HG.out (fun hHeld => ?_)
      clear hK K
      refine norm_ (a' := ?_) ?_ ?_
      rotate_left
      · show Act.put _ (some 77) _ = _
        simp only [Act.put, List.setIfInBounds_toArray, List.set_cons_zero, List.set_cons_succ]
        rfl
      refine pure_ (i := 4) (N := some 78) (v := ?_) (a' := ?_) #[true, true, true, true, true, true, true, true, false, false, false, false] rfl rfl (any_of HT_.out (by kernel_rfl)) (fun _ _ _ h => h) (Or.inl ⟨by rfl, ?_⟩) ?_ ?_
      rotate_left
      · intro w'
        go_simp
        with_reducible rfl
      rotate_left
      · simp only [Act.put, List.setIfInBounds_toArray, List.set_cons_zero, List.set_cons_succ]
        rfl
      refine one_ (i := 8) (N := some 82) #[true, true, true, true, true, true, true, true, true, false, false, false] rfl rfl (one_of HT_.out (by kernel_rfl)) (by decide) (fun K hK => ?_)
      refine goes_ Tryd.func40 (by kernel_rfl) rfl #[.agg #[.int .i64 a, .int .i64 t, .int .i64 d]] (by rfl) rfl rfl (by (try simp only [List.map_toArray, List.map_cons, List.map_nil]); first | done | rfl) ?_
      refine (HA.out _).mono ?_
      rintro e w9 ⟨rfl, he⟩
      refine ⟨_, rfl, ?_⟩
      have hb : Below w8.heap.size w8 w9 := he ▸ (Below.refl _ _).alloc (Nat.le_refl _) _
      have HB := Aside0.mk (gd_step hx HB.out hb)
      have HG := Aside0.mk (HG.out.step hb)
      have hdn : Dc w9 w8.heap.size a (t + 1) d := he ▸ Dc.fresh _ _ _ _ _
      obtain ⟨z9, hz9⟩ : ∃ z, w8.heap.size = z := ⟨_, rfl⟩
      rw [hz9] at hdn ⊢
      clear hb he hz9
      refine hK.out _ _ HG.out (fun hHeld => ?_)
      clear hK K
      refine norm_ (a' := ?_) ?_ ?_
      rotate_left
      · show Act.put _ (some 82) _ = _
        simp only [Act.put, List.setIfInBounds_toArray, List.set_cons_zero, List.set_cons_succ]
        rfl
      refine one_ (i := 9) (N := some 83) #[true, true, true, true, true, true, true, true, true, true, false, false] rfl rfl (one_of HT_.out (by kernel_rfl)) (by decide) (fun K hK => ?_)
      refine goes_ Tryd.func27 (by kernel_rfl) rfl #[.string T, .pointer (some ⟨z9, 0, none⟩)] (by rfl) rfl rfl (by (try simp only [List.map_toArray, List.map_cons, List.map_nil]); first | done | rfl) ?_
      refine (HIj.out _ _ hdn).mono ?_
      rintro e w10 ⟨rfl, hb⟩
      refine ⟨_, rfl, ?_⟩
      have HB := Aside0.mk (gd_step hx HB.out hb)
      have HG := Aside0.mk (HG.out.step hb)
      clear hb hdn
      refine hK.out _ _ HG.out (fun hHeld => ?_)
      clear hK K
      refine norm_ (a' := ?_) ?_ ?_
      rotate_left
      · show Act.put _ (some 83) _ = _
        simp only [Act.put, List.setIfInBounds_toArray, List.set_cons_zero, List.set_cons_succ]
        rfl
      refine pure_ (i := 10) (N := some 84) (v := ?_) (a' := ?_) #[true, true, true, true, true, true, true, true, true, true, true, false] rfl rfl (any_of HT_.out (by kernel_rfl)) (fun _ _ _ h => h) (Or.inl ⟨by rfl, ?_⟩) ?_ ?_
      rotate_left
      · intro w'
        go_simp
        with_reducible rfl
      rotate_left
      · simp only [Act.put, List.setIfInBounds_toArray, List.set_cons_zero, List.set_cons_succ]
        rfl
      refine pure_ (i := 11) (N := some 5) (v := ?_) (a' := ?_) #[true, true, true, true, true, true, true, true, true, true, true, true] rfl rfl (any_of HT_.out (by kernel_rfl)) (fun _ _ _ h => h) (Or.inl ⟨by rfl, ?_⟩) ?_ ?_
      rotate_left
      · intro w'
        go_simp
        with_reducible rfl
      rotate_left
      · simp only [Act.put, List.setIfInBounds_toArray, List.set_cons_zero, List.set_cons_succ]
        rfl
      refine done_ (done_of HT_.out (by kernel_rfl)) ?_
      refine NoPanic.normal ?_
      clear hHeld
      rw [← HCT.out]
      go_wp2_with fail
      go_roundw
      case rel => exact ⟨j + 1, by omega, by go_num, rfl, HB, HG⟩
      case measure => simp [intOf]; omega
    · obtain rfl : j = Ts.length := by omega
      have hz : cat (Ws.take Ts.length) = cat Ws := by rw [HLEN.out, List.take_length]
      rw [hz]
      have h0 : 0 < (cat Ws).size := HW.out.2
      have h00 : ¬ (((cat Ws).size : Int) = 0) := by omega
      have hz1 : ¬ 9223372036854775807 < 1 + (cat Ws).size := by have := HW.out; omega
      have hz2 : ¬ 9223372036854775807 < 1 + (cat Ws).size + 1 := by have := HW.out; omega
      obtain ⟨g0, g1, g2, g3, g4⟩ := HG.out
      go_wp2_with fail
      refine (HN.out _).mono ?_
      rintro r w3 ⟨rfl, hb3⟩
      clear g0 g1 g2 g3 g4
      have HB := Aside0.mk (gd_step hx HB.out hb3)
      obtain ⟨-, -, -, c5, f5⟩ := HG.out.step hb3
      clear hb3
      go_wp2_with fail
      have e1 : (w3.setCell ⟨x, 0, none⟩ (.string ((⟨#[40]⟩ ++ cat Ws) ++ ⟨#[41]⟩))).cell? ⟨x, 0, none⟩ = some (.string ((⟨#[40]⟩ ++ cat Ws) ++ ⟨#[41]⟩)) := World.cell?_setCell_same _ _ _ c5
      have hB := HB.out.setCell (p := ⟨x, 0, none⟩) (Nat.le_refl _) (.string ((⟨#[40]⟩ ++ cat Ws) ++ ⟨#[41]⟩))
      refine leaves_cons (f := 34) (args := #[.pointer (some ⟨x, 0, none⟩)]) (by simp) (by simp [go_sem]) ?_
      refine (gs_idle x ((⟨#[40]⟩ ++ cat Ws) ++ ⟨#[41]⟩) (by rw [ByteArray.size_append, ByteArray.size_append]; have := HW.out; show 1 + (cat Ws).size + 1 ≤ 255; omega) _ e1).mono ?_
      rintro r u' w'' ⟨rfl, rfl, rfl⟩
      simp [Leaves, settle, results, Tryd.results27, go_sem, e1]
      exact hx ▸ hB
end Go.Proofs.YtnojjfklnihmnaaDoor.Given
end
