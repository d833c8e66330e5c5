/- Part of the proof of LawFnMsName. -/
import Derived.Test.YtldjigfnagfalaaGreatDoorGvKi
import Derived.Test.YtldjigfnagfalaaGreatDoorGvEt
import Derived.Test.YtldjigfnagfalaaGreatDoorPMnx0
set_option linter.unusedVariables false
set_option linter.unusedSimpArgs false
section
namespace Go.Proofs.YtldjigfnagfalaaGreatDoor.Given
open Go.RowKit Go.Proofs.YtldjigfnagfalaaGreatDoorW.PrintWords Go.Proofs.YtldjigfnagfalaaGreatDoorW.PrintLast Go.Proofs.YtldjigfnagfalaaGreatDoorW.PrintMore Go.Proofs.YtldjigfnagfalaaGreatDoor.PMi
set_option linter.unusedVariables false
set_option maxHeartbeats 1000000 in
theorem doorsIn_nil (A : Option Addr) (c : Nat) (w : World) : Calls Tryz.prog 27 #[.slice A 0 c] w fun r w' => r = .returned (.slice none 0 0) ∧ w = w' := by
  go_enter Tryz.func27, Tryz.ntmps27
  go_wp2_with fail
  go_loopw [3, 8] (fun v i wr => Aside0 (v = .slice none 0 0 ∧ i = .int .i64 0 ∧ w = wr)) (fun _ _ _ => 0)
  case atStart => exact ⟨rfl, rfl, rfl⟩
  case round =>
    obtain ⟨rfl, rfl, rfl⟩ := hrel
    go_wp2_with fail
    go_ret
    exact ⟨rfl, rfl⟩
theorem mkm (W : World) : (Instr.makeMap 107 none).run Tryz.prog W = .ok (.map (some W.heap.size)) (W.alloc (.map #[] 0)) := by simp [Instr.makeMap]
attribute [local go_sem] mkm
def HV.kd : HV → Int
  | .path _ => 111
  | .str _ => 115
  | .num _ => 117
def HV.n : HV → Int
  | .num v => v
  | _ => 0
def HV.s : HV → ByteArray
  | .path S => S
  | .str S => S
  | .num _ => ⟨#[]⟩
def d89 (p : Nat × HV) : S89 := ⟨p.1, ⟨p.2.kd, p.2.n, p.2.s, []⟩⟩
def f33_1.T : Bool × List (List Nat × List Nat) := (true, [([], []), ([0], [0]), ([], []), ([2], [2]), ([], []), ([], []), ([5], [5]), ([6], [6]), ([], []), ([8], [8]), ([1, 3, 4, 7, 9], [1, 3, 4, 7, 9]), ([10], [10]), ([11, 7, 0, 1, 2, 3, 4, 5, 6, 7, 8, 9, 10, 11], [11])])
def f33_1.B : List Nat := [0, 1, 0, 4, 0, 0, 32, 96, 0, 256, 1023, 2047, 4095]
theorem f33_1.tab : rtab .any (opsOf Tryz.f33 1) = f33_1.T := by kernel_rfl
theorem f33_1.bits : waitsOk f33_1.T.2 f33_1.B = true := by kernel_rfl
def f33_5.T : Bool × List (List Nat × List Nat) := (true, [([], []), ([0], [0]), ([1], [1]), ([2], [2]), ([], []), ([4], [4]), ([], []), ([6], [6]), ([7], [7]), ([8, 8], [8]), ([3, 5, 9, 9, 0, 1, 2, 3, 4, 5, 6, 7, 8, 9], [3, 5, 9])])
def f33_5.B : List Nat := [0, 1, 3, 7, 0, 16, 0, 64, 192, 448, 1023]
theorem f33_5.tab : rtab .any (opsOf Tryz.f33 5) = f33_5.T := by kernel_rfl
theorem f33_5.bits : waitsOk f33_5.T.2 f33_5.B = true := by kernel_rfl
theorem doorIn_hv (v : HV) (hv : v.Fine) (A : Option Addr) (l c : Nat) (w : World) : Calls Tryz.prog 38 #[.agg #[.int .u8 v.kd, .int .u64 v.n, .string v.s, .slice A l c]] w fun r w' => r = .returned (.iface v.T v.y) ∧ Below w.heap.size w w' := by
  cases v with
  | path S => exact doorIn_o S 0 A l c w
  | str S => exact doorIn_s S 0 A l c w
  | num v => exact doorIn_u ⟨#[]⟩ v hv A l c w
theorem mkVar_hv (v : HV) (w : World) : Calls Tryz.prog 39 #[.iface v.T v.y] w fun r w' => r = .returned v.cell ∧ Below w.heap.size w w' := by
  cases v with
  | path S => exact mkVar_o S w
  | str S => exact mkVar_s S w
  | num v => exact mkVar_u v w
set_option maxHeartbeats 8000000 in
set_option maxRecDepth 100000 in
theorem doorMsg (t s : Nat) (F : List (Nat × HV)) (hFl : F.length ≤ 10) (hF : ∀ x ∈ F, x.1 < 256 ∧ x.2.Fine) (hd : (F.map (·.1)).Nodup) (A A4 : Option Addr) (c c4 : Nat) (w : World) (hC : Kd.C k89 w A F.length (F.map d89)) :
    Calls Tryz.prog 33 #[.agg #[.int .u8 t, .int .u8 0, .int .u32 s, .slice A F.length c, .slice A4 0 c4]] w fun e w' => ∃ m r, e = .returned (.pointer (some ⟨m, 0, none⟩)) ∧ w'.heap[m]? = some (msgCells t r s) ∧ MapIs w' r F ∧ Below w.heap.size w w' := by
  have HC := Aside0.mk hC
  have HF := Aside0.mk hF
  have HD := Aside0.mk hd
  clear hF hd
  clear hC
  go_enter Tryz.func33, Tryz.ntmps33
  go_wp2_with fail
  obtain ⟨x, hx⟩ : ∃ x, w.heap.size = x := ⟨_, rfl⟩
  have BX : Aside0 ((w.alloc (.cells #[.int .u8 t, .int .u8 0, .int .u32 s, .slice A F.length c, .slice A4 0 c4] 62)).heap[x]? = some (.cells #[.int .u8 t, .int .u8 0, .int .u32 s, .slice A F.length c, .slice A4 0 c4] 62)) := ⟨hx ▸ heap_alloc_new w _⟩
  have HB : Aside0 (Below x w (w.alloc (.cells #[.int .u8 t, .int .u8 0, .int .u32 s, .slice A F.length c, .slice A4 0 c4] 62))) := ⟨hx ▸ (Below.refl _ w).alloc (Nat.le_refl _) _⟩
  have hz1 : (w.alloc (.cells #[.int .u8 t, .int .u8 0, .int .u32 s, .slice A F.length c, .slice A4 0 c4] 62)).heap.size = x + 1 := by simp; omega
  rw [hx]
  generalize w.alloc (.cells #[.int .u8 t, .int .u8 0, .int .u32 s, .slice A F.length c, .slice A4 0 c4] 62) = W1 at BX HB hz1 ⊢
  refine start_ (n := 13) (S := fun w' => w'.cell? ⟨x, 0, none⟩ = some (.int .u8 t) ∧ w'.cell? ⟨x, 1, none⟩ = some (.int .u8 0) ∧ w'.cell? ⟨x, 2, none⟩ = some (.int .u32 s) ∧ w'.cell? ⟨x, 4, none⟩ = some (.slice A4 0 c4)) (ds := []) #[false, false, false, false, false, false, false, false, false, false, false, false, false] (by kernel_rfl) rfl rfl ⟨(blk_cell BX.out 0).trans rfl, (blk_cell BX.out 1).trans rfl, (blk_cell BX.out 2).trans rfl, (blk_cell BX.out 4).trans rfl⟩ (fun hHeld => ?_)
  refine with_tabW f33_1.tab f33_1.bits (fun HT_ HW_ => ?_)
  have BX := Aside0.mk (blk_drew BX.out)
  have HB := Aside0.mk HB.out.drew
  have hz2 : W1.drew.heap.size = x + 1 := hz1
  clear hz1
  generalize W1.drew = W2 at BX HB hz2 hHeld ⊢
  refine pure_ (i := 0) (N := some 6) (v := ?_) (a' := ?_) #[true, false, false, false, false, false, false, false, false, false, false, false, false] rfl rfl (any_of HT_.out (by kernel_rfl)) (fun _ _ _ h => h) (Or.inl ⟨by rfl, ?_⟩) ?_ ?_
  rotate_left
  · intro w'
    go_simp
    with_reducible rfl
  rotate_left
  · simp only [Act.put, List.setIfInBounds_toArray, List.set_cons_zero, List.set_cons_succ]
    rfl
  refine pure_ (i := 2) (N := some 8) (v := ?_) (a' := ?_) #[true, false, true, false, false, false, false, false, false, false, false, false, false] rfl rfl (any_of HT_.out (by kernel_rfl)) (fun _ _ _ h => h) (Or.inl ⟨by rfl, ?_⟩) ?_ ?_
  rotate_left
  · intro w'
    go_simp
    with_reducible rfl
  rotate_left
  · simp only [Act.put, List.setIfInBounds_toArray, List.set_cons_zero, List.set_cons_succ]
    rfl
  refine pure_ (i := 5) (N := some 11) (v := ?_) (a' := ?_) #[true, false, true, false, false, true, false, false, false, false, false, false, false] rfl rfl (any_of HT_.out (by kernel_rfl)) (fun _ _ _ h => h) (Or.inl ⟨by rfl, ?_⟩) ?_ ?_
  rotate_left
  · intro w'
    go_simp
    with_reducible rfl
  rotate_left
  · simp only [Act.put, List.setIfInBounds_toArray, List.set_cons_zero, List.set_cons_succ]
    rfl
  refine pure_ (i := 8) (N := some 14) (v := ?_) (a' := ?_) #[true, false, true, false, false, true, false, false, true, false, false, false, false] rfl rfl (any_of HT_.out (by kernel_rfl)) (fun _ _ _ h => h) (Or.inl ⟨by rfl, ?_⟩) ?_ ?_
  rotate_left
  · intro w'
    go_simp
    with_reducible rfl
  rotate_left
  · simp only [Act.put, List.setIfInBounds_toArray, List.set_cons_zero, List.set_cons_succ]
    rfl
  refine take_ (i := 1) (N := some 7) (v := ?_) (a' := ?_) #[true, true, true, false, false, true, false, false, true, false, false, false, false] rfl rfl (take_ofW HT_.out HW_.out (by kernel_rfl)) (fun _ _ _ h => h) (Or.inl ⟨by rfl, ?_⟩) hHeld ?_ ?_
  rotate_left
  · rintro w' ⟨s0, s1, s2, s4⟩
    go_simp
    with_reducible rfl
  rotate_left
  · simp only [Act.put, List.setIfInBounds_toArray, List.set_cons_zero, List.set_cons_succ]
    rfl
  refine take_ (i := 3) (N := some 9) (v := ?_) (a' := ?_) #[true, true, true, true, false, true, false, false, true, false, false, false, false] rfl rfl (take_ofW HT_.out HW_.out (by kernel_rfl)) (fun _ _ _ h => h) (Or.inl ⟨by rfl, ?_⟩) hHeld ?_ ?_
  rotate_left
  · rintro w' ⟨s0, s1, s2, s4⟩
    go_simp
    with_reducible rfl
  rotate_left
  · simp only [Act.put, List.setIfInBounds_toArray, List.set_cons_zero, List.set_cons_succ]
    rfl
  refine take_ (i := 6) (N := some 12) (v := ?_) (a' := ?_) #[true, true, true, true, false, true, true, false, true, false, false, false, false] rfl rfl (take_ofW HT_.out HW_.out (by kernel_rfl)) (fun _ _ _ h => h) (Or.inl ⟨by rfl, ?_⟩) hHeld ?_ ?_
  rotate_left
  · rintro w' ⟨s0, s1, s2, s4⟩
    go_simp
    with_reducible rfl
  rotate_left
  · simp only [Act.put, List.setIfInBounds_toArray, List.set_cons_zero, List.set_cons_succ]
    rfl
  refine take_ (i := 9) (N := some 15) (v := ?_) (a' := ?_) #[true, true, true, true, false, true, true, false, true, true, false, false, false] rfl rfl (take_ofW HT_.out HW_.out (by kernel_rfl)) (fun _ _ _ h => h) (Or.inl ⟨by rfl, ?_⟩) hHeld ?_ ?_
  rotate_left
  · rintro w' ⟨s0, s1, s2, s4⟩
    go_simp
    with_reducible rfl
  rotate_left
  · simp only [Act.put, List.setIfInBounds_toArray, List.set_cons_zero, List.set_cons_succ]
    rfl
  refine join_ (σ := Unit) 3 #[true, true, true, true, true, true, true, true, true, true, false, false, false] (fun _ => [(10, .map (some (x + 1))), (13, .slice none 0 0)]) (fun _ w' => (w'.cell? ⟨x, 0, none⟩ = some (.int .u8 t) ∧ w'.cell? ⟨x, 1, none⟩ = some (.int .u8 0) ∧ w'.cell? ⟨x, 2, none⟩ = some (.int .u32 s) ∧ w'.cell? ⟨x, 4, none⟩ = some (.slice A4 0 c4)) ∧ w' = W2.alloc (.map #[] 0)) ?cont_ ?_
  rotate_left
  · intro hCont
    refine two_ (i := 4) (j := 7) (Ni := some 10) (Nj := some 13) #[true, true, true, true, true, true, true, false, true, true, false, false, false] #[true, true, true, true, false, true, true, true, true, true, false, false, false] rfl rfl rfl rfl (two_of HT_.out (by kernel_rfl)) (by decide) (by decide) (fun K hK => ?_) (fun K hK => ?_)
    · refine value_ (w1 := ?_) (v := ?_) (by rfl) rfl ?_ ?_
      rotate_left 2
      · go_simp
        constructor
        · rfl
        · rfl
      refine hK.out _ _ ⟨(blk_cell (blk_alloc BX.out (.map #[] 0)) 0).trans rfl, (blk_cell (blk_alloc BX.out (.map #[] 0)) 1).trans rfl, (blk_cell (blk_alloc BX.out (.map #[] 0)) 2).trans rfl, (blk_cell (blk_alloc BX.out (.map #[] 0)) 4).trans rfl⟩ (fun hHeld => ?_)
      clear hK K
      refine norm_ (a' := ?_) ?_ ?_
      rotate_left
      · show Act.put _ (some 10) _ = _
        simp only [Act.put, List.setIfInBounds_toArray, List.set_cons_zero, List.set_cons_succ]
        rfl
      refine one_ (i := 7) (N := some 13) #[true, true, true, true, true, true, true, true, true, true, false, false, false] rfl rfl (one_of HT_.out (by kernel_rfl)) (by decide) (fun K hK => ?_)
      refine goes_ Tryz.func27 (by kernel_rfl) rfl #[.slice A4 0 c4] (by rfl) rfl rfl (by (try simp only [List.map_toArray, List.map_cons, List.map_nil]); first | done | rfl) ?_
      refine (doorsIn_nil A4 c4 _).mono ?_
      rintro e Wd ⟨rfl, rfl⟩
      refine ⟨_, rfl, ?_⟩
      refine hK.out _ _ ⟨(blk_cell (blk_alloc BX.out (.map #[] 0)) 0).trans rfl, (blk_cell (blk_alloc BX.out (.map #[] 0)) 1).trans rfl, (blk_cell (blk_alloc BX.out (.map #[] 0)) 2).trans rfl, (blk_cell (blk_alloc BX.out (.map #[] 0)) 4).trans rfl⟩ (fun hHeld => ?_)
      clear hK K
      refine norm_ (a' := ?_) ?_ ?_
      rotate_left
      · show Act.put _ (some 13) _ = _
        simp only [Act.put, List.setIfInBounds_toArray, List.set_cons_zero, List.set_cons_succ]
        rfl
      exact norm_ (by simp only [putAll, Act.put, List.setIfInBounds_toArray, List.set_cons_zero, List.set_cons_succ]) (hCont () _ ⟨hHeld, rfl⟩)
    · refine goes_ Tryz.func27 (by kernel_rfl) rfl #[.slice A4 0 c4] (by rfl) rfl rfl (by (try simp only [List.map_toArray, List.map_cons, List.map_nil]); first | done | rfl) ?_
      refine (doorsIn_nil A4 c4 _).mono ?_
      rintro e Wd ⟨rfl, rfl⟩
      refine ⟨_, rfl, ?_⟩
      refine hK.out _ _ ⟨(blk_cell BX.out 0).trans rfl, (blk_cell BX.out 1).trans rfl, (blk_cell BX.out 2).trans rfl, (blk_cell BX.out 4).trans rfl⟩ (fun hHeld => ?_)
      clear hK K
      refine norm_ (a' := ?_) ?_ ?_
      rotate_left
      · show Act.put _ (some 13) _ = _
        simp only [Act.put, List.setIfInBounds_toArray, List.set_cons_zero, List.set_cons_succ]
        rfl
      refine one_ (i := 4) (N := some 10) #[true, true, true, true, true, true, true, true, true, true, false, false, false] rfl rfl (one_of HT_.out (by kernel_rfl)) (by decide) (fun K hK => ?_)
      refine value_ (w1 := ?_) (v := ?_) (by rfl) rfl ?_ ?_
      rotate_left 2
      · go_simp
        constructor
        · rfl
        · rfl
      refine hK.out _ _ ⟨(blk_cell (blk_alloc BX.out (.map #[] 0)) 0).trans rfl, (blk_cell (blk_alloc BX.out (.map #[] 0)) 1).trans rfl, (blk_cell (blk_alloc BX.out (.map #[] 0)) 2).trans rfl, (blk_cell (blk_alloc BX.out (.map #[] 0)) 4).trans rfl⟩ (fun hHeld => ?_)
      clear hK K
      refine norm_ (a' := ?_) ?_ ?_
      rotate_left
      · show Act.put _ (some 10) _ = _
        simp only [Act.put, List.setIfInBounds_toArray, List.set_cons_zero, List.set_cons_succ]
        rfl
      exact norm_ (by simp only [putAll, Act.put, List.setIfInBounds_toArray, List.set_cons_zero, List.set_cons_succ]) (hCont () _ ⟨hHeld, rfl⟩)
  rintro ⟨⟩ W3 ⟨hHeld, hW3⟩
  have BX3 : Aside0 (W3.heap[x]? = some (.cells #[.int .u8 t, .int .u8 0, .int .u32 s, .slice A F.length c, .slice A4 0 c4] 62)) := ⟨hW3 ▸ blk_alloc BX.out _⟩
  have HM3 : Aside0 (W3.heap[x + 1]? = some (.map #[] 0)) := ⟨by rw [hW3, ← hz2]; exact heap_alloc_new W2 _⟩
  have HB3 : Aside0 (Below x w W3) := ⟨by rw [hW3]; exact HB.out.alloc (by omega) _⟩
  have hz3 : W3.heap.size = x + 2 := by rw [hW3]; simp; omega
  clear hW3 BX HB hz2
  refine norm_ (a' := ?_) ?_ ?_
  rotate_left
  · show putAll _ [(10, _), (13, _)] = _
    simp only [putAll, Act.put, List.setIfInBounds_toArray, List.set_cons_zero, List.set_cons_succ]
    rfl
  refine pure_ (i := 10) (N := some 16) (v := ?_) (a' := ?_) #[true, true, true, true, true, true, true, true, true, true, true, false, false] rfl rfl (any_of HT_.out (by kernel_rfl)) (fun _ _ _ h => h) (Or.inl ⟨by rfl, ?_⟩) ?_ ?_
  rotate_left
  · intro w'
    go_simp
    with_reducible rfl
  rotate_left
  · simp only [Act.put, List.setIfInBounds_toArray, List.set_cons_zero, List.set_cons_succ]
    rfl
  refine one_ (i := 11) (N := some 17) #[true, true, true, true, true, true, true, true, true, true, true, true, false] rfl rfl (one_of HT_.out (by kernel_rfl)) (by decide) (fun K hK => ?_)
  refine value_ (w1 := ?_) (v := ?_) (by rfl) rfl ?_ ?_
  rotate_left 2
  · go_simp
    constructor
    · rfl
    · rfl
  refine hK.out _ _ ⟨(blk_cell (blk_alloc BX3.out _) 0).trans rfl, (blk_cell (blk_alloc BX3.out _) 1).trans rfl, (blk_cell (blk_alloc BX3.out _) 2).trans rfl, (blk_cell (blk_alloc BX3.out _) 4).trans rfl⟩ (fun hHeld => ?_)
  clear hK K
  refine norm_ (a' := ?_) ?_ ?_
  rotate_left
  · show Act.put _ (some 17) _ = _
    simp only [Act.put, List.setIfInBounds_toArray, List.set_cons_zero, List.set_cons_succ]
    rfl
  refine pure_ (i := 12) (N := some 3) (v := ?_) (a' := ?_) #[true, true, true, true, true, true, true, true, true, true, true, true, true] rfl rfl (any_of HT_.out (by kernel_rfl)) (fun _ _ _ h => h) (Or.inl ⟨by rfl, ?_⟩) ?_ ?_
  rotate_left
  · intro w'
    go_simp
    with_reducible rfl
  rotate_left
  · simp only [Act.put, List.setIfInBounds_toArray, List.set_cons_zero, List.set_cons_succ]
    rfl
  refine done_ (done_of HT_.out (by kernel_rfl)) ?_
  have hms : (W3.alloc (.cells #[.int .u8 t, .int .u8 0, .map (some (x + 1)), .slice none 0 0, .int .u32 s] 109)).heap[x + 2]? = some (msgCells t (x + 1) s) := by rw [← hz3]; exact heap_alloc_new W3 _
  have hbx := blk_alloc BX3.out (.cells #[.int .u8 t, .int .u8 0, .map (some (x + 1)), .slice none 0 0, .int .u32 s] 109)
  have hmp := blk_alloc HM3.out (.cells #[.int .u8 t, .int .u8 0, .map (some (x + 1)), .slice none 0 0, .int .u32 s] 109)
  have hB5 : Below x w (W3.alloc (.cells #[.int .u8 t, .int .u8 0, .map (some (x + 1)), .slice none 0 0, .int .u32 s] 109)) := HB3.out.alloc (by omega) _
  try rw [hz3]
  generalize W3.alloc (.cells #[.int .u8 t, .int .u8 0, .map (some (x + 1)), .slice none 0 0, .int .u32 s] 109) = W5 at hms hbx hmp hB5 hHeld ⊢
  have HMS := Aside0.mk hms
  have HMP : Aside0 (MapIs W5 (x + 1) []) := ⟨⟨#[], 0, hmp, MapKept.stamped_empty 0, rfl⟩⟩
  have HB5 := Aside0.mk hB5
  have c3 : W5.cell? ⟨x, 3, none⟩ = some (.slice A F.length c) := (blk_cell hbx 3).trans rfl
  clear hms hbx hmp hB5 BX3 HM3 HB3 hHeld
  go_wp2_with fail
  go_loopw [21] (fun i wr => ∃ j : Nat, j ≤ F.length ∧ i = .int .i64 j ∧ Aside0 (wr.heap[x + 2]? = some (msgCells t (x + 1) s)) ∧ Aside0 (MapIs wr (x + 1) (F.take j)) ∧ Aside0 (Below x w wr)) (fun i _ => F.length - (intOf i).toNat)
  case atStart => exact ⟨0, Nat.zero_le _, rfl, HMS, HMP, HB5⟩
  case round =>
    clear HMS HMP HB5 c3
    obtain ⟨j, hj, rfl, BM, MP, HB⟩ := hrel
    have hzm := Lib.lt_of_heap BM.out
    by_cases hlt : j < F.length
    · obtain ⟨ad, A9, c9, hA, d0, d1, d2, d3, d4, hl9, hC9⟩ := at_T89 (Kd.C_below HC.out (hx ▸ HB.out)) (j : Int) (by omega) (by omega)
      have hrd : rd_T89 (F.map d89) (j : Int) = d89 F[j] := by
        unfold rd_T89
        rw [Int.toNat_natCast, List.getD_eq_getElem?_getD, List.getElem?_map, List.getElem?_eq_getElem hlt]
        rfl
      rw [hrd] at d0 d1 d2 d3 d4 hl9
      have hmem : F[j] ∈ F := List.getElem_mem hlt
      have htk : F.take (j + 1) = F.take j ++ [F[j]] := by rw [List.take_succ_eq_append_getElem hlt]
      have hno : ∀ v', (F[j].1, v') ∉ F.take j := by
        intro v' hv'
        obtain ⟨i, hi, he⟩ := List.getElem_of_mem hv'
        have hi2 : i < j := by rw [List.length_take] at hi; omega
        have hne := (List.pairwise_iff_getElem.1 HD.out) i j (by rw [List.length_map]; omega) (by rw [List.length_map]; exact hlt) hi2
        apply hne
        rw [List.getElem_map, List.getElem_map]
        rw [List.getElem_take] at he
        rw [he]
      obtain ⟨p, hp⟩ : ∃ p, F[j] = p := ⟨_, rfl⟩
      rw [hp] at d0 d1 d2 d3 d4 hl9 hmem htk hno
      have HP := Aside0.mk (HF.out p hmem)
      have HNO := Aside0.mk hno
      have HTK := Aside0.mk htk
      have hl0 : (d89 p).f1.f3.length = 0 := rfl
      rw [hl0] at d4
      have e0 : (d89 p).f0 = (p.1 : Int) := rfl
      have e1 : (d89 p).f1.f0 = p.2.kd := rfl
      have e2 : (d89 p).f1.f1 = p.2.n := rfl
      have e3 : (d89 p).f1.f2 = p.2.s := rfl
      rw [e0] at d0
      rw [e1] at d1
      rw [e2] at d2
      rw [e3] at d3
      simp only [Int.toNat_natCast] at d0 d1 d2 d3 d4
      cases hA
      clear hrd hmem hno htk hp hl0 e0 e1 e2 e3 hl9 hC9
      go_wp2_with fail
      clear d0 d1 d2 d3 d4
      obtain ⟨q, hq⟩ : ∃ q, wr.heap.size = q := ⟨_, rfl⟩
      have BQ : Aside0 ((wr.alloc (.cells #[.int .u8 (p.1 : Int), .int .u8 p.2.kd, .int .u64 p.2.n, .string p.2.s, .slice A9 0 c9] 89)).heap[q]? = some (.cells #[.int .u8 (p.1 : Int), .int .u8 p.2.kd, .int .u64 p.2.n, .string p.2.s, .slice A9 0 c9] 89)) := ⟨hq ▸ heap_alloc_new wr _⟩
      have BM := Aside0.mk (blk_alloc BM.out (.cells #[.int .u8 (p.1 : Int), .int .u8 p.2.kd, .int .u64 p.2.n, .string p.2.s, .slice A9 0 c9] 89))
      have MP : Aside0 (MapIs (wr.alloc (.cells #[.int .u8 (p.1 : Int), .int .u8 p.2.kd, .int .u64 p.2.n, .string p.2.s, .slice A9 0 c9] 89)) (x + 1) (F.take j)) := ⟨MP.out.old (Below.heap_alloc _ _ _ MP.out.lt)⟩
      have HB : Aside0 (Below x w (wr.alloc (.cells #[.int .u8 (p.1 : Int), .int .u8 p.2.kd, .int .u64 p.2.n, .string p.2.s, .slice A9 0 c9] 89))) := ⟨HB.out.alloc (by omega) _⟩
      rw [hq]
      generalize wr.alloc (.cells #[.int .u8 (p.1 : Int), .int .u8 p.2.kd, .int .u64 p.2.n, .string p.2.s, .slice A9 0 c9] 89) = W6 at BQ BM MP HB ⊢
      refine start_ (n := 11) (S := fun w' => w'.cell? ⟨x + 2, 2, none⟩ = some (.map (some (x + 1))) ∧ w'.cell? ⟨q, 0, none⟩ = some (.int .u8 (p.1 : Int)) ∧ w'.cell? ⟨q, 1, none⟩ = some (.int .u8 p.2.kd) ∧ w'.cell? ⟨q, 2, none⟩ = some (.int .u64 p.2.n) ∧ w'.cell? ⟨q, 3, none⟩ = some (.string p.2.s) ∧ w'.cell? ⟨q, 4, none⟩ = some (.slice A9 0 c9)) (ds := [10]) #[false, false, false, false, false, false, false, false, false, false, false] (by kernel_rfl) rfl rfl ⟨(blk_cell BM.out 2).trans rfl, (blk_cell BQ.out 0).trans rfl, (blk_cell BQ.out 1).trans rfl, (blk_cell BQ.out 2).trans rfl, (blk_cell BQ.out 3).trans rfl, (blk_cell BQ.out 4).trans rfl⟩ (fun hHeld => ?_)
      refine with_tabW f33_5.tab f33_5.bits (fun HT_ HW_ => ?_)
      have BQ := Aside0.mk (blk_drew BQ.out)
      have BM := Aside0.mk (blk_drew BM.out)
      have MP : Aside0 (MapIs W6.drew (x + 1) (F.take j)) := ⟨MP.out.old rfl⟩
      have HB := Aside0.mk HB.out.drew
      generalize W6.drew = W7 at BQ BM MP HB hHeld ⊢
      refine pure_ (i := 0) (N := some 25) (v := ?_) (a' := ?_) #[true, false, false, false, false, false, false, false, false, false, false] rfl rfl (any_of HT_.out (by kernel_rfl)) (fun _ _ _ h => h) (Or.inl ⟨by rfl, ?_⟩) ?_ ?_
      rotate_left
      · intro w'
        go_simp
        with_reducible rfl
      rotate_left
      · simp only [Act.put, List.setIfInBounds_toArray, List.set_cons_zero, List.set_cons_succ]
        rfl
      refine pure_ (i := 1) (N := some 26) (v := ?_) (a' := ?_) #[true, true, false, false, false, false, false, false, false, false, false] rfl rfl (any_of HT_.out (by kernel_rfl)) (fun _ _ _ h => h) (Or.inl ⟨by rfl, ?_⟩) ?_ ?_
      rotate_left
      · intro w'
        go_simp
        with_reducible rfl
      rotate_left
      · simp only [Act.put, List.setIfInBounds_toArray, List.set_cons_zero, List.set_cons_succ]
        rfl
      refine pure_ (i := 2) (N := some 27) (v := ?_) (a' := ?_) #[true, true, true, false, false, false, false, false, false, false, false] rfl rfl (any_of HT_.out (by kernel_rfl)) (fun _ _ _ h => h) (Or.inl ⟨by rfl, ?_⟩) ?_ ?_
      rotate_left
      · intro w'
        go_simp
        with_reducible rfl
      rotate_left
      · simp only [Act.put, List.setIfInBounds_toArray, List.set_cons_zero, List.set_cons_succ]
        rfl
      refine take_ (i := 3) (N := some 28) (v := ?_) (a' := ?_) #[true, true, true, true, false, false, false, false, false, false, false] rfl rfl (take_ofW HT_.out HW_.out (by kernel_rfl)) (fun _ _ _ h => h) (Or.inl ⟨by rfl, ?_⟩) hHeld ?_ ?_
      rotate_left
      · rintro w' ⟨s0, s1, s2, s3, s4, s5⟩
        go_simp
        with_reducible rfl
      rotate_left
      · simp only [Act.put, List.setIfInBounds_toArray, List.set_cons_zero, List.set_cons_succ]
        rfl
      refine pure_ (i := 4) (N := some 29) (v := ?_) (a' := ?_) #[true, true, true, true, true, false, false, false, false, false, false] rfl rfl (any_of HT_.out (by kernel_rfl)) (fun _ _ _ h => h) (Or.inl ⟨by rfl, ?_⟩) ?_ ?_
      rotate_left
      · intro w'
        go_simp
        with_reducible rfl
      rotate_left
      · simp only [Act.put, List.setIfInBounds_toArray, List.set_cons_zero, List.set_cons_succ]
        rfl
      refine take_ (i := 5) (N := some 30) (v := ?_) (a' := ?_) #[true, true, true, true, true, true, false, false, false, false, false] rfl rfl (take_ofW HT_.out HW_.out (by kernel_rfl)) (fun _ _ _ h => h) (Or.inl ⟨by rfl, ?_⟩) hHeld ?_ ?_
      rotate_left
      · rintro w' ⟨s0, s1, s2, s3, s4, s5⟩
        go_simp
        with_reducible rfl
      rotate_left
      · simp only [Act.put, List.setIfInBounds_toArray, List.set_cons_zero, List.set_cons_succ]
        rfl
      refine pure_ (i := 6) (N := some 31) (v := ?_) (a' := ?_) #[true, true, true, true, true, true, true, false, false, false, false] rfl rfl (any_of HT_.out (by kernel_rfl)) (fun _ _ _ h => h) (Or.inl ⟨by rfl, ?_⟩) ?_ ?_
      rotate_left
      · intro w'
        go_simp
        with_reducible rfl
      rotate_left
      · simp only [Act.put, List.setIfInBounds_toArray, List.set_cons_zero, List.set_cons_succ]
        rfl
      refine take_ (i := 7) (N := some 32) (v := ?_) (a' := ?_) #[true, true, true, true, true, true, true, true, false, false, false] rfl rfl (take_ofW HT_.out HW_.out (by kernel_rfl)) (fun _ _ _ h => h) (Or.inl ⟨by rfl, ?_⟩) hHeld ?_ ?_
      rotate_left
      · rintro w' ⟨s0, s1, s2, s3, s4, s5⟩
        go_simp
        with_reducible rfl
      rotate_left
      · simp only [Act.put, List.setIfInBounds_toArray, List.set_cons_zero, List.set_cons_succ]
        rfl
      refine one_ (i := 8) (N := some 33) #[true, true, true, true, true, true, true, true, true, false, false] rfl rfl (one_of HT_.out (by kernel_rfl)) (by decide) (fun K hK => ?_)
      refine goes_ Tryz.func38 (by kernel_rfl) rfl #[.agg #[.int .u8 p.2.kd, .int .u64 p.2.n, .string p.2.s, .slice A9 0 c9]] (by rfl) rfl rfl (by (try simp only [List.map_toArray, List.map_cons, List.map_nil]); first | done | rfl) ?_
      refine (doorIn_hv p.2 HP.out.2 A9 0 c9 W7).mono ?_
      rintro e W8 ⟨rfl, hb⟩
      refine ⟨_, rfl, ?_⟩
      have BQ := Aside0.mk (boxed_block BQ.out hb)
      have BM := Aside0.mk (boxed_block BM.out hb)
      have MP : Aside0 (MapIs W8 (x + 1) (F.take j)) := ⟨MP.out.old (hb.block _ MP.out.lt)⟩
      have HB := Aside0.mk (HB.out.trans (hb.mono (by have := HB.out.size; omega)))
      clear hb
      refine hK.out _ _ ⟨(blk_cell BM.out 2).trans rfl, (blk_cell BQ.out 0).trans rfl, (blk_cell BQ.out 1).trans rfl, (blk_cell BQ.out 2).trans rfl, (blk_cell BQ.out 3).trans rfl, (blk_cell BQ.out 4).trans rfl⟩ (fun hHeld => ?_)
      clear hK K
      refine norm_ (a' := ?_) ?_ ?_
      rotate_left
      · show Act.put _ (some 33) _ = _
        simp only [Act.put, List.setIfInBounds_toArray, List.set_cons_zero, List.set_cons_succ]
        rfl
      refine one_ (i := 9) (N := some 34) #[true, true, true, true, true, true, true, true, true, true, false] rfl rfl (one_of HT_.out (by kernel_rfl)) (by decide) (fun K hK => ?_)
      refine goes_ Tryz.func39 (by kernel_rfl) rfl #[.iface p.2.T p.2.y] (by rfl) rfl rfl (by (try simp only [List.map_toArray, List.map_cons, List.map_nil]); first | done | rfl) ?_
      refine (mkVar_hv p.2 W8).mono ?_
      rintro e W9 ⟨rfl, hb⟩
      refine ⟨_, rfl, ?_⟩
      have BQ := Aside0.mk (boxed_block BQ.out hb)
      have BM := Aside0.mk (boxed_block BM.out hb)
      have MP : Aside0 (MapIs W9 (x + 1) (F.take j)) := ⟨MP.out.old (hb.block _ MP.out.lt)⟩
      have HB := Aside0.mk (HB.out.trans (hb.mono (by have := HB.out.size; omega)))
      clear hb
      refine hK.out _ _ ⟨(blk_cell BM.out 2).trans rfl, (blk_cell BQ.out 0).trans rfl, (blk_cell BQ.out 1).trans rfl, (blk_cell BQ.out 2).trans rfl, (blk_cell BQ.out 3).trans rfl, (blk_cell BQ.out 4).trans rfl⟩ (fun hHeld => ?_)
      clear hK K
      refine norm_ (a' := ?_) ?_ ?_
      rotate_left
      · show Act.put _ (some 34) _ = _
        simp only [Act.put, List.setIfInBounds_toArray, List.set_cons_zero, List.set_cons_succ]
        rfl
      refine last_ (i := 10) (N := none) #[true, true, true, true, true, true, true, true, true, true, true] rfl rfl (one_of HT_.out (by kernel_rfl)) (by decide) (fun K hK => ?_)
      obtain ⟨es, clock, hup, hmu⟩ := MP.out.update p.1 p.2 HNO.out (p.1 : Int) rfl
      refine skip_ (w1 := ?_) (by rfl) rfl ?_ ?_
      rotate_left
      · go_simp
        rfl
      refine hK.out _ _ ?_
      clear hK K
      refine done_ (done_of HT_.out (by kernel_rfl)) ?_
      have BM2 : Aside0 (({ W9 with heap := W9.heap.setIfInBounds (x + 1) (.map es clock) } : World).heap[x + 2]? = some (msgCells t (x + 1) s)) := ⟨by
        have h : ({ W9 with heap := W9.heap.setIfInBounds (x + 1) (.map es clock) } : World).heap[x + 2]? = W9.heap[x + 2]? := by simp
        rw [h]; exact BM.out⟩
      have HB2 : Aside0 (Below x w { W9 with heap := W9.heap.setIfInBounds (x + 1) (.map es clock) }) := ⟨below_block HB.out (by omega) _⟩
      have MP2 := Aside0.mk hmu
      clear hup hmu BM BQ MP HB hHeld
      generalize ({ W9 with heap := W9.heap.setIfInBounds (x + 1) (.map es clock) } : World) = W10 at BM2 HB2 MP2 ⊢
      go_wp2_with fail
      go_roundw
      case rel => exact ⟨j + 1, by omega, by go_num, BM2, ⟨by rw [HTK.out]; exact MP2.out⟩, HB2⟩
      case measure => simp [intOf]; omega
    · obtain rfl : j = F.length := by omega
      go_wp2_with fail
      go_ret
      rw [List.take_length] at MP
      exact ⟨_, _, rfl, BM.out, MP.out, hx ▸ HB.out⟩
end Go.Proofs.YtldjigfnagfalaaGreatDoor.Given
end
section
namespace Go.Proofs.YtldjigfnagfalaaGreatDoor.Given
open Go.RowKit Go.Proofs.YtldjigfnagfalaaGreatDoorW.PrintWords Go.Proofs.YtldjigfnagfalaaGreatDoorW.PrintLast Go.Proofs.YtldjigfnagfalaaGreatDoorW.PrintMore Go.Proofs.YtldjigfnagfalaaGreatDoor.PMi
set_option linter.unusedVariables false
structure Good (t s : Nat) (F : List (Nat × HV)) : Prop where
  ht : t < 256
  hs : s < 4294967296
  step : ∀ k, k < 10 → (∃ v, (k, v) ∈ F ∧ (∀ v', (k, v') ∈ F → v' = v) ∧ FB F (k + 1) = FB F k ++ [(k, v)]) ∨ ((∀ v, (k, v) ∉ F) ∧ FB F (k + 1) = FB F k)
  b0 : FB F 0 = []
  b10 : FB F 10 = F
  ne : F ≠ []
  le : F.length ≤ 10
  fine : ∀ x ∈ F, x.1 < 256 ∧ x.2.Fine
  nodup : (F.map (·.1)).Nodup
  valid : ∀ m r w, w.heap[m]? = some (msgCells t r s) → MapIs w r F → Calls Tryz.prog 77 #[.pointer (some ⟨m, 0, none⟩)] w fun e w' => e = .returned .nilIface ∧ Below w.heap.size w w'
theorem dm_idle (p q : Addr) (w : World) :
    CallsD Tryz.prog 32 #[.pointer (some p), .pointer (some q)] .returning w fun e u' w' => e = .returned (.tuple #[]) ∧ u' = .returning ∧ w' = w := by
  refine callsD_of_wpS Tryz.func32 rfl fun c₀ cs hu => ?_
  apply wpS_seq
  apply wpS_region
  simp [wpOpsS, go_sem, recoverD, hu, Tryz.ntmps32, Exit.thenS]
  refine wpS_cond (t := false) (by simp [Act.eval, Array.replicate]) ?_
  simp only [Bool.false_eq_true, if_false]
  refine wpS_of_wp (wp_skip ?_)
  cases c₀
  simp_all [bodyPostS, results, Tryz.results32]
set_option maxHeartbeats 2000000 in
theorem encTo (m ob : Nat) (o : TypeId) (P : World → Prop) (w : World) (h : Calls Tryz.prog 40 #[.pointer (some ⟨m, 0, none⟩), .iface 71 (.pointer (some ⟨ob, 0, none⟩)), .iface o (.agg #[])] w fun e w' => ∃ v, e = .returned (.tuple #[v, .nilIface]) ∧ P w') :
    Calls Tryz.prog 34 #[.pointer (some ⟨m, 0, none⟩), .iface 71 (.pointer (some ⟨ob, 0, none⟩)), .iface o (.agg #[])] w fun e w' => e = .returned .nilIface ∧ P w' := by
  have H := Aside0.mk h
  clear h
  go_enter Tryz.func34, Tryz.ntmps34
  go_wp2_with fail
  refine (H.out).mono ?_
  rintro e w1 ⟨v, rfl, hP⟩
  go_wp2_with fail
  go_ret
  exact ⟨rfl, hP⟩
theorem order7 (big : Bool) (w : World) :
    Calls Tryz.prog 25 #[.bool big] w fun r w' => r = .returned (.iface (ordOf big) (.agg #[])) ∧ w = w' := order big w
theorem al4b (w1 : World) (o1 o2 o3 o4 : Obj) (w2 : World) (h : w2 = (((w1.alloc o1).alloc o2).alloc o3).alloc o4) : w2.heap[w1.heap.size]? = some o1 ∧ w2.heap[w1.heap.size + 1]? = some o2 ∧ w2.heap[w1.heap.size + 2]? = some o3 ∧ w2.heap[w1.heap.size + 3]? = some o4 ∧ Below w1.heap.size w1 w2 ∧ w2.heap.size = w1.heap.size + 4 := by
  obtain ⟨h1, h2, h4, h5, h6⟩ := al4 w1 o1 o2 o3 o4 w2 h
  refine ⟨h1, h2, ?_, h4, h5, h6⟩
  subst h
  have s2 : ((w1.alloc o1).alloc o2).heap.size = w1.heap.size + 2 := by simp
  rw [Below.heap_alloc _ _ _ (by simp)]
  have := heap_alloc_new ((w1.alloc o1).alloc o2) o3
  rwa [s2] at this
set_option maxHeartbeats 16000000 in
set_option maxRecDepth 100000 in
theorem doorMessage (big : Bool) (t s : Nat) (F : List (Nat × HV)) (hG : Good t s F) (A A4 : Option Addr) (c c4 : Nat) (w : World) (hC : Kd.C k89 w A F.length (F.map d89)) :
    Calls Tryz.prog 21 #[.agg #[.int .u8 t, .int .u8 0, .int .u32 s, .slice A F.length c, .slice A4 0 c4], .bool big] w fun r w' => r = .returned (.tuple #[.string ⟨(msgBytes big t s F).toArray⟩, .nilIface]) ∧ Below w.heap.size w w' := by
  have hmf : ∀ (fn : Fn) (first cap : Array Value) (w : World), (Instr.makeFunc fn first cap).run Tryz.prog w = .ok (.func fn first cap) w := fun _ _ _ _ => rfl
  have HG := Aside0.mk hG
  have HC := Aside0.mk hC
  clear hG hC
  go_enter_defers Tryz.func21, Tryz.ntmps21
  go_wp2_with fail
  obtain ⟨w1, hw1⟩ : ∃ w1, ((((w.alloc (.cells #[.int .u8 t, .int .u8 0, .int .u32 s, .slice A F.length c, .slice A4 0 c4] 62)).alloc (.cells #[.string ⟨#[]⟩] 9)).alloc (.cells #[.nilIface] 50)).alloc (.cells #[.slice none 0 0, .int .i64 0, .int .i8 0] 68)) = w1 := ⟨_, rfl⟩
  obtain ⟨h1, h2, h3, h4, h5, h6⟩ := al4b w _ _ _ _ w1 hw1.symm
  rw [hw1]
  obtain ⟨n, hn⟩ : ∃ n, w.heap.size = n := ⟨_, rfl⟩
  rw [hn] at h1 h2 h3 h4 h5 h6 ⊢
  clear hw1 h1
  have HDM := Aside0.mk (doorMsg t s F HG.out.le HG.out.fine HG.out.nodup A A4 c c4 w1 (Kd.C_below HC.out (hn ▸ h5)))
  have HN := Aside0.mk hn
  clear hn
  refine (HDM.out).mono ?_
  rintro r w2 ⟨m, rm, rfl, hm2, hmp2, hb2⟩
  have K0 := Aside0.mk (boxed_block h2 hb2)
  have K1 := Aside0.mk (boxed_block h3 hb2)
  have K2 := boxed_block h4 hb2
  have hB2 : Below n w w2 := h5.trans (hb2.mono (by omega))
  have hz2 := hb2.size
  have hI2 : Lib.IsBuffer 68 5 (n + 3) (n + 3) [] w2 := ⟨Nat.le_refl _, .slice none 0 0, 0, K2, World.ownsRow_nil _ _ _ _, by simp [Value.ownBlock]⟩
  clear h2 h3 h4 h5 hb2 HDM K2
  have HE := Aside0.mk (encTo m (n + 3) (ordOf big) _ w2 (encodeTo big t s HG.out.ht HG.out.hs F HG.out.step HG.out.b0 HG.out.b10 HG.out.ne HG.out.le (fun x hx => hf_ok x (HG.out.fine x hx).1 (HG.out.fine x hx).2) m rm (n + 3) (n + 3) (HG.out.valid m rm) w2 hm2 hmp2 hI2 (by omega)))
  have HB2 := Aside0.mk hB2
  clear hm2 hmp2 hI2 hB2
  go_wp2_with fail
  refine (order7 big _).mono ?_
  rintro r w3 ⟨rfl, rfl⟩
  go_wp2_with fail
  with_reducible refine (HE.out).mono ?_
  rintro r w3 ⟨rfl, hI3, hb3⟩
  have K0 := Aside0.mk ((hb3.block (n + 1) (by omega)).trans K0.out)
  have K1 := Aside0.mk ((hb3.block (n + 2) (by omega)).trans K1.out)
  have HI := Aside0.mk hI3
  have HB3 := Aside0.mk (HB2.out.trans (hb3.mono (by omega)))
  clear hI3 hb3 HE HB2
  go_wp2_with fail
  refine (Tryz.Buffer_String (n + 3) (n + 3) _ w3 HI.out).mono ?_
  rintro r W4 ⟨rfl, k4, hW4⟩
  have K0 : Aside0 (W4.heap[n + 1]? = some (.cells #[.string ⟨#[]⟩] 9 (0, 0))) := ⟨by rw [hW4]; exact K0.out⟩
  have K1 : Aside0 (W4.heap[n + 2]? = some (.cells #[.nilIface] 50 (0, 0))) := ⟨by rw [hW4]; exact K1.out⟩
  have HB4 : Aside0 (Below n w W4) := ⟨hW4 ▸ below_drewN HB3.out k4⟩
  clear hW4 HI HB3
  have s0 : W4.cell? ⟨n + 1, 0, none⟩ = some (.string ⟨#[]⟩) := by rw [Lib.cell_of_heap K0.out]; rfl
  have f0 := Lib.frozen_of_heap K0.out 0
  have s1 : W4.cell? ⟨n + 2, 0, none⟩ = some .nilIface := by rw [Lib.cell_of_heap K1.out]; rfl
  have f1 := Lib.frozen_of_heap K1.out 0
  obtain ⟨S, hS⟩ : ∃ S : ByteArray, ⟨(msgBytes big t s F).toArray⟩ = S := ⟨_, rfl⟩
  rw [hS]
  go_wp2_with fail
  have HF := Aside0.mk ((HB4.out.setCell (p := ⟨n + 1, 0, none⟩) (show n ≤ n + 1 by omega) (.string S)).setCell (p := ⟨n + 2, 0, none⟩) (show n ≤ n + 2 by omega) .nilIface)
  have e0 : ((W4.setCell ⟨n + 1, 0, none⟩ (.string S)).setCell ⟨n + 2, 0, none⟩ .nilIface).cell? ⟨n + 1, 0, none⟩ = some (.string S) := by
    rw [World.cell?_setCell_far _ _ _ _ (show n + 2 ≠ n + 1 by omega)]
    exact World.cell?_setCell_same _ _ _ s0
  have e1 : ((W4.setCell ⟨n + 1, 0, none⟩ (.string S)).setCell ⟨n + 2, 0, none⟩ .nilIface).cell? ⟨n + 2, 0, none⟩ = some .nilIface := by
    have hs : (W4.setCell ⟨n + 1, 0, none⟩ (.string S)).cell? ⟨n + 2, 0, none⟩ = some .nilIface := by
      rw [World.cell?_setCell_far _ _ _ _ (show n + 1 ≠ n + 2 by omega)]
      exact s1
    exact World.cell?_setCell_same _ _ _ hs
  refine leaves_cons (f := 32) (args := #[.pointer (some ⟨n + 1, 0, none⟩), .pointer (some ⟨n + 2, 0, none⟩)]) (by simp) (by simp [go_sem]) ?_
  refine (dm_idle ⟨n + 1, 0, none⟩ ⟨n + 2, 0, none⟩ _).mono ?_
  rintro r u' w'' ⟨rfl, rfl, rfl⟩
  clear s0 f0 s1 f1 K0 K1 HB4
  generalize ((W4.setCell ⟨n + 1, 0, none⟩ (.string S)).setCell ⟨n + 2, 0, none⟩ .nilIface) = W5 at *
  simp [Leaves, settle, results, Tryz.results21, go_sem, e0, e1]
  exact ⟨hS.symm, HN.out ▸ HF.out⟩
end Go.Proofs.YtldjigfnagfalaaGreatDoor.Given
end
