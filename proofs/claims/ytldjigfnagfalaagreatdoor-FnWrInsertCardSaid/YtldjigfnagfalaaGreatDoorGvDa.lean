/- doorIn of an array of numbers. -/
import Derived.Test.YtldjigfnagfalaaGreatDoorGvDi
import Derived.Test.YtldjigfnagfalaaGreatDoorPVax0
namespace Go.Proofs.YtldjigfnagfalaaGreatDoor.Given
open Go.RowKit Go.Proofs.YtldjigfnagfalaaGreatDoorW.PrintWords Go.Proofs.YtldjigfnagfalaaGreatDoorW.PrintLast Go.Proofs.YtldjigfnagfalaaGreatDoor.PVa
set_option linter.unusedVariables false
def f38_51.T : Bool × List (List Nat × List Nat) := (true, [([], []), ([], []), ([1], [1]), ([2], [2]), ([3], [3]), ([], []), ([5], [5]), ([6], [6]), ([4, 7, 6], [4, 7]), ([0, 0, 1, 2, 3, 4, 5, 6, 7, 8], [0]), ([9, 0, 1, 2, 3, 4, 5, 6, 7, 8], [9]), ([10, 8, 8, 0, 1, 2, 3, 4, 5, 6, 7, 8], [8, 10])])
def f38_51.B : List Nat := [0, 0, 2, 6, 14, 0, 32, 96, 254, 511, 1023, 2047]
theorem f38_51.tab : rtab .any (opsOf Tryz.f38 51) = f38_51.T := by kernel_rfl
theorem f38_51.bits : waitsOk f38_51.T.2 f38_51.B = true := by kernel_rfl
theorem info20 : (Tryz.prog.info? 20).map (fun i => (i.zero, i.size, i.bytes)) = some (some .nilIface, 1, 16) := by kernel_rfl
theorem NK.not_brace (k : NK) : ((k.code.toNat : Int) == 123) = false := by cases k <;> rfl
theorem take_succ_getD {ns : List Nat} {j : Nat} (h : j < ns.length) : ns.take (j + 1) = ns.take j ++ [ns.getD j 0] := by
  rw [List.take_succ_eq_append_getElem h, List.getD_eq_getElem?_getD, List.getElem?_eq_getElem h]
  rfl
/-- The numbers of a list of values. -/
def IsNs (k : NK) (l : List S80) (ns : List Nat) : Prop := ns.length = l.length ∧ ∀ i, i < l.length → (rd_T80 l i).f0 = k.code.toNat ∧ (rd_T80 l i).f1 = (ns.getD i 0 : Nat) ∧ ns.getD i 0 < 18446744073709551616
/-- The list of a row of numbers. -/
def numList (k : NK) (big : Bool) (ns : List Nat) : List (Value × List UInt8) := ns.map fun v => (k.val v, k.bytes big v)
theorem isNums_mk (k : NK) (big : Bool) (ns : List Nat) (hv : ∀ i, i < ns.length → ns.getD i 0 < 18446744073709551616) (hn : ns.length ≤ 1000) (p : Nat) (v : Value) (base : Nat) (ok : Nat → Prop) (w : World)
    (hp : w.heap[p]? = some (.cells #[.string ⟨#[k.code]⟩, v] 164 (0, 0))) (hR : (Kd.scalar k.val k.one).R 20 w base ok v ns) : IsNums w k.code (k.size : Int) big p ns.length (numList k big ns) := by
  have c1 : w.cell? ⟨p, 1, none⟩ = some v := by rw [Lib.cell_of_heap hp]; rfl
  refine ⟨by rw [Lib.cell_of_heap hp]; rfl, ?_, by simp [numList], hn⟩
  have hxs : ∀ i x, (numList k big ns)[i]? = some x → i < ns.length ∧ x = (k.val (ns.getD i 0), k.bytes big (ns.getD i 0)) := fun i x hx => by
    obtain ⟨h1, h2⟩ := List.getElem?_eq_some_iff.1 hx
    have h3 : i < ns.length := by simpa [numList] using h1
    refine ⟨h3, ?_⟩
    rw [← h2, List.getD_eq_getElem?_getD, List.getElem?_eq_getElem h3]
    simp [numList]
  have hown := Kd.own_of_R hR
  rcases hown.2 with ⟨rfl, h0⟩ | ⟨g, cap, cur, rfl, hBg, hg, hnc, hcm, hcs, htk⟩
  · refine ⟨none, 0, 0, by rw [h0]; exact c1, fun h => by omega, fun i x hx => ?_⟩
    have := (hxs i x hx).1
    omega
  · refine ⟨some ⟨g, 0, none⟩, cap, g, c1, fun _ => rfl, fun i x hx => ?_⟩
    obtain ⟨hi, rfl⟩ := hxs i x hx
    refine ⟨?_, k.iface _, k.encs big _ (hv i hi), by rw [k.bytes_length]; rfl⟩
    have hj : (encs k.val ns)[i]? = some (k.val (ns.getD i 0)) := by
      rw [List.getD_eq_getElem?_getD, List.getElem?_eq_getElem hi]
      simp [encs, hi]
    rw [← htk, Nat.mul_one] at hj
    have := Lib.cells_of_row hg ns.length i _ hj
    rwa [Lib.addr_add, Nat.zero_add] at this
set_option maxHeartbeats 16000000 in
set_option maxRecDepth 100000 in
theorem doorIn_arr (k : NK) (l : List S80) (ns : List Nat) (hns : IsNs k l ns) (hn : l.length ≤ 1000) (n0 : Int) (A : Option Addr) (m : Nat) (hm : l.length ≤ m) (w : World) (hC : Kd.C k80 w A l.length l) :
    Calls Tryz.prog 38 #[.agg #[.int .u8 97, .int .u64 n0, .string ⟨#[k.code]⟩, .slice A l.length m]] w fun r w' => ∃ p, r = .returned (.iface 162 (.pointer (some ⟨p, 0, none⟩))) ∧ Below w.heap.size w w' ∧ ∀ big, IsNums w' k.code (k.size : Int) big p ns.length (numList k big ns) := by
  have hnb : ((((⟨#[k.code]⟩ : ByteArray)[0]'(show 0 < 1 by decide)).toNat : Int) == 123) = false := k.not_brace
  have HC := Aside0.mk hC
  have HNS := Aside0.mk hns
  clear hC hns
  go_enter Tryz.func38, Tryz.ntmps38
  go_wp2_with fail
  refine (k.doorType _).mono ?_
  rintro r w1 ⟨rfl, rfl⟩
  clear hnb
  go_wp2_with fail
  have hBK0 : ((w.alloc (.cells #[.int .u8 97, .int .u64 n0, .string ⟨#[k.code]⟩, .slice A l.length m] 80)).alloc (.cells #[.string ⟨#[k.code]⟩, .slice none 0 0] 164)).heap[w.heap.size + 1]? = some (.cells #[.string ⟨#[k.code]⟩, .slice none 0 0] 164 (0, 0)) := by
    have := heap_alloc_new (w.alloc (.cells #[.int .u8 97, .int .u64 n0, .string ⟨#[k.code]⟩, .slice A l.length m] 80)) (.cells #[.string ⟨#[k.code]⟩, .slice none 0 0] 164)
    simpa using this
  have hB0 : Below w.heap.size w ((w.alloc (.cells #[.int .u8 97, .int .u64 n0, .string ⟨#[k.code]⟩, .slice A l.length m] 80)).alloc (.cells #[.string ⟨#[k.code]⟩, .slice none 0 0] 164)) := (((Below.refl _ w).alloc (Nat.le_refl _) _).alloc (by simp) _)
  have BK0 := Aside0.mk hBK0
  have HB0 := Aside0.mk hB0
  clear hBK0 hB0
  go_loopw [166] (fun i wr => ∃ j : Nat, j ≤ l.length ∧ i = .int .i64 j ∧ ∃ v, Aside0 (wr.heap[w.heap.size + 1]? = some (.cells #[.string ⟨#[k.code]⟩, v] 164 (0, 0))) ∧ Aside0 ((Kd.scalar k.val k.one).R 20 wr w.heap.size (fun _ => True) v (ns.take j)) ∧ Aside0 (Below w.heap.size w wr)) (fun i _ => l.length - (intOf i).toNat)
  case atStart => exact ⟨0, Nat.zero_le _, rfl, .slice none 0 0, BK0, ⟨Kd.R_nil _ _ _ _ _⟩, HB0⟩
  case round =>
    clear BK0 HB0
    obtain ⟨j, hj, rfl, v, BKP, HO, HB⟩ := hrel
    by_cases hlt : j < l.length
    · obtain ⟨ad, A3, c3, hA, d0, d1, d2, d3, hl3, hC3⟩ := at_T80 (Kd.C_below HC.out HB.out) (j : Int) (by omega) (by omega)
      obtain ⟨e0, e1, e2⟩ := HNS.out.2 j hlt
      rw [e0] at d0
      rw [e1] at d1
      simp only [Int.toNat_natCast] at d0 d1 d2 d3
      obtain ⟨nj, hnj⟩ : ∃ x, ns.getD j 0 = x := ⟨_, rfl⟩
      obtain ⟨sj, hsj⟩ : ∃ x, (rd_T80 l (j : Int)).f2 = x := ⟨_, rfl⟩
      obtain ⟨lj, hlj⟩ : ∃ x, (rd_T80 l (j : Int)).f3.length = x := ⟨_, rfl⟩
      rw [hnj] at d1 e2
      rw [hsj] at d2
      rw [hlj] at d3
      have HE2 := Aside0.mk e2
      have HNJ := Aside0.mk hnj
      cases hA
      clear e0 e1 e2 hC3 hnj hsj hlj hl3
      go_wp2_with fail
      clear d0 d1 d2 d3
      obtain ⟨p, hp⟩ : ∃ p, w.heap.size + 1 = p := ⟨_, rfl⟩
      obtain ⟨q, hq⟩ : ∃ q, wr.heap.size = q := ⟨_, rfl⟩
      rw [hp] at BKP
      have BKQ : Aside0 ((wr.alloc (.cells #[.int .u8 (k.code.toNat : Int), .int .u64 (nj : Int), .string sj, .slice A3 lj c3] 80)).heap[q]? = some (.cells #[.int .u8 (k.code.toNat : Int), .int .u64 (nj : Int), .string sj, .slice A3 lj c3] 80 (0, 0))) := ⟨by rw [← hq]; exact heap_alloc_new _ _⟩
      have BKP := Aside0.mk (blk_alloc BKP.out (.cells #[.int .u8 (k.code.toNat : Int), .int .u64 (nj : Int), .string sj, .slice A3 lj c3] 80))
      have HO := Aside0.mk (Kd.R_alloc HO.out (.cells #[.int .u8 (k.code.toNat : Int), .int .u64 (nj : Int), .string sj, .slice A3 lj c3] 80))
      have HB := Aside0.mk (below_alloc HB.out (.cells #[.int .u8 (k.code.toNat : Int), .int .u64 (nj : Int), .string sj, .slice A3 lj c3] 80))
      rw [hp, hq]
      obtain ⟨W1, hW1⟩ : ∃ W1, wr.alloc (.cells #[.int .u8 (k.code.toNat : Int), .int .u64 (nj : Int), .string sj, .slice A3 lj c3] 80) = W1 := ⟨_, rfl⟩
      rw [hW1] at BKQ BKP HO HB ⊢
      clear hW1
      refine start_ (n := 12) (S := fun w' => w'.cell? ⟨p, 1, none⟩ = some v ∧ w'.cell? ⟨q, 0, none⟩ = some (.int .u8 (k.code.toNat : Int)) ∧ w'.cell? ⟨q, 1, none⟩ = some (.int .u64 (nj : Int)) ∧ w'.cell? ⟨q, 2, none⟩ = some (.string sj) ∧ w'.cell? ⟨q, 3, none⟩ = some (.slice A3 lj c3)) (ds := [11]) #[false, false, false, false, false, false, false, false, false, false, false, false] (by kernel_rfl) rfl rfl ⟨(blk_cell BKP.out 1).trans rfl, (blk_cell BKQ.out 0).trans rfl, (blk_cell BKQ.out 1).trans rfl, (blk_cell BKQ.out 2).trans rfl, (blk_cell BKQ.out 3).trans rfl⟩ (fun hHeld => ?_)
      refine with_tabW f38_51.tab f38_51.bits (fun HT_ HW_ => ?_)
      have BKP := Aside0.mk (blk_drew BKP.out)
      have BKQ := Aside0.mk (blk_drew BKQ.out)
      have HO := Aside0.mk (Kd.R_drew HO.out)
      have HB := Aside0.mk HB.out.drew
      have hzq : q < W1.drew.heap.size := Lib.lt_of_heap BKQ.out
      generalize W1.drew = W2 at BKP BKQ HO HB hzq hHeld ⊢
      refine pure_ (i := 0) (N := some 170) (v := ?_) (a' := ?_) #[true, false, false, false, false, false, false, false, false, false, false, false] rfl rfl (any_of HT_.out (by kernel_rfl)) (fun _ _ _ h => h) (Or.inl ⟨by rfl, ?_⟩) ?_ ?_
      rotate_left
      · intro w'
        go_simp
        with_reducible rfl
      rotate_left
      · simp only [Act.put, List.setIfInBounds_toArray, List.set_cons_zero, List.set_cons_succ]
        rfl
      refine pure_ (i := 1) (N := some 171) (v := ?_) (a' := ?_) #[true, true, false, false, false, false, false, false, false, false, false, false] rfl rfl (any_of HT_.out (by kernel_rfl)) (fun _ _ _ h => h) (Or.inl ⟨by rfl, ?_⟩) ?_ ?_
      rotate_left
      · intro w'
        go_simp
        with_reducible rfl
      rotate_left
      · simp only [Act.put, List.setIfInBounds_toArray, List.set_cons_zero, List.set_cons_succ]
        rfl
      refine pure_ (i := 2) (N := some 172) (v := ?_) (a' := ?_) #[true, true, true, false, false, false, false, false, false, false, false, false] rfl rfl (any_of HT_.out (by kernel_rfl)) (fun _ _ _ h => h) (Or.inl ⟨by rfl, ?_⟩) ?_ ?_
      rotate_left
      · intro w'
        go_simp
        with_reducible rfl
      rotate_left
      · simp only [Act.put, List.setIfInBounds_toArray, List.set_cons_zero, List.set_cons_succ]
        rfl
      refine pure_ (i := 3) (N := some 173) (v := ?_) (a' := ?_) #[true, true, true, true, false, false, false, false, false, false, false, false] rfl rfl (any_of HT_.out (by kernel_rfl)) (fun _ _ _ h => h) (Or.inl ⟨by rfl, ?_⟩) ?_ ?_
      rotate_left
      · intro w'
        go_simp
        with_reducible rfl
      rotate_left
      · simp only [Act.put, List.setIfInBounds_toArray, List.set_cons_zero, List.set_cons_succ]
        rfl
      refine take_ (i := 4) (N := some 174) (v := ?_) (a' := ?_) #[true, true, true, true, true, false, false, false, false, false, false, false] rfl rfl (take_ofW HT_.out HW_.out (by kernel_rfl)) (fun _ _ _ h => h) (Or.inl ⟨by rfl, ?_⟩) hHeld ?_ ?_
      rotate_left
      · rintro w' ⟨s0, s1, s2, s3, s4⟩
        go_simp
        with_reducible rfl
      rotate_left
      · simp only [Act.put, List.setIfInBounds_toArray, List.set_cons_zero, List.set_cons_succ]
        rfl
      refine take_ (i := 5) (N := some 175) (v := ?_) (a' := ?_) #[true, true, true, true, true, true, false, false, false, false, false, false] rfl rfl (take_ofW HT_.out HW_.out (by kernel_rfl)) (fun _ _ _ h => h) (Or.inl ⟨by rfl, ?_⟩) hHeld ?_ ?_
      rotate_left
      · rintro w' ⟨s0, s1, s2, s3, s4⟩
        go_simp
        with_reducible rfl
      rotate_left
      · simp only [Act.put, List.setIfInBounds_toArray, List.set_cons_zero, List.set_cons_succ]
        rfl
      refine one_ (i := 6) (N := some 176) #[true, true, true, true, true, true, true, false, false, false, false, false] rfl rfl (one_of HT_.out (by kernel_rfl)) (by decide) (fun K hK => ?_)
      refine goes_ Tryz.func38 (by kernel_rfl) rfl #[.agg #[.int .u8 (k.code.toNat : Int), .int .u64 (nj : Int), .string sj, .slice A3 lj c3]] (by rfl) rfl rfl (by (try simp only [List.map_toArray, List.map_cons, List.map_nil]); first | done | rfl) ?_
      have hdi := k.doorIn nj HE2.out sj A3 lj c3 W2
      obtain ⟨Tj, xj, hval⟩ := k.iface nj
      rw [hval] at hdi
      have HVAL := Aside0.mk hval
      clear hval
      refine hdi.mono ?_
      clear hdi
      rintro e W3 ⟨rfl, hb⟩
      refine ⟨_, rfl, ?_⟩
      have BKP := Aside0.mk (blk_below BKP.out hb)
      have BKQ := Aside0.mk (blk_below BKQ.out hb)
      have HO := Aside0.mk (Kd.R_below HO.out hb)
      have HB := Aside0.mk (below_step HB.out hb)
      clear hb
      refine hK.out _ _ ⟨(blk_cell BKP.out 1).trans rfl, (blk_cell BKQ.out 0).trans rfl, (blk_cell BKQ.out 1).trans rfl, (blk_cell BKQ.out 2).trans rfl, (blk_cell BKQ.out 3).trans rfl⟩ (fun hHeld => ?_)
      clear hK K
      refine norm_ (a' := ?_) ?_ ?_
      rotate_left
      · show Act.put _ (some 176) _ = _
        simp only [Act.put, List.setIfInBounds_toArray, List.set_cons_zero, List.set_cons_succ]
        rfl
      refine one_ (i := 7) (N := some 177) #[true, true, true, true, true, true, true, true, false, false, false, false] rfl rfl (one_of HT_.out (by kernel_rfl)) (by decide) (fun K hK => ?_)
      refine value_ (w1 := ?_) (v := ?_) (by rfl) rfl ?_ ?_
      rotate_left 2
      · go_simp
        constructor
        · rfl
        · rfl
      refine hK.out _ _ ⟨(blk_cell (blk_alloc BKP.out _) 1).trans rfl, (blk_cell (blk_alloc BKQ.out _) 0).trans rfl, (blk_cell (blk_alloc BKQ.out _) 1).trans rfl, (blk_cell (blk_alloc BKQ.out _) 2).trans rfl, (blk_cell (blk_alloc BKQ.out _) 3).trans rfl⟩ (fun hHeld => ?_)
      clear hK K
      refine norm_ (a' := ?_) ?_ ?_
      rotate_left
      · show Act.put _ (some 177) _ = _
        simp only [Act.put, List.setIfInBounds_toArray, List.set_cons_zero, List.set_cons_succ]
        rfl
      refine one_ (i := 8) (N := some 178) #[true, true, true, true, true, true, true, true, true, false, false, false] rfl rfl (one_of HT_.out (by kernel_rfl)) (by decide) (fun K hK => ?_)
      refine Kd.R_append_step (Kd.scalar k.val k.one) (w0 := w) w.heap.size (by rfl) (.tmp 174) (.tmp 177) 76 20 .nilIface 16 rfl Tryz.underlying76 info20 rfl (show 0 < 1 by decide) (by omega) v (ns.take j) nj [.iface Tj xj] (fun _ => True) (fun k_ => True ∧ some k_ ≠ (v : Value).ownBlock) rfl rfl (show [Value.iface Tj xj] = [k.val nj] by rw [HVAL.out]) (fun _ hk => hk) (fun _ _ => trivial) HO.out HB.out HB.out.size ?aL ?_
      (case aL => have h1_ := List.length_take_le j ns; omega)
      intro v4 W4 ho hb hg hat
      have BKP4 := Aside0.mk (blk_grown BKP.out hg (Kd.R_ne HO.out BKP.out (by decide)))
      have BKQ4 := Aside0.mk (blk_grown BKQ.out hg (Kd.R_ne HO.out BKQ.out (by decide)))
      have HO4 := Aside0.mk ho
      have HB4 := Aside0.mk hb
      clear ho hb hg hat BKP BKQ HO HB
      obtain ⟨Ao4, co4, eo4⟩ := Kd.R_slice HO4.out
      obtain ⟨ln4, hln4⟩ : ∃ x, (ns.take j ++ [nj]).length = x := ⟨_, rfl⟩
      rw [hln4] at eo4
      subst eo4
      refine hK.out _ _ ⟨(blk_cell BKP4.out 1).trans rfl, (blk_cell BKQ4.out 0).trans rfl, (blk_cell BKQ4.out 1).trans rfl, (blk_cell BKQ4.out 2).trans rfl, (blk_cell BKQ4.out 3).trans rfl⟩ (fun hHeld => ?_)
      clear hK K
      refine norm_ (a' := ?_) ?_ ?_
      rotate_left
      · show Act.put _ (some 178) _ = _
        simp only [Act.put, List.setIfInBounds_toArray, List.set_cons_zero, List.set_cons_succ]
        rfl
      refine pure_ (i := 9) (N := some 179) (v := ?_) (a' := ?_) #[true, true, true, true, true, true, true, true, true, true, false, false] rfl rfl (any_of HT_.out (by kernel_rfl)) (fun _ _ _ h => h) (Or.inl ⟨by rfl, ?_⟩) ?_ ?_
      rotate_left
      · intro w'
        go_simp
        with_reducible rfl
      rotate_left
      · simp only [Act.put, List.setIfInBounds_toArray, List.set_cons_zero, List.set_cons_succ]
        rfl
      refine pure_ (i := 10) (N := some 180) (v := ?_) (a' := ?_) #[true, true, true, true, true, true, true, true, true, true, true, false] rfl rfl (any_of HT_.out (by kernel_rfl)) (fun _ _ _ h => h) (Or.inl ⟨by rfl, ?_⟩) ?_ ?_
      rotate_left
      · intro w'
        go_simp
        with_reducible rfl
      rotate_left
      · simp only [Act.put, List.setIfInBounds_toArray, List.set_cons_zero, List.set_cons_succ]
        rfl
      refine last_ (i := 11) (N := none) #[true, true, true, true, true, true, true, true, true, true, true, true] rfl rfl (one_of HT_.out (by kernel_rfl)) (by decide) (fun K hK => ?_)
      have hs4 : W4.cell? ⟨p, 1, none⟩ = some v := (blk_cell BKP4.out 1).trans rfl
      have hf4 := blk_frozen BKP4.out 1
      refine skip_ (w1 := ?_) (by rfl) rfl ?_ ?_
      rotate_left
      · go_simp
        rfl
      refine hK.out _ _ ?_
      clear hK K
      refine done_ (done_of HT_.out (by kernel_rfl)) ?_
      have BKP5 := Aside0.mk (Lib.heap_setCell_same (i := 1) BKP4.out (.slice Ao4 ln4 co4))
      have HO5 := Aside0.mk (Kd.R_set HO4.out BKP4.out (by intro q_ hq_; simp [Kd.scalar] at hq_; omega) 1 (.slice Ao4 ln4 co4))
      have HB5 := Aside0.mk (HB4.out.setCell (p := ⟨p, 1, none⟩) (show w.heap.size ≤ p by omega) (.slice Ao4 ln4 co4))
      clear hs4 hf4 BKP4 BKQ4 HO4 HB4
      subst hp
      go_wp2_with fail
      go_roundw
      case rel => exact ⟨j + 1, by omega, by go_num, .slice Ao4 ln4 co4, BKP5, ⟨by rw [take_succ_getD (by rw [HNS.out.1]; exact hlt), HNJ.out]; exact HO5.out⟩, HB5⟩
      case measure => simp [intOf]; omega
    · obtain rfl : j = l.length := by omega
      go_wp2_with fail
      go_ret
      refine ⟨_, rfl, HB.out, fun big => ?_⟩
      have hl := HNS.out.1
      have hO := HO.out
      rw [List.take_of_length_le (by omega)] at hO
      exact isNums_mk k big ns (fun i hi => (HNS.out.2 i (by omega)).2.2) (by omega) _ _ _ _ _ BKP.out hO
end Go.Proofs.YtldjigfnagfalaaGreatDoor.Given
